import PyProof.Rows.All
import Wide.All
import OpenK.AllK
import Wide.FinOn
import PySem.Challenge.RW_pd0131_01
open PySem PySem.W PyProof.Rows PySem.Calls
set_option Elab.async false
namespace Mine
set_option maxRecDepth 100000
noncomputable def lawP : Program := (OpenRow.toRowW (OpenLaw.row PySem.Challenge.rw_pd0131_01)).prog
noncomputable def lawQ : Program := { lawP with main := { lawP.main with body := [0, 2, 4, 6, 7, 9, 11, 13, 14, 15, 16, 17, 19, 20, 21, 22, 23, 24, 26, 27, 28, 29, 30].filterMap fun i => lawP.main.body[i]? } }
 local macro_rules | `(tactic| o_head $H) => do
  let (hl, hw, hc) := (Lean.mkIdent `hl, Lean.mkIdent `hw, Lean.mkIdent `hc)
  `(tactic| (refine holds_open (q := lawQ) (loose := []) (Xt := fun s => xlAt lawQ [] s && recOk (RowW.records (OpenRow.toRowW (OpenLaw.row PySem.Challenge.rw_pd0131_01))) s) (XP := XL lawQ []) (Yf := Hook.obs $H) (Ya := Hook.val $H) (YP := Hook.says $H) (N := 2588) ?$hl (Hook.of $H) (Hook.keeps $H) (fun s e => xl_of s (Bool.and_eq_true_iff.mp e).1) XL.keeps (by rfl) (by rfl) (by rfl) (fun s e => recFacts_of (Bool.and_eq_true_iff.mp e).2) (by rfl) (by first | assumption | decide +kernel) (by decide +kernel) ⟨rfl, rfl, rfl, rfl, rfl, by decide +kernel⟩ ?$hw ?$hc; (case $hl:ident => exact fun w => by first | (unfold openEnds fencedOpening topFrom; rw [PySem.W.Fast.te10274390034422433532, PySem.W.Fast.te1435165496053646825, PySem.W.Fast.te14289696077712309145, PySem.W.Fast.te4187177175401517315, PySem.W.Fast.te14082659384304107361]; kernel_rfl) | kernel_rfl)))
set_option maxHeartbeats 8000000 in
open_top hd for PySem.Challenge.rw_pd0131_01

section
variable {prog : Program} {w : World} {A : Around} {E : Value → Shared → Prop} {s : Shared}
theorem kind_issn : builtinKind "issubclass.nested" = none := by decide +kernel
theorem plain_issn : plainId "issubclass.nested" = true := by decide +kernel
theorem args_issn (a b c : Value) : argsOk "issubclass.nested" ⟨[a, b, c], []⟩ := by unfold argsOk; kernel_rfl
theorem sub_str : isSubtype (.type "str") (.type "str") = pure true := by rw [isSubtype_type]; kernel_rfl
theorem ty_str : typeOf (.type "str") = pure (.type "type") := by kernel_rfl
theorem iss_str (dep : Int) (tk : Tok) :
    Meets (Builtin.«issubclass.nested» ⟨[.type "str", .type "str", .int dep tk], []⟩) (fun _ R s => R (.ok (.ret (.bool true))) s) := by
  intro prog w A R s hq
  have f1 := sub_str
  have f2 := ty_str
  repeat (any_goals (first | assumption | (rw [f2]) | (rw [f1]) | wp_step))
theorem iss_tup (tp : Addr) (c : Value) :
    Meets (Builtin.«issubclass» ⟨[.type "str", .ref tp], []⟩) (fun _ R s => s.heap.get? tp = some { cls := .type "tuple", data := .seq #[.type "str", c] } ∧ ∀ tk', R (.ok (.ret (.bool true))) { s with toks := tk' }) := by
  intro prog w A R s hq
  obtain ⟨htp, h⟩ := hq
  refine issubclass_outer ?_
  obtain ⟨hp, g, d, t, os⟩ := s
  have hT2 : (⟨hp, g, d, t, os⟩ : Shared).TypeIs (.ref tp) "tuple" := ⟨_, htp, rfl⟩
  have f1 := F.isi_sub_tuple
  repeat (any_goals (first | assumption | (refine call_function_meets kind_issn plain_issn F.entry_issubclass_nested (args_issn _ _ _) (iss_str _ _) ?_) | wp_step))
  exact h _
theorem call_iss {tp : Addr} {c : Value} {Q : Value → Shared → Prop} (htp : s.heap.get? tp = some { cls := .type "tuple", data := .seq #[.type "str", c] })
    (h : ∀ tk', Q (.bool true) { s with toks := tk' }) : wpAny (model prog w) A (call (.builtin "issubclass") [.type "str", .ref tp]) Q E s :=
  call_issubclass (iss_tup tp c) ⟨htp, h⟩
end

/-- what of a heap stands in g: all but the objects of own -/
def Kept (h : Heap) (own : List (Addr × Obj)) (g : Heap) : Prop := ∀ b o, h.get? b = some o → b ∉ own.map (·.1) → g.get? b = some o
theorem keep_all {h₀ g h h' : Heap} {L L' : Addr} {m' : Str → Option Value} {own fin : List (Addr × Obj)} (N : News h₀ L h own) (hg : Kept h own g)
    (F' : Fr g L' h' m') (kN : News h₀ L h' fin) (ho : ∀ p ∈ own, p ∈ fin) : h.StaysIn h' := by
  intro b o hb
  by_cases hq : b ∈ own.map (·.1)
  · obtain ⟨q, hq1, hq2⟩ := List.mem_map.mp hq
    have e1 := (N q hq1).1
    rw [hq2, hb] at e1
    rw [← hq2, Option.some.inj e1]; exact (kN q (ho q hq1)).1
  · exact F'.keep _ _ (hg _ _ hb hq)
theorem fr_stays {h₀ h h' : Heap} {L : Addr} {m : Str → Option Value} (F : Fr h₀ L h m) (k : h.StaysIn h') : Fr h₀ L h' m :=
  ⟨F.ns.at' fun o e => k _ _ e, fun b o e => k _ _ (F.keep b o e), F.above⟩
theorem news_stays {h₀ h h' : Heap} {L : Addr} {news : List (Addr × Obj)} (N : News h₀ L h news) (k : h.StaysIn h') : News h₀ L h' news :=
  fun p hp => ⟨k _ _ (N p hp).1, (N p hp).2⟩
theorem news_sub {h₀ h : Heap} {L : Addr} {news own : List (Addr × Obj)} (N : News h₀ L h news) (hs : ∀ p ∈ own, p ∈ news) : News h₀ L h own := fun p hp => N p (hs p hp)
/-- an allocation met by peek1: the heap stays, one object is new -/
theorem peek1_stays {α : Type} {K : Frag} {M : Model} {A : Around} {E : Value → Shared → Prop} {Q : α → Shared → Prop} {s : Shared} {o : Obj} {r : Addr → α} (X : K.In s.heap) (hf : o.isFreed = false)
    (q : ∀ D h', s.heap.StaysIn h' → s.heap.get? D = none → h'.get? D = some o → Q (r D) { s with heap := h' }) :
    ∀ (t : Sem α) (g : Addr → Option α), peek1 K ⟨M.prog, M.w.params⟩ t = some (o, g) → (∀ D, g D = some (r D)) → wpAny M A t Q E s := by
  intro t
  induction t with
  | rule _ k ih => intro g e hg Γ p hΓ; exact ih () g e hg Γ p hΓ
  | point _ k ih => intro g e hg Γ p hΓ; exact ih () g e hg Γ p hΓ
  | ask k ih => intro g e hg Γ p hΓ; exact ih _ g e hg Γ p hΓ
  | load a _ k ih =>
    intro g e hg Γ p hΓ
    unfold peek1 at e
    split at e
    · rename_i ob ho; exact ⟨ob, X _ _ ho, ih ob g e hg Γ p hΓ⟩
    · cases e
  | alloc ob k _ =>
    intro g e hg
    have e : some (ob, fun D => peek K ⟨M.prog, M.w.params⟩ (k D)) = some (o, g) := e
    obtain ⟨e1, e2⟩ := Prod.mk.inj (Option.some.inj e)
    subst e1
    subst e2
    have st : s.heap.StaysIn (s.heap.push ob) := fun b x hb => Heap.get?_push_of_some _ hb
    have hn : s.heap.get? s.heap.objs.size = none := by
      cases hq : s.heap.get? s.heap.objs.size with
      | none => rfl
      | some x => exact absurd (Heap.lt_size hq) (Nat.lt_irrefl _)
    show wpAny M A (alloc ob >>= k) Q E s
    refine wpAny_bind (wpAny_alloc ?_)
    exact (Looks.of_peek (M := M) (h := s.heap.push ob) (X.keeps st) (hg s.heap.objs.size)).here (s := { s with heap := s.heap.push ob }) (q _ _ st hn (Heap.get?_push_size _ hf))
  | _ => intro g e; cases e

section
variable {prog : Program} {w : World} {A A₀ : Around} {s : Shared} {K : Frag} {L : Addr} {h₀ base : Heap} {m mg mb : Str → Option Value} {own : List (Addr × Obj)} {p : Program} {loose : List Str} {mean : ExcName → Option Value}
  {env : Env} {outer : List Env} {R : Result → Shared → Prop} {name qual : Str} {params : Arguments} {body : List Stmt} {scope : Scope} {dV kV doc pm cdv ct oc : Value} {an od : Option Addr} {osl : Array (Option Value)} {f : Addr} {args : Args}
/-- entering a def with a part of the ledger; the rest stays in the ground -/
theorem enter_own {binds : List (Str × Value)}
    (B : Below A₀ base outer h₀) (F : Fr h₀ L s.heap m) (X₀ : K.In h₀) (N : News h₀ L s.heap own) (T : Top p loose mean mg mb h₀) (hA : A.frames = some (env :: outer)) (hf : env.frame = some L) (hke : env.scope.kind = .function)
    (ho : K.lookup f = some ⟨oc, od, .func (fnOf name qual params body scope dV kV doc pm an cdv ct), osl⟩) (hcd : codeIn K cdv qual = true) (hroom : A.depth < recursionLimit)
    (hbind : BindsTo s (fnOf name qual params body scope dV kV doc pm an cdv ct) args binds) (hloc : ∀ y ∈ binds, scope.names.lookup y.1 = some .local)
    (h : ∀ g L' h₁, Kept s.heap own g → Fr h₀ L g m → Fr g L' h₁ (fun y => binds.reverse.lookup y) → News g L' h₁ own → Below A base (env :: outer) g → K.In g → Top p loose mean mg mb g →
      wpAny (model prog w) (A.deeper (envOf qual scope L' f cdv)) (execs body (envOf qual scope L' f cdv))
        (fun fl s' => LeaveK h₀ L m g R (match fl with | .ret v => v | _ => .none) s')
        (fun e s' => wpAny (model prog w) (A.deeper (envOf qual scope L' f cdv)) (leaving (envOf qual scope L' f cdv) e) (fun _ s'' => R (.error e) s'') (fun e' s'' => R (.error e') s'') s')
        { s with heap := h₁, toks := s.toks + binds.length })
    (hco : scope.isCoroutine = false) (hgen : scope.isGenerator = false) (hk : scope.kind = .function)
    (hcell : ∀ x ∈ scope.names, x.2 ≠ .cell) : codeAny (model prog w) A (.call (.ref f) args) R s := by
  obtain ⟨FG, BG, st, lv⟩ := groundX (R := R) B F N hA hf hke
  refine codeAny_call_def (fd := fnOf name qual params body scope dV kV doc pm an cdv ct) (body := body) (binds := binds) hroom (F.keep _ _ (X₀ _ _ ho)) rfl (T.nolimit.keeps F.keep) (codeRec_of (X₀.keeps F.keep) hcd) rfl hbind hcell hloc (fun h₁ hns hk₁ => ?_) hco hgen hk
  refine wpAny_mono (h _ s.heap.objs.size h₁ (fun b o e hn => hideAll_get _ e hn) FG ⟨hns, fun b o e => hk₁ b o (of_hideAll _ e), Nat.le_of_eq (hideAll_size _ _)⟩ ?_ BG (X₀.keeps st) (T.keeps st)) (fun fl s' hl => lv _ _ hl) fun _ _ y => y
  exact fun q hq => ⟨hk₁ _ _ (N q hq).1, Nat.ne_of_lt (Heap.lt_size (N q hq).1), hideAll_none _ (List.mem_map_of_mem hq)⟩
/-- the same for a def that takes *rest -/
theorem enter_rest {vs : List Value} {g₁ : Addr → Option (List (Str × Value))} {binds : Addr → List (Str × Value)}
    (B : Below A₀ base outer h₀) (F : Fr h₀ L s.heap m) (X₀ : K.In h₀) (N : News h₀ L s.heap own) (T : Top p loose mean mg mb h₀) (hA : A.frames = some (env :: outer)) (hf : env.frame = some L) (hke : env.scope.kind = .function)
    (ho : K.lookup f = some ⟨oc, od, .func (fnOf name qual params body scope dV kV doc pm an cdv ct), osl⟩) (hcd : codeIn K cdv qual = true) (hroom : A.depth < recursionLimit)
    (hv : args.pos.drop (params.posonlyargs.length + params.args.length) = vs)
    (hp : peek1 K ⟨prog, w.params⟩ (bindArgs (fnOf name qual params body scope dV kV doc pm an cdv ct) args) = some (({ cls := .type "tuple", data := .seq vs.toArray } : Obj), g₁))
    (hg : ∀ D, g₁ D = some (binds D)) (hloc : ∀ D, ∀ y ∈ binds D, scope.names.lookup y.1 = some .local)
    (h : ∀ D g L' h₁, Kept s.heap own g → Fr h₀ L g m → Fr g L' h₁ (fun y => (binds D).reverse.lookup y) → News g L' h₁ ((D, ({ cls := .type "tuple", data := .seq vs.toArray } : Obj)) :: own) → Below A base (env :: outer) g → K.In g → Top p loose mean mg mb g →
      wpAny (model prog w) (A.deeper (envOf qual scope L' f cdv)) (execs body (envOf qual scope L' f cdv))
        (fun fl s' => LeaveK h₀ L m g R (match fl with | .ret v => v | _ => .none) s')
        (fun e s' => wpAny (model prog w) (A.deeper (envOf qual scope L' f cdv)) (leaving (envOf qual scope L' f cdv) e) (fun _ s'' => R (.error e) s'') (fun e' s'' => R (.error e') s'') s')
        { s with heap := h₁, toks := s.toks + (binds D).length })
    (hco : scope.isCoroutine = false) (hgen : scope.isGenerator = false) (hk : scope.kind = .function)
    (hcell : ∀ x ∈ scope.names, x.2 ≠ .cell) : codeAny (model prog w) A (.call (.ref f) args) R s := by
  have _ := hv
  refine codeAny_call_function (fd := fnOf name qual params body scope dV kV doc pm an cdv ct) (body := body) hroom ((X₀.keeps F.keep) _ _ ho) rfl hco hgen rfl (codeRec_of (X₀.keeps F.keep) hcd) ?_
  refine peek1_stays (o := ({ cls := .type "tuple", data := .seq vs.toArray } : Obj)) (X₀.keeps F.keep) rfl (r := binds) (fun D h' st1 hn hD0 => ?_) _ g₁ hp hg
  have F' := fr_stays F st1
  have hD : News h₀ L h' ((D, ({ cls := .type "tuple", data := .seq vs.toArray } : Obj)) :: own) := fun q hq => (List.mem_cons.mp hq).elim (fun e => by
    subst e
    refine ⟨hD0, fun e => ?_, ?_⟩
    · obtain ⟨oL, _, _, hL, _⟩ := F.ns
      have e : D = L := e
      rw [e, hL] at hn; cases hn
    · cases hq : h₀.get? D with
      | none => rfl
      | some x => rw [F.keep _ _ hq] at hn; cases hn) fun e => news_stays N st1 q e
  have hD' : News h₀ L ({ s with heap := h' } : Shared).heap ((D, ({ cls := .type "tuple", data := .seq vs.toArray } : Obj)) :: own) := hD
  obtain ⟨FG, BG, st, lv⟩ := groundX (s := { s with heap := h' }) (R := R) B F' hD' hA hf hke
  refine wpAny_newFunctionEnv hcell (hloc D) (fun h₁ hns hsb => ⟨(T.nolimit.keeps F'.keep).fresh _ hsb, codeAny_func ?_⟩) hk
  have hk₁ : ∀ b o, h'.get? b = some o → h₁.get? b = some o := fun b o e => hsb.extBut b o (Nat.ne_of_lt (Heap.lt_size e)) (Heap.get?_push_of_some _ e)
  refine wpAny_mono (h D _ h'.objs.size h₁ (fun b o e hb => hideAll_get _ (st1 _ _ e) ?_) FG ⟨hns, fun b o e => hk₁ b o (of_hideAll _ e), Nat.le_of_eq (hideAll_size _ _)⟩ ?_ BG (X₀.keeps st) (T.keeps st)) (fun fl s' hl => lv _ _ hl) fun _ _ y => y
  · rw [List.map_cons, List.mem_cons]
    exact fun q => q.elim (fun q => by rw [q, hn] at e; cases e) hb
  · exact fun q hq => ⟨hk₁ _ _ (hD q hq).1, Nat.ne_of_lt (Heap.lt_size (hD q hq).1), hideAll_none _ (List.mem_map_of_mem hq)⟩
end
/-- a contract: the call of f with vs, own being a part of the ledger that is read -/
def Tells (w : World) (f : Addr) (d u : Nat) (own : List (Addr × Obj)) (vs : List Value) (ret : Shared → (Value → Shared → Prop) → Prop) : Prop :=
  ∀ (mean : ExcName → Option Value) (mg mb : Str → Option Value) (dp un : Nat) (gd : Option (List Code)) (cn : Str) (cs : Scope) (a : Addr) (ccd : Value) (cl : List (Str × Addr)) (outer : List Env) (A₀ : Around) (base h₀ : Heap) (L : Addr) (m : Str → Option Value) (s : Shared) (Q E : Value → Shared → Prop),
    Below A₀ base outer h₀ → Fr h₀ L s.heap m → (hd.heap_39 w.params).In h₀ → News h₀ L s.heap own → Top lawQ (looseW lawQ []) mean mg mb h₀ → cs.kind = .function → dp + d < recursionLimit → un + u < cLine →
    ret s Q → wpAny (model PySem.Challenge.rw_pd0131_01.row.prog w) (ktrTop dp un gd cn cs L a ccd cl outer) (call (.ref f) vs) Q E s
/-- a value comes back; the heap stays -/
abbrev RetV (R : Tok → Value) : Shared → (Value → Shared → Prop) → Prop :=
  fun s Q => ∀ (t : Tok) (h' : Heap) (tk' : Nat), s.heap.StaysIn h' → Q (R t) { s with heap := h', toks := tk' }
section
variable {w : World} {f : Addr} {d u : Nat} {own : List (Addr × Obj)} {vs : List Value} {ret : Shared → (Value → Shared → Prop) → Prop} {mean : ExcName → Option Value} {mg mb : Str → Option Value} {dp un : Nat} {gd : Option (List Code)} {cn : Str} {cs : Scope} {a : Addr} {ccd : Value} {cl : List (Str × Addr)} {outer : List Env} {A₀ : Around} {base h₀ : Heap} {L : Addr} {m : Str → Option Value} {s : Shared} {Q E : Value → Shared → Prop}
theorem Tells.use (C : Tells w f d u own vs ret) (B : Below A₀ base outer h₀) (F : Fr h₀ L s.heap m) (X : (hd.heap_39 w.params).In h₀) (N : News h₀ L s.heap own) (T : Top lawQ (looseW lawQ []) mean mg mb h₀) (hk : cs.kind = .function) (hdp : dp + d < recursionLimit) (hun : un + u < cLine)
    (hr : ret s Q) : wpAny (model PySem.Challenge.rw_pd0131_01.row.prog w) (ktrTop dp un gd cn cs L a ccd cl outer) (call (.ref f) vs) Q E s := C _ _ _ _ _ _ _ _ _ _ _ _ _ _ _ _ _ _ _ _ B F X N T hk hdp hun hr
theorem ret_str {x y : Str} {t : Tok} {h' : Heap} {tk' : Nat} (hret : RetV (fun t => .str x t) s Q) (e : y = x) (k : s.heap.StaysIn h') : Q (.str y t) { s with heap := h', toks := tk' } := by
  subst e; exact hret t h' tk' k
theorem ret_bool {x y : Bool} {h' : Heap} {tk' : Nat} (hret : RetV (fun _ => .bool x) s Q) (e : y = x) (k : s.heap.StaysIn h') : Q (.bool y) { s with heap := h', toks := tk' } := by
  subst e; exact hret 0 h' tk' k
end

local macro_rules | `(tactic| walk_at "call builtin:issubclass") => `(tactic| (k_here; (with_reducible show wpAny _ _ (call (Value.builtin "issubclass") [Value.type "str", Value.ref _]) _ _ _); k_dflt (refine' call_iss ?k1 ?_; (case k1 => exact News.get (by k_asm) (by k_mem)); k_whole; intro tk')))
set_option maxHeartbeats 8000000 in
theorem fspath_c (w : World) (x : Str) (t : Tok) : Tells w 94 1 8 [] [.str x t] (RetV fun t => .str x t) := by
  first | unfold Tells | unfold TellsN
  k_fill
  intro mean mg mb dp un gd cn cs a ccd cl outer A₀ base h₀ L m s Q E B F X N T hk hdp hun hret
  refine wpAny_call ?_
  k_dflt (refine' enter_own ?k1 ?k2 ?k3 ?k4 ?k5 ?kA ?kF ?kK ?k6 ?k7 ?k8 ?k9 ?kB ?_ ?c2 ?c3 ?c4 ?c5; (case kA => exact rfl); (case kF => exact rfl); (case kK => assumption); (case k1 => k_asm); (case k2 => k_asm); (case k3 => k_asm); (case k4 => k_asm); (case k5 => k_asm); (case k6 => k_is); (case k7 => k_is); (case k8 => ktr_room); (case k9 => exact BindsTo.of_eq rfl); (case c5 => decide); (case kB => exact locs rfl); (case c2 => exact rfl); (case c3 => exact rfl); (case c4 => exact rfl); k_whole; intro g' L' h' hK' FG' F' N' B' X' T'; (try dsimp only); (try k_lift B'); (try k_fold))
  k_steps
  all_goals exact hret _ _ _ (keep_all N hK' (by k_asm) (by k_asm) (by first | (intro _ h; cases h; done) | kcj_all))
local macro_rules | `(tactic| walk_at "call ref") => `(tactic| (k_here; (with_reducible show wpAny _ _ (call (Value.ref 94) [Value.str _ _]) _ _ _); k_dflt (refine' Tells.use (fspath_c _ _ _) ?k1 ?k2 ?k3 ?k4 ?k5 ?kK ?kd ?ku ?_; (case k1 => k_asm); (case k2 => k_asm); (case k3 => k_asm); (case k4 => first | exact News.nil | exact news_sub (by k_asm) (by kcj_all)); (case k5 => k_asm); (case kK => first | exact rfl | assumption); (case kd => ktr_room); (case ku => ktr_units); k_whole; intro t9 h9 tk9 kp9; (have F9 := fr_stays (by k_asm) kp9); (have N9 := news_stays (by k_asm) kp9); clear kp9; (try dsimp only); (try k_fold))))
set_option maxHeartbeats 8000000 in
theorem getsep_c (w : World) (x : Str) (t : Tok) : Tells w 108 1 8 [] [.str x t] (RetV fun t => .str (Str.ofString "/") t) := by
  first | unfold Tells | unfold TellsN
  k_fill
  intro mean mg mb dp un gd cn cs a ccd cl outer A₀ base h₀ L m s Q E B F X N T hk hdp hun hret
  refine wpAny_call ?_
  k_dflt (refine' enter_own ?k1 ?k2 ?k3 ?k4 ?k5 ?kA ?kF ?kK ?k6 ?k7 ?k8 ?k9 ?kB ?_ ?c2 ?c3 ?c4 ?c5; (case kA => exact rfl); (case kF => exact rfl); (case kK => assumption); (case k1 => k_asm); (case k2 => k_asm); (case k3 => k_asm); (case k4 => k_asm); (case k5 => k_asm); (case k6 => k_is); (case k7 => k_is); (case k8 => ktr_room); (case k9 => exact BindsTo.of_eq rfl); (case c5 => decide); (case kB => exact locs rfl); (case c2 => exact rfl); (case c3 => exact rfl); (case c4 => exact rfl); k_whole; intro g' L' h' hK' FG' F' N' B' X' T'; (try dsimp only); (try k_lift B'); (try k_fold))
  k_steps
  all_goals exact hret _ _ _ (keep_all N hK' (by k_asm) (by k_asm) (by first | (intro _ h; cases h; done) | kcj_all))
local macro_rules | `(tactic| walk_at "call ref") => `(tactic| (k_here; (with_reducible show wpAny _ _ (call (Value.ref 108) [Value.str _ _]) _ _ _); k_dflt (refine' Tells.use (getsep_c _ _ _) ?k1 ?k2 ?k3 ?k4 ?k5 ?kK ?kd ?ku ?_; (case k1 => k_asm); (case k2 => k_asm); (case k3 => k_asm); (case k4 => first | exact News.nil | exact news_sub (by k_asm) (by kcj_all)); (case k5 => k_asm); (case kK => first | exact rfl | assumption); (case kd => ktr_room); (case ku => ktr_units); k_whole; intro t9 h9 tk9 kp9; (have F9 := fr_stays (by k_asm) kp9); (have N9 := news_stays (by k_asm) kp9); clear kp9; (try dsimp only); (try k_fold))))
/-- join of two texts -/
def joinS (x y : Str) : Str := if Txt.startswith y (Str.ofString "/") = true ∨ x.length = 0 then y else if Txt.endswith x (Str.ofString "/") = true then x ++ y else x ++ (Str.ofString "/" ++ y)
set_option maxHeartbeats 8000000 in
theorem join_c (w : World) (x y : Str) (t u : Tok) (hx : x.length ≤ 4096) (hy : y.length ≤ 4096) : Tells w 115 5 30 [] [.str x t, .str y u] (RetV fun t => .str (joinS x y) t) := by
  first | unfold Tells | unfold TellsN
  k_fill
  intro mean mg mb dp un gd cn cs a ccd cl outer A₀ base h₀ L m s Q E B F X N T hk hdp hun hret
  refine wpAny_call ?_
  k_dflt (refine' enter_rest ?k1 ?k2 ?k3 ?k4 ?k5 ?kA ?kF ?kK ?k6 ?k7 ?k8 ?kV ?kP ?kG ?kB ?_ ?c2 ?c3 ?c4 ?c5; (case kA => exact rfl); (case kF => exact rfl); (case kK => assumption); (case k1 => k_asm); (case k2 => k_asm); (case k3 => k_asm); (case k4 => k_asm); (case k5 => k_asm); (case k6 => k_is); (case k7 => k_is); (case k8 => ktr_room); (case kV => kl_lit); (case kP => exact rfl); (case kG => exact fun _ => rfl); (case kB => exact fun _ => locs rfl); (case c5 => decide); (case c2 => exact rfl); (case c3 => exact rfl); (case c4 => exact rfl); k_whole; intro D' g' L' h' hK' FG' F' N' B' X' T'; (try dsimp only); (try k_lift B'); (try k_fold))
  k_steps
  all_goals refine ret_str (Q := Q) hret ?_ (keep_all N hK' (by k_asm) (by k_asm) (by first | (intro _ h; cases h; done) | kcj_all))
  all_goals (unfold joinS; simp_all)
local macro_rules | `(tactic| walk_at "call ref") => `(tactic| (k_here; (with_reducible show wpAny _ _ (call (Value.ref 115) [Value.str _ _, Value.str _ _]) _ _ _); k_dflt (refine' Tells.use (join_c _ _ _ _ _ ?kx ?ky) ?k1 ?k2 ?k3 ?k4 ?k5 ?kK ?kd ?ku ?_; (case k1 => k_asm); (case k2 => k_asm); (case k3 => k_asm); (case k4 => first | exact News.nil | exact news_sub (by k_asm) (by kcj_all)); (case k5 => k_asm); (case kK => first | exact rfl | assumption); (case kd => ktr_room); (case ku => ktr_units); (case kx => first | (with_reducible assumption) | (simp only [Str.length_append] at *; omega)); (case ky => first | (with_reducible assumption) | decide | (simp only [Str.length_append] at *; omega)); k_whole; intro t9 h9 tk9 kp9; (have F9 := fr_stays (by k_asm) kp9); (have N9 := news_stays (by k_asm) kp9); clear kp9; (try dsimp only); (try k_fold))))

set_option maxHeartbeats 8000000 in
theorem lt_c (w : World) (x y : Int) (t u : Tok) : Tells w 141 1 8 [] [.int x t, .int y u] (RetV fun _ => .bool (decide (x < y))) := by
  first | unfold Tells | unfold TellsN
  k_fill
  intro mean mg mb dp un gd cn cs a ccd cl outer A₀ base h₀ L m s Q E B F X N T hk hdp hun hret
  refine wpAny_call ?_
  k_dflt (refine' enter_own ?k1 ?k2 ?k3 ?k4 ?k5 ?kA ?kF ?kK ?k6 ?k7 ?k8 ?k9 ?kB ?_ ?c2 ?c3 ?c4 ?c5; (case kA => exact rfl); (case kF => exact rfl); (case kK => assumption); (case k1 => k_asm); (case k2 => k_asm); (case k3 => k_asm); (case k4 => k_asm); (case k5 => k_asm); (case k6 => k_is); (case k7 => k_is); (case k8 => ktr_room); (case k9 => exact BindsTo.of_eq rfl); (case c5 => decide); (case kB => exact locs rfl); (case c2 => exact rfl); (case c3 => exact rfl); (case c4 => exact rfl); k_whole; intro g' L' h' hK' FG' F' N' B' X' T'; (try dsimp only); (try k_lift B'); (try k_fold))
  k_steps
  all_goals exact hret 0 _ _ (keep_all N hK' (by k_asm) (by k_asm) (by first | (intro _ h; cases h; done) | kcj_all))
local macro_rules | `(tactic| walk_at "call ref") => `(tactic| (k_here; (with_reducible show wpAny _ _ (call (Value.ref 141) [Value.int _ _, Value.int _ _]) _ _ _); k_dflt (refine' Tells.use (lt_c _ _ _ _ _) ?k1 ?k2 ?k3 ?k4 ?k5 ?kK ?kd ?ku ?_; (case k1 => k_asm); (case k2 => k_asm); (case k3 => k_asm); (case k4 => first | exact News.nil | exact news_sub (by k_asm) (by kcj_all)); (case k5 => k_asm); (case kK => first | exact rfl | assumption); (case kd => ktr_room); (case ku => ktr_units); k_whole; intro t9 h9 tk9 kp9; (have F9 := fr_stays (by k_asm) kp9); (have N9 := news_stays (by k_asm) kp9); clear kp9; (try dsimp only); (try k_fold))))
set_option maxHeartbeats 8000000 in
theorem add_c (w : World) (x y : Int) (t u : Tok) : Tells w 148 1 8 [] [.int x t, .int y u] (RetV fun t => .int (x + y) t) := by
  first | unfold Tells | unfold TellsN
  k_fill
  intro mean mg mb dp un gd cn cs a ccd cl outer A₀ base h₀ L m s Q E B F X N T hk hdp hun hret
  refine wpAny_call ?_
  k_dflt (refine' enter_own ?k1 ?k2 ?k3 ?k4 ?k5 ?kA ?kF ?kK ?k6 ?k7 ?k8 ?k9 ?kB ?_ ?c2 ?c3 ?c4 ?c5; (case kA => exact rfl); (case kF => exact rfl); (case kK => assumption); (case k1 => k_asm); (case k2 => k_asm); (case k3 => k_asm); (case k4 => k_asm); (case k5 => k_asm); (case k6 => k_is); (case k7 => k_is); (case k8 => ktr_room); (case k9 => exact BindsTo.of_eq rfl); (case c5 => decide); (case kB => exact locs rfl); (case c2 => exact rfl); (case c3 => exact rfl); (case c4 => exact rfl); k_whole; intro g' L' h' hK' FG' F' N' B' X' T'; (try dsimp only); (try k_lift B'); (try k_fold))
  k_steps
  all_goals exact hret _ _ _ (keep_all N hK' (by k_asm) (by k_asm) (by first | (intro _ h; cases h; done) | kcj_all))
local macro_rules | `(tactic| walk_at "call ref") => `(tactic| (k_here; (with_reducible show wpAny _ _ (call (Value.ref 148) [Value.int _ _, Value.int _ _]) _ _ _); k_dflt (refine' Tells.use (add_c _ _ _ _ _) ?k1 ?k2 ?k3 ?k4 ?k5 ?kK ?kd ?ku ?_; (case k1 => k_asm); (case k2 => k_asm); (case k3 => k_asm); (case k4 => first | exact News.nil | exact news_sub (by k_asm) (by kcj_all)); (case k5 => k_asm); (case kK => first | exact rfl | assumption); (case kd => ktr_room); (case ku => ktr_units); k_whole; intro t9 h9 tk9 kp9; (have F9 := fr_stays (by k_asm) kp9); (have N9 := news_stays (by k_asm) kp9); clear kp9; (try dsimp only); (try k_fold))))
set_option maxHeartbeats 8000000 in
theorem sub_c (w : World) (x y : Int) (t u : Tok) : Tells w 176 1 8 [] [.int x t, .int y u] (RetV fun t => .int (x - y) t) := by
  first | unfold Tells | unfold TellsN
  k_fill
  intro mean mg mb dp un gd cn cs a ccd cl outer A₀ base h₀ L m s Q E B F X N T hk hdp hun hret
  refine wpAny_call ?_
  k_dflt (refine' enter_own ?k1 ?k2 ?k3 ?k4 ?k5 ?kA ?kF ?kK ?k6 ?k7 ?k8 ?k9 ?kB ?_ ?c2 ?c3 ?c4 ?c5; (case kA => exact rfl); (case kF => exact rfl); (case kK => assumption); (case k1 => k_asm); (case k2 => k_asm); (case k3 => k_asm); (case k4 => k_asm); (case k5 => k_asm); (case k6 => k_is); (case k7 => k_is); (case k8 => ktr_room); (case k9 => exact BindsTo.of_eq rfl); (case c5 => decide); (case kB => exact locs rfl); (case c2 => exact rfl); (case c3 => exact rfl); (case c4 => exact rfl); k_whole; intro g' L' h' hK' FG' F' N' B' X' T'; (try dsimp only); (try k_lift B'); (try k_fold))
  k_steps
  all_goals exact hret _ _ _ (keep_all N hK' (by k_asm) (by k_asm) (by first | (intro _ h; cases h; done) | kcj_all))
local macro_rules | `(tactic| walk_at "call ref") => `(tactic| (k_here; (with_reducible show wpAny _ _ (call (Value.ref 176) [Value.int _ _, Value.int _ _]) _ _ _); k_dflt (refine' Tells.use (sub_c _ _ _ _ _) ?k1 ?k2 ?k3 ?k4 ?k5 ?kK ?kd ?ku ?_; (case k1 => k_asm); (case k2 => k_asm); (case k3 => k_asm); (case k4 => first | exact News.nil | exact news_sub (by k_asm) (by kcj_all)); (case k5 => k_asm); (case kK => first | exact rfl | assumption); (case kd => ktr_room); (case ku => ktr_units); k_whole; intro t9 h9 tk9 kp9; (have F9 := fr_stays (by k_asm) kp9); (have N9 := news_stays (by k_asm) kp9); clear kp9; (try dsimp only); (try k_fold))))
set_option maxHeartbeats 8000000 in
theorem neg_c (w : World) (x : Int) (t : Tok) : Tells w 169 1 8 [] [.int x t] (RetV fun t => .int (-x) t) := by
  first | unfold Tells | unfold TellsN
  k_fill
  intro mean mg mb dp un gd cn cs a ccd cl outer A₀ base h₀ L m s Q E B F X N T hk hdp hun hret
  refine wpAny_call ?_
  k_dflt (refine' enter_own ?k1 ?k2 ?k3 ?k4 ?k5 ?kA ?kF ?kK ?k6 ?k7 ?k8 ?k9 ?kB ?_ ?c2 ?c3 ?c4 ?c5; (case kA => exact rfl); (case kF => exact rfl); (case kK => assumption); (case k1 => k_asm); (case k2 => k_asm); (case k3 => k_asm); (case k4 => k_asm); (case k5 => k_asm); (case k6 => k_is); (case k7 => k_is); (case k8 => ktr_room); (case k9 => exact BindsTo.of_eq rfl); (case c5 => decide); (case kB => exact locs rfl); (case c2 => exact rfl); (case c3 => exact rfl); (case c4 => exact rfl); k_whole; intro g' L' h' hK' FG' F' N' B' X' T'; (try dsimp only); (try k_lift B'); (try k_fold))
  k_steps
  all_goals exact hret _ _ _ (keep_all N hK' (by k_asm) (by k_asm) (by first | (intro _ h; cases h; done) | kcj_all))
local macro_rules | `(tactic| walk_at "call ref") => `(tactic| (k_here; (with_reducible show wpAny _ _ (call (Value.ref 169) [Value.int _ _]) _ _ _); k_dflt (refine' Tells.use (neg_c _ _ _) ?k1 ?k2 ?k3 ?k4 ?k5 ?kK ?kd ?ku ?_; (case k1 => k_asm); (case k2 => k_asm); (case k3 => k_asm); (case k4 => first | exact News.nil | exact news_sub (by k_asm) (by kcj_all)); (case k5 => k_asm); (case kK => first | exact rfl | assumption); (case kd => ktr_room); (case ku => ktr_units); k_whole; intro t9 h9 tk9 kp9; (have F9 := fr_stays (by k_asm) kp9); (have N9 := news_stays (by k_asm) kp9); clear kp9; (try dsimp only); (try k_fold))))
set_option maxHeartbeats 8000000 in
theorem mul_c (w : World) (x y : Int) (t u : Tok) (hx : -1000 ≤ x ∧ x ≤ 1000) (hy : -1000 ≤ y ∧ y ≤ 1000) : Tells w 162 1 8 [] [.int x t, .int y u] (RetV fun t => .int (x * y) t) := by
  first | unfold Tells | unfold TellsN
  k_fill
  intro mean mg mb dp un gd cn cs a ccd cl outer A₀ base h₀ L m s Q E B F X N T hk hdp hun hret
  refine wpAny_call ?_
  k_dflt (refine' enter_own ?k1 ?k2 ?k3 ?k4 ?k5 ?kA ?kF ?kK ?k6 ?k7 ?k8 ?k9 ?kB ?_ ?c2 ?c3 ?c4 ?c5; (case kA => exact rfl); (case kF => exact rfl); (case kK => assumption); (case k1 => k_asm); (case k2 => k_asm); (case k3 => k_asm); (case k4 => k_asm); (case k5 => k_asm); (case k6 => k_is); (case k7 => k_is); (case k8 => ktr_room); (case k9 => exact BindsTo.of_eq rfl); (case c5 => decide); (case kB => exact locs rfl); (case c2 => exact rfl); (case c3 => exact rfl); (case c4 => exact rfl); k_whole; intro g' L' h' hK' FG' F' N' B' X' T'; (try dsimp only); (try k_lift B'); (try k_fold))
  k_steps
  all_goals exact hret _ _ _ (keep_all N hK' (by k_asm) (by k_asm) (by first | (intro _ h; cases h; done) | kcj_all))
local macro_rules | `(tactic| walk_at "call ref") => `(tactic| (k_here; (with_reducible show wpAny _ _ (call (Value.ref 162) [Value.int _ _, Value.int _ _]) _ _ _); k_dflt (refine' Tells.use (mul_c _ _ _ _ _ ?kx ?ky) ?k1 ?k2 ?k3 ?k4 ?k5 ?kK ?kd ?ku ?_; (case k1 => k_asm); (case k2 => k_asm); (case k3 => k_asm); (case k4 => first | exact News.nil | exact news_sub (by k_asm) (by kcj_all)); (case k5 => k_asm); (case kK => first | exact rfl | assumption); (case kd => ktr_room); (case ku => ktr_units); (case kx => first | (constructor <;> omega) | assumption); (case ky => first | (constructor <;> omega) | assumption); k_whole; intro t9 h9 tk9 kp9; (have F9 := fr_stays (by k_asm) kp9); (have N9 := news_stays (by k_asm) kp9); clear kp9; (try dsimp only); (try k_fold))))
set_option maxHeartbeats 8000000 in
theorem floordiv_c (w : World) (x y : Int) (t u : Tok) (hx : -1000 ≤ x ∧ x ≤ 1000) (hy : 0 < y ∧ y ≤ 1000) : Tells w 155 1 8 [] [.int x t, .int y u] (RetV fun t => .int (Int.fdiv x y) t) := by
  first | unfold Tells | unfold TellsN
  k_fill
  intro mean mg mb dp un gd cn cs a ccd cl outer A₀ base h₀ L m s Q E B F X N T hk hdp hun hret
  refine wpAny_call ?_
  k_dflt (refine' enter_own ?k1 ?k2 ?k3 ?k4 ?k5 ?kA ?kF ?kK ?k6 ?k7 ?k8 ?k9 ?kB ?_ ?c2 ?c3 ?c4 ?c5; (case kA => exact rfl); (case kF => exact rfl); (case kK => assumption); (case k1 => k_asm); (case k2 => k_asm); (case k3 => k_asm); (case k4 => k_asm); (case k5 => k_asm); (case k6 => k_is); (case k7 => k_is); (case k8 => ktr_room); (case k9 => exact BindsTo.of_eq rfl); (case c5 => decide); (case kB => exact locs rfl); (case c2 => exact rfl); (case c3 => exact rfl); (case c4 => exact rfl); k_whole; intro g' L' h' hK' FG' F' N' B' X' T'; (try dsimp only); (try k_lift B'); (try k_fold))
  obtain ⟨hx1, hx2⟩ := hx
  obtain ⟨hy1, hy2⟩ := hy
  have hn : y ≠ 0 := by omega
  k_steps
  all_goals exact hret _ _ _ (keep_all N hK' (by k_asm) (by k_asm) (by first | (intro _ h; cases h; done) | kcj_all))
local macro_rules | `(tactic| walk_at "call ref") => `(tactic| (k_here; (with_reducible show wpAny _ _ (call (Value.ref 155) [Value.int _ _, Value.int _ _]) _ _ _); k_dflt (refine' Tells.use (floordiv_c _ _ _ _ _ ?kx ?ky) ?k1 ?k2 ?k3 ?k4 ?k5 ?kK ?kd ?ku ?_; (case k1 => k_asm); (case k2 => k_asm); (case k3 => k_asm); (case k4 => first | exact News.nil | exact news_sub (by k_asm) (by kcj_all)); (case k5 => k_asm); (case kK => first | exact rfl | assumption); (case kd => ktr_room); (case ku => ktr_units); (case kx => first | (constructor <;> omega) | assumption); (case ky => first | (constructor <;> omega) | assumption); k_whole; intro t9 h9 tk9 kp9; (have F9 := fr_stays (by k_asm) kp9); (have N9 := news_stays (by k_asm) kp9); clear kp9; (try dsimp only); (try k_fold))))
set_option maxHeartbeats 8000000 in
theorem ltS_c (w : World) (x y : Str) (t u : Tok) : Tells w 141 1 8 [] [.str x t, .str y u] (RetV fun _ => .bool (decide (x.cps.toList < y.cps.toList))) := by
  first | unfold Tells | unfold TellsN
  k_fill
  intro mean mg mb dp un gd cn cs a ccd cl outer A₀ base h₀ L m s Q E B F X N T hk hdp hun hret
  refine wpAny_call ?_
  k_dflt (refine' enter_own ?k1 ?k2 ?k3 ?k4 ?k5 ?kA ?kF ?kK ?k6 ?k7 ?k8 ?k9 ?kB ?_ ?c2 ?c3 ?c4 ?c5; (case kA => exact rfl); (case kF => exact rfl); (case kK => assumption); (case k1 => k_asm); (case k2 => k_asm); (case k3 => k_asm); (case k4 => k_asm); (case k5 => k_asm); (case k6 => k_is); (case k7 => k_is); (case k8 => ktr_room); (case k9 => exact BindsTo.of_eq rfl); (case c5 => decide); (case kB => exact locs rfl); (case c2 => exact rfl); (case c3 => exact rfl); (case c4 => exact rfl); k_whole; intro g' L' h' hK' FG' F' N' B' X' T'; (try dsimp only); (try k_lift B'); (try k_fold))
  k_steps
  all_goals exact hret 0 _ _ (keep_all N hK' (by k_asm) (by k_asm) (by first | (intro _ h; cases h; done) | kcj_all))
local macro_rules | `(tactic| walk_at "call ref") => `(tactic| (k_here; (with_reducible show wpAny _ _ (call (Value.ref 141) [Value.str _ _, Value.str _ _]) _ _ _); k_dflt (refine' Tells.use (ltS_c _ _ _ _ _) ?k1 ?k2 ?k3 ?k4 ?k5 ?kK ?kd ?ku ?_; (case k1 => k_asm); (case k2 => k_asm); (case k3 => k_asm); (case k4 => first | exact News.nil | exact news_sub (by k_asm) (by kcj_all)); (case k5 => k_asm); (case kK => first | exact rfl | assumption); (case kd => ktr_room); (case ku => ktr_units); k_whole; intro t9 h9 tk9 kp9; (have F9 := fr_stays (by k_asm) kp9); (have N9 := news_stays (by k_asm) kp9); clear kp9; (try dsimp only); (try k_fold))))

section
variable {prog : Program} {w : World} {A : Around} {E : Value → Shared → Prop} {s : Shared} {env : Env} {h₀ : Heap} {x : Str} {body : List Stmt} {Q : Flow → Shared → Prop}
theorem unrEnd_mono {L I : Addr} {it : Obj} {r r' : (Str → Option Value) → List (Addr × Obj) → Prop} {s₁ s₂ : Shared} (hr : ∀ m n, r m n → r' m n) (h : UnrEnd h₀ L s₁ I it r s₂) : UnrEnd h₀ L s₁ I it r' s₂ := by
  obtain ⟨h', tk, m', n', e, F, N, o, q⟩ := h
  exact ⟨h', tk, m', n', e, F, N, o, hr _ _ q⟩
theorem unrPost_mono {L I : Addr} {it : Obj} {r r' : (Str → Option Value) → List (Addr × Obj) → Prop} {s₁ s₂ : Shared} {f : Flow} (hr : ∀ m n, r m n → r' m n) (h : UnrPost h₀ L s₁ I it r Q f s₂) : UnrPost h₀ L s₁ I it r' Q f s₂ := by
  cases f with
  | ret v => exact h
  | brk => exact h
  | next => exact unrEnd_mono hr h
  | cont => exact unrEnd_mono hr h
/-- a range's loop by what holds between its turns -/
theorem range_fold {I : Addr} {a : Int} {n : Nat} (J : Nat → (Str → Option Value) → List (Addr × Obj) → Prop) :
    ∀ (k i : Nat) (m : Str → Option Value) (news : List (Addr × Obj)), J i m news →
      (∀ j m news, i ≤ j → j < i + k → J j m news → ∀ t h tk, Fr h₀ env.locals h (fun y => if y = x then some (.int (a + (j : Int)) t) else m y) →
        News h₀ env.locals h ((I, itR (a + ((j + 1 : Nat) : Int)) ((n : Int) - ((j + 1 : Nat) : Int))) :: news) →
        wpAny (model prog w) A (execs body env) (UnrPost h₀ env.locals { s with heap := h, toks := tk } I (itR (a + ((j + 1 : Nat) : Int)) ((n : Int) - ((j + 1 : Nat) : Int))) (J (j + 1)) Q) E { s with heap := h, toks := tk }) →
      (∀ m news, J (i + k) m news → ∀ h tk, Fr h₀ env.locals h m → News h₀ env.locals h news → Q .next { s with heap := h, toks := tk }) →
      RangeRest prog w A E h₀ env x body Q s I a n k i m news
  | 0, i, m, news, hJ, _, fin => RangeRest.zero fun h tk F N => fin m news hJ h tk F N
  | k + 1, i, m, news, hJ, step, fin => RangeRest.succ fun t h tk F N =>
    wpAny_mono (step i m news (Nat.le_refl _) (by omega) hJ t h tk F N) (fun f s₂ p => unrPost_mono (fun m' n' hJ' =>
      range_fold J k (i + 1) m' n' hJ' (fun j m news h1 h2 => step j m news (by omega) (by omega)) fun m news hJ => fin m news (by rw [show i + (k + 1) = i + 1 + k by omega]; exact hJ)) p) fun _ _ e => e
/-- a list's loop by what holds between its turns -/
theorem list_fold {I : Addr} {lp : Addr × Obj} (J : List Value → List Value → (Str → Option Value) → List (Addr × Obj) → Prop) :
    ∀ (r p : List Value) (m : Str → Option Value) (news : List (Addr × Obj)), J p r m news →
      (∀ p v r m news, J p (v :: r) m news → ∀ (it : Obj) h tk, it.cls = .type "list_iterator" → Fr h₀ env.locals h (fun y => if y = x then some v else m y) → News h₀ env.locals h ((I, it) :: news) →
        wpAny (model prog w) A (execs body env) (UnrPost h₀ env.locals { s with heap := h, toks := tk } I it (fun m' n' => lp ∈ n' ∧ J (p ++ [v]) r m' n') Q) E { s with heap := h, toks := tk }) →
      (∀ p m news, J p [] m news → ∀ h tk, Fr h₀ env.locals h m → News h₀ env.locals h news → Q .next { s with heap := h, toks := tk }) →
      ListRest prog w A E h₀ env x body Q s I lp r m news
  | [], p, m, news, hJ, _, fin => ListRest.zero fun h tk F N => fin p m news hJ h tk F N
  | v :: r, p, m, news, hJ, step, fin => ListRest.succ fun it h tk hit F N =>
    wpAny_mono (step p v r m news hJ it h tk hit F N) (fun f s₂ q => unrPost_mono (fun m' n' hJ' => ⟨hJ'.1, list_fold J r (p ++ [v]) m' n' hJ'.2 step fin⟩) q) fun _ _ e => e
end

/-- one turn of _law_way -/
def wayStep (n0 n1 : Str) (q : Int × Int × Str) : Int × Int × Str :=
  if q.1 < q.2.1 then (q.1, q.2.1 - q.1, joinS q.2.2 n0) else if q.2.1 < q.1 then (q.1 - q.2.1, q.2.1, joinS q.2.2 n1) else q
def wayN (n0 n1 : Str) : Nat → Int × Int × Str → Int × Int × Str
  | 0, q => q
  | k + 1, q => wayStep n0 n1 (wayN n0 n1 k q)
abbrev tup2S (x y : Str) (t u : Tok) : Obj := { cls := .type "tuple", data := .seq #[.str x t, .str y u] }
theorem joinS_len (x y : Str) : (joinS x y).length ≤ x.length + y.length + 1 := by
  unfold joinS
  have h1 : (Str.ofString "/").length = 1 := by decide +kernel
  split
  · omega
  · split <;> simp only [Str.length_append, h1] <;> omega
def wayM (m0 : Str → Option Value) (sv : Option Value) (u l : Int) (y : Str) (tu tl ty : Tok) : Str → Option Value := fun z =>
  if z = Str.ofString "step" then sv else if z = Str.ofString "upper" then some (.int u tu) else if z = Str.ofString "lower" then some (.int l tl) else if z = Str.ofString "way" then some (.str y ty) else m0 z
def wayJ (n0 n1 : Str) (t4 t5 : Tok) (na : Addr) (q : Int × Int × Str) (m0 : Str → Option Value) (i : Nat) (m : Str → Option Value) (news : List (Addr × Obj)) : Prop :=
  news = [(na, tup2S n0 n1 t4 t5)] ∧ ∃ sv u l y tu tl ty, m = wayM m0 sv u l y tu tl ty ∧ (u, l, y) = wayN n0 n1 i q ∧ y.length ≤ 1 + 5 * i
theorem wayM_l (m0 : Str → Option Value) (sv : Option Value) (u l : Int) (y : Str) (tu tl ty : Tok) (x : Value) (l' : Int) (y' : Str) (t t' : Tok) :
    (fun z => if z = Str.ofString "lower" then some (Value.int l' t) else if z = Str.ofString "way" then some (Value.str y' t') else if z = Str.ofString "step" then some x else wayM m0 sv u l y tu tl ty z) = wayM m0 (some x) u l' y' tu t t' := by
  funext z
  unfold wayM
  repeat' split
  all_goals (first | rfl | (subst z; first | exact absurd ‹_› (by decide) | rfl))
theorem wayM_r (m0 : Str → Option Value) (sv : Option Value) (u l : Int) (y : Str) (tu tl ty : Tok) (x : Value) (u' : Int) (y' : Str) (t t' : Tok) :
    (fun z => if z = Str.ofString "upper" then some (Value.int u' t) else if z = Str.ofString "way" then some (Value.str y' t') else if z = Str.ofString "step" then some x else wayM m0 sv u l y tu tl ty z) = wayM m0 (some x) u' l y' t tl t' := by
  funext z
  unfold wayM
  repeat' split
  all_goals (first | rfl | (subst z; first | exact absurd ‹_› (by decide) | rfl))
theorem wayM_0 (m0 : Str → Option Value) (sv : Option Value) (u l : Int) (y : Str) (tu tl ty : Tok) (x : Value) :
    (fun z => if z = Str.ofString "step" then some x else wayM m0 sv u l y tu tl ty z) = wayM m0 (some x) u l y tu tl ty := by
  funext z
  unfold wayM
  repeat' split
  all_goals (first | rfl | (subst z; first | exact absurd ‹_› (by decide) | rfl))
set_option maxHeartbeats 8000000 in
theorem way_c (w : World) (up lo : Int) (st n0 n1 : Str) (t1 t2 t3 t4 t5 : Tok) (na : Addr) (hs : st.length ≤ 1) (h0 : n0.length ≤ 4) (h1 : n1.length ≤ 4) :
    Tells w 183 8 60 [(na, tup2S n0 n1 t4 t5)] [.int up t1, .int lo t2, .str st t3, .ref na] (RetV fun t => .str (wayN n0 n1 8 (up, lo, st)).2.2 t) := by
  first | unfold Tells | unfold TellsN
  k_fill
  intro mean mg mb dp un gd cn cs a ccd cl outer A₀ base h₀ L m s Q E B F X N T hk hdp hun hret
  refine wpAny_call ?_
  k_dflt (refine' enter_own (binds := [(Str.ofString "upper", .int up t1), (Str.ofString "lower", .int lo t2), (Str.ofString "start", .str st t3), (Str.ofString "names", .ref na)]) ?k1 ?k2 ?k3 ?k4 ?k5 ?kA ?kF ?kK ?k6 ?k7 ?k8 ?k9 ?kB ?_ ?c2 ?c3 ?c4 ?c5; (case kA => exact rfl); (case kF => exact rfl); (case kK => assumption); (case k1 => k_asm); (case k2 => k_asm); (case k3 => k_asm); (case k4 => k_asm); (case k5 => k_asm); (case k6 => k_is); (case k7 => k_is); (case k8 => ktr_room); (case k9 => exact BindsTo.of_eq rfl); (case c5 => decide); (case kB => exact locs rfl); (case c2 => exact rfl); (case c3 => exact rfl); (case c4 => exact rfl); k_whole; intro g' L' h' hK' FG' F' N' B' X' T'; (try dsimp only); (try k_lift B'); (try k_fold))
  repeat' ((fail_if_success (with_reducible show RangeRest _ _ _ _ _ _ _ _ _ _ _ _ _ _ _ _ _)); (first | (k_unfold; (try dsimp only)) | walk1 | (dsimp only; walk1)))
  refine range_fold (wayJ n0 n1 t4 t5 na (up, lo, st) (fun y => List.lookup y [(Str.ofString "upper", Value.int up t1), (Str.ofString "lower", Value.int lo t2), (Str.ofString "start", Value.str st t3), (Str.ofString "names", Value.ref na)].reverse)) _ _ _ _ ?_ ?_ ?_
  · refine ⟨rfl, none, up, lo, st, t1, t2, t3, ?_, rfl, by omega⟩
    funext z
    unfold wayM
    repeat' split
    all_goals (first | rfl | (subst z; first | exact absurd ‹_› (by decide) | rfl))
  · rintro j m' news' _ hj ⟨rfl, sv, u, l, y, tu, tl, ty, rfl, hw, hl⟩ t h tk F N
    k_steps
    · refine ⟨rfl, _, _, _, _, _, _, _, wayM_l _ _ _ _ _ _ _ _ _ _ _ _ _, ?_, ?_⟩
      · show _ = wayStep n0 n1 (wayN n0 n1 j (up, lo, st))
        rw [← hw]
        simp only [wayStep, if_pos ‹u < l›]
      · have := joinS_len y n0
        omega
    · refine ⟨rfl, _, _, _, _, _, _, _, wayM_r _ _ _ _ _ _ _ _ _ _ _ _ _, ?_, ?_⟩
      · show _ = wayStep n0 n1 (wayN n0 n1 j (up, lo, st))
        rw [← hw]
        simp only [wayStep, if_neg ‹¬ u < l›, if_pos ‹l < u›]
      · have := joinS_len y n1
        omega
    · refine ⟨rfl, _, _, _, _, _, _, _, wayM_0 _ _ _ _ _ _ _ _ _, ?_, ?_⟩
      · show _ = wayStep n0 n1 (wayN n0 n1 j (up, lo, st))
        rw [← hw]
        simp only [wayStep, if_neg ‹¬ u < l›, if_neg ‹¬ l < u›]
      · omega
  · rintro m' news' ⟨rfl, sv, u, l, y, tu, tl, ty, rfl, hw, hl⟩ h tk F2 N2
    k_steps
    refine ret_str (Q := Q) hret ?_ (keep_all N hK' (by k_asm) (by k_asm) (by first | (intro _ h; cases h; done) | kcj_all))
    exact congrArg (fun q : Int × Int × Str => q.2.2) hw
local macro_rules | `(tactic| walk_at "call ref") => `(tactic| (k_here; (with_reducible show wpAny _ _ (call (Value.ref 183) [Value.int _ _, Value.int _ _, Value.str _ _, Value.ref _]) _ _ _); k_dflt (refine' Tells.use (way_c _ _ _ _ _ _ _ _ _ _ _ _ ?kx ?ky ?kz) ?k1 ?k2 ?k3 ?k4 ?k5 ?kK ?kd ?ku ?_; (case k1 => k_asm); (case k2 => k_asm); (case k3 => k_asm); (case k4 => first | exact News.nil | exact news_sub (by k_asm) (by kcj_all)); (case k5 => k_asm); (case kK => first | exact rfl | assumption); (case kd => ktr_room); (case ku => ktr_units); (case kx => first | assumption | decide); (case ky => first | assumption | decide); (case kz => first | assumption | decide); k_whole; intro t9 h9 tk9 kp9; (have F9 := fr_stays (by k_asm) kp9); (have N9 := news_stays (by k_asm) kp9); clear kp9; (try dsimp only); (try k_fold))))

section
theorem owner_map : Manifest.find? "map" ≠ none := by decide +kernel
theorem slot_map_next : Slot "map" "__next__" "map.__next__" :=
  .of (owner := "map") (n := "__next__") (by rw [typeLookup_type, builtinLookup_eq_fast]; kernel_rfl) (by decide +kernel) (by decide +kernel) (by decide +kernel)
    (by first | exact .inl (by decide +kernel) | exact .inr (by decide +kernel)) (by rw [isSubtype_type]; kernel_rfl)
theorem slot_map_iter : Slot "map" "__iter__" "map.__iter__" :=
  .of (owner := "map") (n := "__iter__") (by rw [typeLookup_type, builtinLookup_eq_fast]; kernel_rfl) (by decide +kernel) (by decide +kernel) (by decide +kernel)
    (by first | exact .inl (by decide +kernel) | exact .inr (by decide +kernel)) (by rw [isSubtype_type]; kernel_rfl)
theorem slot_map_init : Slot "map" "__init__" "object.__init__" :=
  .of (owner := "object") (n := "__init__") (by rw [typeLookup_type, builtinLookup_eq_fast]; kernel_rfl) (by decide +kernel) (by decide +kernel) (by decide +kernel)
    (by first | exact .inl (by decide +kernel) | exact .inr (by decide +kernel)) (by rw [isSubtype_type]; kernel_rfl)
theorem entry_map_next : entryFor table "map.__next__" = some Builtin.«map.__next__» := entryFor_of_tree (by kernel_rfl)
theorem entry_map_new : entryFor table "map.__new__" = some Builtin.«map.__new__» := entryFor_of_tree (by kernel_rfl)
theorem entry_map_iter : entryFor table "map.__iter__" = some Builtin.«dict_keyiterator.__iter__» := by
  first
    | (rw [table_eq_tree, PySem.W.Fast.te12177470255685639600, PySem.W.Fast.te14364793385576792824, PySem.W.Fast.te14515807449678170102]; kernel_rfl)
    | exact entryFor_alias (id' := "dict_keyiterator.__iter__") (by kernel_rfl) (by first | rfl | decide +kernel | (unfold String.splitOn; simp +decide [String.splitOnAux])) (by decide +kernel) (by kernel_rfl)
theorem args_map_next (a : Value) : argsOk "map.__next__" ⟨[a], []⟩ := by unfold argsOk; kernel_rfl
theorem args_map_iter (a : Value) : argsOk "map.__iter__" ⟨[a], []⟩ := by unfold argsOk; kernel_rfl
theorem mro_map : mroOf (.type "map") = pure [.type "map", .type "object"] := by rw [mroOf_type]; kernel_rfl
theorem lookup_map_new : typeLookup (.type "map") "__new__" = pure (some (.builtin "map.__new__")) := by rw [typeLookup_type, builtinLookup_eq_fast]; kernel_rfl
theorem called_map : TypeCalled "map" "map.__new__" "object.__init__" :=
  ⟨by decide +kernel, by decide +kernel, ⟨_, _, mro_map⟩, madeBy_type mro_map lookup_map_new (by decide +kernel), by decide +kernel, by rw [isSubtype_type]; kernel_rfl, slot_map_init⟩
theorem typeCall_map_2 (a b : Value) : checkTypeCall "map" ⟨[a, b], []⟩ = pure () := by first | (rw [PySem.W.Fast.te11612656972197000677]; kernel_rfl) | kernel_rfl
theorem newCall_map_2 (a b : Value) : checkBuiltinCall "map.__new__" ⟨[.type "map", a, b], []⟩ = pure () := by first | (rw [PySem.W.Fast.te10254737850608025244]; kernel_rfl) | kernel_rfl
theorem sub_map : isSubtype (.type "map") (.type "map") = pure true := by rw [isSubtype_type]; kernel_rfl
theorem map_no_len : typeLookup (.type "map") "__len__" = pure none := by rw [typeLookup_type, builtinLookup_eq_fast]; kernel_rfl
theorem map_no_hint : typeLookup (.type "map") "__length_hint__" = pure none := by rw [typeLookup_type, builtinLookup_eq_fast]; kernel_rfl
end
abbrev IsMap (h : Heap) (M T : Addr) (f : Value) : Prop := h.get? M = some { cls := .type "map", dict := none, data := .fields #[.ref T, f], slots := #[] }
abbrev IsOne (h : Heap) (T : Addr) (a : Value) : Prop := h.get? T = some { cls := .type "tuple", data := .seq #[a] }
abbrev mapH1 (h : Heap) (l : Addr) : Heap := h.push { cls := .type "list_iterator", data := .fields #[.ref l, .int 0 0] }
abbrev mapH2 (h : Heap) (l : Addr) : Heap := (mapH1 h l).push { cls := .type "tuple", data := .seq #[.ref h.objs.size] }
abbrev mapH3 (h : Heap) (l : Addr) (f : Value) : Heap := (mapH2 h l).push { cls := .type "map", data := .fields #[.ref (mapH1 h l).objs.size, f] }
theorem meets_map_new (l : Addr) (xs : Array Value) (f : Value) :
    Meets (Builtin.«map.__new__» ⟨[.type "map", f, .ref l], []⟩) (fun _ R s => s.heap.IsList l xs ∧ R (.ok (.ret (.ref (mapH2 s.heap l).objs.size))) { s with heap := mapH3 s.heap l f }) :=
  .of_wp fun prog w A R s h => by
    obtain ⟨hp, g, d, tk, os⟩ := s; obtain ⟨hl, h⟩ := h
    have hsub := sub_map
    have hL : Heap.IsList (Shared.heap ⟨hp, g, d, tk, os⟩) l xs := hl
    wp_walk using wpAny_pyIter_list hL
    exact ⟨_, rfl, h⟩
section
variable {prog : Program} {w : World} {A : Around} {E : Value → Shared → Prop} {s : Shared}
theorem call_map {l : Addr} {xs : Array Value} {f : Value} {Q : Value → Shared → Prop} (hl : s.heap.IsList l xs)
    (h : ∀ h', IsMap h' (s.heap.objs.size + 2) (s.heap.objs.size + 1) f → IsOne h' (s.heap.objs.size + 1) (.ref s.heap.objs.size) → h'.IsListIter s.heap.objs.size l 0 → h'.objs.size = s.heap.objs.size + 3 →
      s.heap.StaysIn h' → Q (.ref (s.heap.objs.size + 2)) { s with heap := h' }) :
    wpAny (model prog w) A (call (.type "map") [f, .ref l]) Q E s := by
  refine callType_new called_map (by decide) (typeCall_map_2 _ _) (newCall_map_2 _ _) (fun obj => F.args_object_init_3 obj _ _) entry_map_new (meets_map_new l xs f) ⟨hl, ?_⟩
  have z1 : (mapH1 s.heap l).objs.size = s.heap.objs.size + 1 := Heap.size_push ..
  have z2 : (mapH2 s.heap l).objs.size = s.heap.objs.size + 2 := by rw [Heap.size_push, z1]
  have z3 : (mapH3 s.heap l f).objs.size = s.heap.objs.size + 3 := by rw [Heap.size_push, z2]
  have g3 : (mapH3 s.heap l f).get? (mapH2 s.heap l).objs.size = some _ := Heap.get?_push_size _ rfl
  have g2 : (mapH3 s.heap l f).get? (mapH1 s.heap l).objs.size = some _ := Heap.get?_push_of_some _ (Heap.get?_push_size _ rfl)
  have g1 : (mapH3 s.heap l f).get? s.heap.objs.size = some _ := Heap.get?_push_of_some _ (Heap.get?_push_of_some _ (Heap.get?_push_size _ rfl))
  show _ ∧ _
  rw [z1, z2] at g3
  rw [z1] at g2
  rw [z2]
  exact ⟨⟨_, g3, rfl⟩, h _ g3 g2 ⟨_, g1, rfl, rfl⟩ z3 fun c o x => Heap.get?_push_of_some _ (Heap.get?_push_of_some _ (Heap.get?_push_of_some _ x))⟩
end

theorem strs_at {vs : List Value} {xs : List Str} (h : StrsAre vs xs) : ∀ {i : Nat}, i < vs.length → ∃ x t, xs[i]? = some x ∧ vs[i]? = some (.str x t) := by
  intro i hi
  have hl := h.length
  obtain ⟨t, ht⟩ := h.get i (xs[i]'(by omega)) (List.getElem?_eq_getElem (by omega))
  exact ⟨_, t, List.getElem?_eq_getElem (by omega), ht⟩
theorem strs_of_at : ∀ {vs : List Value} {xs : List Str}, vs.length = xs.length → (∀ (i : Nat) (v : Value), vs[i]? = some v → ∃ x t, xs[i]? = some x ∧ v = Value.str x t) → StrsAre vs xs
  | [], [], _, _ => .nil
  | v :: vs, x :: xs, hl, h => by
    obtain ⟨x', t, hx, rfl⟩ := h 0 v rfl
    obtain rfl : x = x' := by simpa using hx
    exact .cons _ _ (strs_of_at (by simpa using hl) fun i w hw => h (i + 1) w (by simpa using hw))
  | [], _ :: _, hl, _ => by simp at hl
  | _ :: _, [], hl, _ => by simp at hl
section
variable {prog : Program} {w : World} {A : Around} {E : Value → Shared → Prop} {s : Shared}
abbrev MapSt (hb : Heap) (M T I na : Addr) (f : Value) (vs : List Value) (i : Nat) (h : Heap) : Prop :=
  hb.StaysIn h ∧ IsMap h M T f ∧ IsOne h T (.ref I) ∧ h.IsListIter I na i ∧ h.IsList na vs.toArray
theorem pyIter_map {M T : Addr} {f : Value} {Q : Value → Shared → Prop} (hz : IsMap s.heap M T f) (h : Q (.ref M) s) : wpAny (model prog w) A (pyIter (.ref M)) Q E s := by
  have hT : s.TypeIs (.ref M) "map" := ⟨_, hz, rfl⟩
  refine wpAny_pyIter_slot hT slot_map_iter (wpAny_call_entry slot_map_iter hT entry_map_iter ?_ (args_map_iter _))
  show wpAny _ _ (ret (.ref M)) _ _ s
  exact wpAny_pure ⟨_, rfl, "map", _, hT, slot_map_next.lookup, h⟩
/-- what a called def does to a text: it hands it back, the heap stays -/
def Hands (prog : Program) (w : World) (A : Around) (hb : Heap) (f : Value) : Prop :=
  ∀ (s : Shared) (Q E : Value → Shared → Prop) (x : Str) (t : Tok), hb.StaysIn s.heap → RetV (fun t => .str x t) s Q → wpAny (model prog w) A (call f [.str x t]) Q E s
theorem walks_map (hh : A.handled = none) {hb : Heap} {M T I na : Addr} {f : Value} {vs : List Value} {xs : List Str} (hvs : StrsAre vs xs) (hI : hb.get? I = none) (hMI : M ≠ I) (hTI : T ≠ I) (hna : na ≠ I)
    (hf : Hands prog w A.in1 hb f) :
    Walks prog w A M (M :: T :: I :: na :: List.range hb.objs.size) [I] vs.length (fun i v => ∃ x t, xs[i]? = some x ∧ v = Value.str x t) (MapSt hb M T I na f vs) where
  sub := fun b hb => by simp at hb; simp [hb]
  frame := fun i h h' st hk => by
    obtain ⟨s1, s2, s3, s4, s5⟩ := st
    exact ⟨fun b o e => hk b (by simp [Heap.lt_size e]) o (s1 b o e), hk M (by simp) _ s2, hk T (by simp) _ s3, s4.at fun o e => hk I (by simp) o e, s5.at fun o e => hk na (by simp) o e⟩
  item := fun i s Q E hi st hQ => by
    obtain ⟨s1, s2, s3, s4, s5⟩ := st
    have hT : s.TypeIs (.ref M) "map" := ⟨_, s2, rfl⟩
    obtain ⟨x, t, hx, hv⟩ := strs_at hvs hi
    unfold pyNext
    refine wpAny_bind (wpAny_attempt (wpAny_callSpecial?_slot (name := Str.ofString "__next__") hT slot_map_next (wpAny_call_entry slot_map_next hT entry_map_next ?_ (args_map_next _))))
    show wpAny _ _ (field (.ref M) 0 >>= _) _ _ _
    refine wpAny_bind (wpAny_field s2 rfl (x := .ref T) rfl ?_)
    refine wpAny_bind (wpAny_seqItems s3 rfl ?_)
    dsimp only
    simp only [List.forIn_toArray, List.forIn_cons, List.forIn_nil]
    refine wpAny_bind (wpAny_bind (wpAny_bind (wpAny_holding (wpAny_nextOf_list_item s4 s5 (x := .str x t) (by simpa using hv) fun h₁ i1 sb => wpAny_pure (wpAny_pure ?_)))))
    have up : ∀ b o, b ≠ I → s.heap.get? b = some o → h₁.get? b = some o := fun b o hb e => sb.extBut b o hb e
    have m1 : IsMap h₁ M T f := up _ _ hMI s2
    refine wpAny_bind (wpAny_field m1 rfl (x := f) rfl ?_)
    refine wpAny_bind (wpAny_holding ?_)
    have st1 : hb.StaysIn h₁ := fun b o e => up b o (fun q => by rw [q, hI] at e; cases e) (s1 b o e)
    refine hf _ _ _ x t st1 fun t' h₂ tk' k2 => ?_
    refine wpAny_bind (wpAny_letGo (wpAny_pure ⟨_, rfl, wpAny_pure ?_⟩))
    exact hQ _ h₂ tk' ⟨x, t', hx, rfl⟩ ⟨fun b o e => k2 _ _ (st1 b o e), k2 _ _ m1, k2 _ _ (up _ _ hTI s3), i1.at fun o e => k2 _ _ e, s5.at fun o e => k2 _ _ (up _ _ hna e)⟩
      fun b o hb e => k2 _ _ (up b o (by simpa using hb) e)
  done := fun s Q E st hQ => by
    obtain ⟨s1, s2, s3, s4, s5⟩ := st
    have hT : s.TypeIs (.ref M) "map" := ⟨_, s2, rfl⟩
    unfold pyNext
    refine wpAny_bind (wpAny_attempt (wpAny_callSpecial?_slot (name := Str.ofString "__next__") hT slot_map_next (wpAny_call_entry slot_map_next hT entry_map_next ?_ (args_map_next _))))
    show wpAny _ _ (field (.ref M) 0 >>= _) _ _ _
    refine wpAny_bind (wpAny_field s2 rfl (x := .ref T) rfl ?_)
    refine wpAny_bind (wpAny_seqItems s3 rfl ?_)
    dsimp only
    simp only [List.forIn_toArray, List.forIn_cons, List.forIn_nil]
    refine wpAny_bind (wpAny_bind (wpAny_bind (wpAny_holding (wpAny_nextOf_list_end hh s4 s5 (by simp) fun h' e he hx => ?_))))
    obtain ⟨o, ho, hc⟩ := hx
    refine wpAny_bind (wpAny_isInstance (T := "StopIteration") (b := true) ⟨o, ho, hc⟩ isSubtype_stop ?_)
    exact wpAny_pure (hQ _ _ fun b o hb e => he b o (by simpa using hb) e)
  self := fun i s Q E st hQ => pyIter_map st.2.1 hQ
end

section
variable {prog : Program} {w : World} {A : Around} {E : Value → Shared → Prop} {s : Shared}
variable {I : Addr} {fp wr : List Addr} {G : Array GenState → Array GenState → Prop} {n : Nat} {P : Nat → Value → Prop} {St : Nat → Shared → Prop}
/-- a map's items collected into a list of the machine's own -/
theorem collect_map {Q : List Value → Shared → Prop} (W : WalksS prog w A.in1 I fp wr G n P St) (hT : ∀ i s, St i s → s.TypeIs (.ref I) "map") (hst : St 0 s) (hfp : ∀ b ∈ fp, b < s.heap.objs.size) (hI : I ∈ fp)
    (hQ : ∀ s' acc, Moved wr G s s' → ItemsOf P acc n → Q acc.toList s') (hn : n ≤ sizeLine) : wpAny (model prog w) A (collect (.ref I)) Q E s := by
  have hnew : s.heap.objs.size ∉ fp := fun hm => Nat.lt_irrefl _ (hfp _ hm)
  have hne : s.heap.objs.size ≠ I := fun e => hnew (e ▸ hI)
  unfold collect
  refine wpAny_bind (wpAny_runValue (codeAny_builtin F.entry_proto_collect ?_))
  rw [Around.under_plainId F.plain_proto_collect _]
  show wpAny _ A.in1 (newList [] >>= fun l => again (.builtin "list.__iadd__" ⟨[l, .ref I], []⟩)) _ _ s
  refine wpAny_bind (wpAny_newObj_type (wpAny_pure ⟨plainId_quiet F.plain_list_iadd _, codeAny_builtin F.entry_list_iadd ?_⟩))
  rw [Around.under_plainId F.plain_list_iadd _]
  let own : Obj := { cls := .type "list", data := .seq ([] : List Value).toArray }
  have st1 := W.frame 0 s (s.heap.push own) s.toks hst (Nat.le_refl _) fun b _ o e => Heap.get?_push_of_some _ e
  have at1 : (s.heap.push own).get? s.heap.objs.size = some own := Heap.get?_push_size _ rfl
  show wpAny _ A.in1 (Builtin.List.listExtendWith (.ref s.heap.objs.size) (.ref I) (.ref s.heap.objs.size)) _ _ _
  unfold Builtin.List.listExtendWith
  refine wpAny_bind (wpAny_typeOf (hT 0 _ st1) ?_)
  have e1 : Builtin.List.listSameRef (.ref s.heap.objs.size) (.ref I) = false := by simp [Builtin.List.listSameRef, hne]
  have e2 : (Value.type "map" == Value.type "list") = false := by decide
  have e3 : (Value.type "map" == Value.type "tuple") = false := by decide
  simp only [e1, e2, e3, Bool.or_false, Bool.false_eq_true, if_false]
  refine wpAny_bind (W.self 0 _ _ _ st1 (wpAny_bind (wpAny_holding ?_)))
  unfold Builtin.List.listLengthHint
  refine wpAny_bind (wpAny_specialOf (hT 0 _ st1) map_no_len ?_)
  show wpAny _ A.in1 (specialOf (Value.ref I) (Str.ofString "__length_hint__") >>= _) _ _ _
  refine wpAny_bind (wpAny_specialOf (hT 0 _ st1) map_no_hint (wpAny_pure ?_))
  show wpAny _ A.in1 (rule "list.extend.makes-room" >>= fun _ => Builtin.List.listTouch (.ref s.heap.objs.size) >>= fun _ =>
    again (.builtin "list.extend.loop" ⟨[.ref s.heap.objs.size, .ref I, .ref s.heap.objs.size], []⟩)) _ _ _
  refine wpAny_bind (wpAny_rule (wpAny_bind ?_))
  show wpAny _ A.in1 (updateSeq s.heap.objs.size (·.push .none) >>= fun _ => updateSeq s.heap.objs.size (·.pop)) _ _ _
  refine wpAny_bind (wpAny_updateSeq at1 rfl ?_)
  have at2 := Heap.get?_update_self (Obj.mapSeq (·.push Value.none)) at1 rfl
  refine wpAny_updateSeq at2 rfl ?_
  have at3 := Heap.get?_update_self (Obj.mapSeq (·.pop)) at2 rfl
  have oth : ∀ b o, b ≠ s.heap.objs.size → (s.heap.push own).get? b = some o →
      (((s.heap.push own).update s.heap.objs.size (Obj.mapSeq (·.push Value.none))).update s.heap.objs.size (Obj.mapSeq (·.pop))).get? b = some o :=
    fun b o hb e => (Heap.get?_update_other _ _ (Ne.symm hb)).trans ((Heap.get?_update_other _ _ (Ne.symm hb)).trans e)
  have st3 := W.frame 0 ({ s with heap := s.heap.push own } : Shared) _ s.toks st1 (Nat.le_refl _) fun b hb o e => oth b o (fun h => hnew (h ▸ hb)) e
  refine wpAny_pure ⟨plainId_quiet F.plain_extend_loop _, codeAny_extend_loopS W hn _ hnew _ n 0 _ _ _ rfl (Nat.zero_le _) st3 at3 (ItemsOf.nil P) fun s' acc' c' hm hS' hacc => ?_⟩
  show wpAny _ A (load s.heap.objs.size >>= _) _ _ s'
  refine wpAny_bind (wpAny_load hS' (wpAny_pure (hQ s' acc' (Moved.drop_new (o := own) (tk := s.toks) (Moved.trans W.gtrans ((Moved.refl W.grefl).then_heap (Nat.le_refl _) fun b o hb e => ?_) hm) (Nat.le_refl _)) hacc)))
  exact oth b o (fun q => hb (by rw [q]; exact List.mem_cons_self)) e
theorem code_tuple_map {Q₁ : Value → Shared → Prop} (W : WalksS prog w A.in1.in1 I fp wr G n P St) (hT : ∀ i s, St i s → s.TypeIs (.ref I) "map") (hst : St 0 s) (hfp : ∀ b ∈ fp, b < s.heap.objs.size) (hI : I ∈ fp)
    (h : ∀ s' acc, Moved wr G s s' → ItemsOf P acc n → Q₁ (.ref s'.heap.objs.size) { s' with heap := s'.heap.push { cls := .type "tuple", data := .seq acc } }) (hsz : n ≤ sizeLine) :
    codeAny (model prog w) A (.call (.builtin "tuple.__new__") ⟨[.type "tuple", .ref I], []⟩) (wants Q₁ E) s := by
  refine codeAny_of_tree ?_
  show wpAny _ A.in1 (do checkBuiltinCall "tuple.__new__" ⟨[.type "tuple", .ref I], []⟩; again (.builtin "tuple.__new__" ⟨[.type "tuple", .ref I], []⟩)) _ _ s
  refine wpAny_bind (wpAny_of_eq (F.newCall_tuple_1 _) (wpAny_pure ⟨plainId_quiet F.plain_tuple_new _, codeAny_builtin F.entry_tuple_new ?_⟩))
  rw [Around.under_plainId F.plain_tuple_new _]
  have f1 := sub_tuple_self
  have f2 := init_tuple_lookup
  have f3 := madeHere_tuple
  have f4 := hT 0 s hst
  wp_walk using wpAny_typeOf f4, collect_map (hn := hsz) W hT hst hfp hI
  intro s' acc hm hacc
  show wpAny _ _ (Builtin.Tuple.tupleExact acc.toList.toArray >>= fun v => ret v) _ _ _
  unfold Builtin.Tuple.tupleExact
  have e : acc.toList.toArray = acc := by simp
  rw [e]
  exact wpAny_bind (wpAny_newObj_type (wpAny_pure (h s' acc hm hacc)) (by show acc.size ≤ sizeLine; rw [hacc.1]; exact hsz))
theorem call_tuple_map {Q : Value → Shared → Prop} (W : WalksS prog w A.in1.in1.in1 I fp wr G n P St) (hT : ∀ i s, St i s → s.TypeIs (.ref I) "map") (hst : St 0 s) (hfp : ∀ b ∈ fp, b < s.heap.objs.size) (hI : I ∈ fp)
    (hQ : ∀ s' acc, Moved wr G s s' → ItemsOf P acc n → Q (.ref s'.heap.objs.size) { s' with heap := s'.heap.push { cls := .type "tuple", data := .seq acc } }) (hsz : n ≤ sizeLine) :
    wpAny (model prog w) A (call (.type "tuple") [.ref I]) Q E s := by
  refine callType_codes (Q₁ := fun obj s₁ => s₁.TypeIs obj "tuple" ∧ Q obj s₁) F.called_tuple (F.typeCall_tuple_1 _) F.entry_object_init
    (code_tuple_map (hsz := hsz) W hT hst hfp hI fun s' acc hm hacc => ⟨⟨_, Heap.get?_push_size _ rfl, rfl⟩, hQ s' acc hm hacc⟩) fun obj s₁ h₁ => ?_
  exact ⟨h₁.1, F.args_object_init_2 obj _, object_init_meets F.called_tuple.init.lookup F.called_tuple.made (by decide) prog w A.in1 _ s₁ ⟨h₁.1, rfl, h₁.2⟩⟩
end

section
variable {prog : Program} {w : World} {A A₀ : Around} {s : Shared} {K : Frag} {L : Addr} {h₀ base : Heap} {m mg mb : Str → Option Value} {own : List (Addr × Obj)} {p : Program} {loose : List Str} {mean : ExcName → Option Value}
  {env : Env} {outer : List Env} {R : Result → Shared → Prop} {name qual : Str} {params : Arguments} {body : List Stmt} {scope : Scope} {dV kV doc pm cdv ct oc : Value} {an od : Option Addr} {osl : Array (Option Value)} {f : Addr} {args : Args}
/-- entering a def whose names are captured, with a part of the ledger -/
theorem enter_cells {binds : List (Str × Value)}
    (B : Below A₀ base outer h₀) (F : Fr h₀ L s.heap m) (X₀ : K.In h₀) (N : News h₀ L s.heap own) (T : Top p loose mean mg mb h₀) (hA : A.frames = some (env :: outer)) (hf : env.frame = some L) (hke : env.scope.kind = .function)
    (ho : K.lookup f = some ⟨oc, od, .func (fnOf name qual params body scope dV kV doc pm an cdv ct), osl⟩) (hcd : codeIn K cdv qual = true) (hroom : A.depth < recursionLimit)
    (hbind : BindsTo s (fnOf name qual params body scope dV kV doc pm an cdv ct) args binds)
    (hkind : (binds.all fun y => scope.names.lookup y.1 == some .local || scope.names.lookup y.1 == some .cell) = true)
    (hnd : ((cellsFrom 0 scope.names []).map (·.1)).Nodup)
    (h : ∀ g L' h₁ tk cells, Kept s.heap own g → Fr h₀ L g m → Fr g L' h₁ (bindL (envOfC qual scope L' f cdv).kindOf binds fun _ => none) → News g L' h₁ (cells ++ own) →
      CellsAre (bindC (envOfC qual scope L' f cdv).kindOf binds fun _ => none) (cellsFrom (L' + 1) scope.names []) cells → Below A base (env :: outer) g → K.In g → Top p loose mean mg mb g → (∀ p ∈ own, p.1 < L') →
      wpAny (model prog w) (A.deeper (envOfC qual scope L' f cdv)) (execs body (envOfC qual scope L' f cdv))
        (fun fl s' => LeaveK h₀ L m g R (match fl with | .ret v => v | _ => .none) s')
        (fun e s' => wpAny (model prog w) (A.deeper (envOfC qual scope L' f cdv)) (leaving (envOfC qual scope L' f cdv) e) (fun _ s'' => R (.error e) s'') (fun e' s'' => R (.error e') s'') s')
        { s with heap := h₁, toks := tk })
    (hco : scope.isCoroutine = false) (hgen : scope.isGenerator = false) (hk : scope.kind = .function) : codeAny (model prog w) A (.call (.ref f) args) R s := by
  obtain ⟨FG, BG, st, lv⟩ := groundX (R := R) B F N hA hf hke
  refine codeAny_call_function (fd := fnOf name qual params body scope dV kV doc pm an cdv ct) (body := body) hroom ((X₀.keeps F.keep) _ _ ho) rfl hco hgen rfl (codeRec_of (X₀.keeps F.keep) hcd) (hbind _ _ _ _ ?_)
  refine wpAny_newFunctionEnv_cells hk (kindsX hkind _) fun env' he s' x => ?_
  subst he
  refine ⟨(T.nolimit.keeps F.keep).keeps x.toInCall.keep, codeAny_func ?_⟩
  obtain ⟨h₁, tk, rfl, _⟩ := x.done
  have k1 := x.toInCall.keep
  obtain ⟨cells, NC, Y⟩ := Cl.news (h₀ := s.heap) (Nat.le_refl _) fun n c hm => ⟨x.cell n c (lookup_of_mem_nodup (cellsFrom_names scope.names 0 (s.heap.objs.size + 1) [] [] rfl ▸ hnd) hm), x.above n c hm⟩
  refine wpAny_mono (h _ s.heap.objs.size h₁ tk cells (fun b o e hn => hideAll_get _ e hn) FG ⟨x.toInCall.ns, fun b o e => k1 b o (of_hideAll _ e), Nat.le_of_eq (hideAll_size _ _)⟩ (fun q hq => ?_) Y BG (X₀.keeps st) (T.keeps st) (fun q hq => Heap.lt_size (N q hq).1)) (fun fl s' hl => lv _ _ hl) fun _ _ y => y
  rcases List.mem_append.mp hq with hq | hq
  · refine ⟨(NC q hq).1, (NC q hq).2.1, ?_⟩
    cases e : (hideAll s.heap (own.map (·.1))).get? q.1 with
    | none => rfl
    | some o => have := of_hideAll _ e; rw [(NC q hq).2.2] at this; cases this
  · exact ⟨k1 _ _ (N q hq).1, Nat.ne_of_lt (Heap.lt_size (N q hq).1), hideAll_none _ (List.mem_map_of_mem hq)⟩
end

abbrev mapO (T : Addr) (f : Value) : Obj := { cls := .type "map", dict := none, data := .fields #[.ref T, f], slots := #[] }
abbrev oneO (v : Value) : Obj := { cls := .type "tuple", data := .seq #[v] }
abbrev tupO (vs : List Value) : Obj := { cls := .type "tuple", data := .seq vs.toArray }
def OffL (I : Addr) (news : List (Addr × Obj)) : Prop := ∀ p ∈ news, p.1 ≠ I
section
variable {prog : Program} {w : World} {A : Around} {E : Value → Shared → Prop} {s : Shared} {h₀ : Heap} {L : Addr} {m : Str → Option Value} {news : List (Addr × Obj)}
theorem map_K {na : Addr} {lo : Obj} {vs : Array Value} {n : Nat} {f : Value} {Q : Value → Shared → Prop} (F : Fr h₀ L s.heap m) (N : News h₀ L s.heap news) (hm : (na, lo) ∈ news) (hc : lo.cls = .type "list") (hd : lo.data = .seq vs n)
    (h : ∀ M T I oI h', Fr h₀ L h' m → News h₀ L h' ((M, mapO T f) :: (T, oneO (.ref I)) :: (I, oI) :: news) → h'.IsListIter I na 0 → OffL I news → M ≠ I → T ≠ I → Q (.ref M) { s with heap := h' }) :
    wpAny (model prog w) A (call (.type "map") [f, .ref na]) Q E s := by
  have hl : s.heap.IsList na vs := ⟨lo, (N _ hm).1, hc, n, hd⟩
  refine call_map hl fun h' m1 m2 m3 _ st => ?_
  obtain ⟨oI, eI, r⟩ := m3
  have nn : ∀ {b : Addr}, s.heap.objs.size ≤ b → b ≠ L ∧ h₀.get? b = none := fun {b} hb => by
    obtain ⟨oL, _, _, hL, _⟩ := F.ns
    refine ⟨fun e => ?_, ?_⟩
    · exact absurd (Nat.lt_of_lt_of_le (Heap.lt_size hL) (e ▸ hb)) (Nat.lt_irrefl _)
    · cases q : h₀.get? b with
      | none => rfl
      | some o => exact absurd (Nat.lt_of_lt_of_le (Heap.lt_size (F.keep _ _ q)) hb) (Nat.lt_irrefl _)
  refine h (s.heap.objs.size + 2) (s.heap.objs.size + 1) s.heap.objs.size oI h' (fr_stays F st) (fun p hp => ?_) ⟨oI, eI, r⟩ (fun p hp => Nat.ne_of_lt (Heap.lt_size (N p hp).1)) (Nat.ne_of_gt (Nat.lt_add_of_pos_right (k := 2) (by decide))) (Nat.ne_of_gt (Nat.lt_add_of_pos_right (k := 1) (by decide)))
  rcases List.mem_cons.mp hp with rfl | hp
  · exact ⟨m1, nn (Nat.le_add_right _ _)⟩
  rcases List.mem_cons.mp hp with rfl | hp
  · exact ⟨m2, nn (Nat.le_add_right _ _)⟩
  rcases List.mem_cons.mp hp with rfl | hp
  · exact ⟨eI, nn (Nat.le_refl _)⟩
  · exact news_stays N st p hp
end
section
variable {w : World} {news : List (Addr × Obj)} {mean : ExcName → Option Value} {mg mb : Str → Option Value} {dp un : Nat} {gd : Option (List Code)} {cn : Str} {cs : Scope} {a : Addr} {ccd : Value} {cl : List (Str × Addr)} {outer : List Env} {A₀ : Around} {base h₀ : Heap} {L : Addr} {m : Str → Option Value} {s : Shared} {Q E : Value → Shared → Prop}
theorem tuple_fspath {M T I na : Addr} {oI lo : Obj} {vs : List Value} {xs : List Str} {n : Nat} (B : Below A₀ base outer h₀) (F : Fr h₀ L s.heap m) (X : (hd.heap_39 w.params).In h₀)
    (N : News h₀ L s.heap ((M, mapO T (.ref 94)) :: (T, oneO (.ref I)) :: (I, oI) :: news)) (hli : s.heap.IsListIter I na 0) (hoff : OffL I news) (hMI : M ≠ I) (hTI : T ≠ I) (Tp : Top lawQ (looseW lawQ []) mean mg mb h₀) (hk : cs.kind = .function)
    (hdp : dp + 1 < recursionLimit) (hun : un + 12 < cLine) (hm : (na, lo) ∈ news) (hc : lo.cls = .type "list") (hd : lo.data = .seq vs.toArray n) (hvs : StrsAre vs xs) (hsz : vs.length ≤ 1000)
    (h : ∀ D vs' h' tk', StrsAre vs' xs → Fr h₀ L h' m → News h₀ L h' ((D, tupO vs') :: news) → OffL D news → Q (.ref D) { s with heap := h', toks := tk' }) :
    wpAny (model PySem.Challenge.rw_pd0131_01.row.prog w) (ktrTop dp un gd cn cs L a ccd cl outer) (call (.type "tuple") [.ref M]) Q E s := by
  have hI : s.heap.get? I = some oI ∧ I ≠ L ∧ h₀.get? I = none := N (I, oI) (.tail _ (.tail _ (.head _)))
  have hM : s.heap.get? M = some (mapO T (.ref 94)) := (N (M, mapO T (.ref 94)) (.head _)).1
  have hT : s.heap.get? T = some (oneO (.ref I)) := (N (T, oneO (.ref I)) (.tail _ (.head _))).1
  have hN : News h₀ L s.heap news := fun p hp => N p (.tail _ (.tail _ (.tail _ hp)))
  have hna : na ≠ I := hoff _ hm
  have hl : s.heap.IsList na vs.toArray := ⟨lo, (hN _ hm).1, hc, n, hd⟩
  have fr : ∀ {h : Heap}, (s.heap.hide I).StaysIn h → Fr h₀ L h m := fun {h} st => by
    have F1 : Fr h₀ L (s.heap.hide I) m := ⟨F.ns.at' fun o e => (Heap.hide_ne _ fun q => hI.2.1 q.symm).trans e, fun b o e => (Heap.hide_ne _ fun q => by rw [q, hI.2.2] at e; cases e).trans (F.keep b o e), F.above⟩
    exact fr_stays F1 st
  have hands : Hands PySem.Challenge.rw_pd0131_01.row.prog w (ktrTop dp un gd cn cs L a ccd cl outer).in1.in1.in1.in1 (s.heap.hide I) (.ref 94) := fun s' Q' E' x t st hr =>
    (fspath_c w x t).use (un := un + 1 + 1 + 1 + 1) B (fr st) X News.nil Tp hk (by omega) (by omega) hr
  have W := walks_map (A := (ktrTop dp un gd cn cs L a ccd cl outer).in1.in1.in1) (M := M) (T := T) rfl hvs (Heap.hide_self ..) hMI hTI hna hands
  have st0 : MapSt (s.heap.hide I) M T I na (.ref 94) vs 0 s.heap := ⟨fun b o e => Heap.of_hide e, hM, hT, hli, hl⟩
  refine call_tuple_map W.toS (fun i s' st => ⟨_, st.2.1, rfl⟩) st0 (fun b hb => ?_) (by simp) (fun s' acc mv ha => ?_) (by rw [sizeLine_eq]; omega)
  · simp only [List.mem_cons, List.mem_range] at hb
    rcases hb with rfl | rfl | rfl | rfl | hb
    · exact Heap.lt_size hM
    · exact Heap.lt_size hT
    · exact Heap.lt_size hI.1
    · obtain ⟨_, e, _⟩ := hl; exact Heap.lt_size e
    · rw [Heap.hide_size] at hb; exact hb
  · have kp : ∀ b o, b ≠ I → s.heap.get? b = some o → (s'.heap.push (tupO acc.toList)).get? b = some o := fun b o hb e => Heap.get?_push_of_some _ (mv.heap b o (by simpa using hb) e)
    have hvs' : StrsAre acc.toList xs := by
      refine strs_of_at (by rw [Array.length_toList, ha.1]; exact hvs.length) fun i v hv => ha.2 i v (by simpa using hv)
    have fr' : Fr h₀ L (s'.heap.push (tupO acc.toList)) m := fr fun b o e => kp b o (fun q => by rw [q, Heap.hide_self] at e; cases e) (Heap.of_hide e)
    have nn : s'.heap.objs.size ≠ L ∧ h₀.get? s'.heap.objs.size = none := by
      obtain ⟨oL, _, _, hL, _⟩ := F.ns
      have hL' := mv.heap L oL (by simpa using fun q => hI.2.1 q.symm) hL
      refine ⟨fun e => absurd (Heap.lt_size hL') (by rw [e]; exact Nat.lt_irrefl _), ?_⟩
      cases q : h₀.get? s'.heap.objs.size with
      | none => rfl
      | some o => exact absurd (Heap.lt_size (mv.heap _ o (by simpa using fun z => by rw [z, hI.2.2] at q; cases q) (F.keep _ _ q))) (Nat.lt_irrefl _)
    have := h s'.heap.objs.size acc.toList (s'.heap.push (tupO acc.toList)) s'.toks hvs' fr' (fun p hp => by
      rcases List.mem_cons.mp hp with rfl | hp
      · exact ⟨Heap.get?_push_size _ rfl, nn⟩
      · exact ⟨kp _ _ (hoff p hp) (hN p hp).1, (hN p hp).2⟩) (fun p hp => Nat.ne_of_lt (Heap.lt_size (mv.heap _ _ (by simpa using hoff p hp) (hN p hp).1)))
    have e : tupO acc.toList = { cls := .type "tuple", data := .seq acc } := by show ({ cls := .type "tuple", data := .seq acc.toList.toArray } : Obj) = _; simp
    rw [e] at this
    obtain ⟨sh, sg, sd, stk, so⟩ := s'
    obtain ⟨_, g2, d2, o2, _⟩ := mv
    dsimp only at g2 d2 o2 this ⊢
    subst g2 d2 o2
    exact this
end

section
variable {prog : Program} {w : World} {A : Around} {E : Value → Shared → Prop} {env : Env}
/-- y = [elt for x in ..], each item a list of its own -/
theorem assign_lists {s : Shared} {elt iter : Expr} {x y : Str} {px py : Pos} {scope : Scope} {cl : List (Str × Addr)} {pos spos : Pos} {Q : Flow → Shared → Prop} (G : Value → Array Value → Prop)
    (hsw : swapsWith (.ListComp elt [⟨.Name x px, iter, [], 0⟩] scope pos) (some (.Name y py)) spos.line env = pure true)
    (hclos : closureFor scope env = pure cl) (hcell : ∀ z ∈ scope.names, z.2 ≠ .cell) (hkind : scope.kind = .function)
    (hnames : ∀ z ∈ scope.names, z.2 = .local → scope.names.lookup z.1 = some .local) (hx : scope.names.lookup x = some .local)
    (hy : env.kindOf y = some .local) (hp : (env.scope.kind == .class || (env.scope.kind == .module && env.locals != env.globals)) = false)
    (h : wpAny (model prog w) A (eval iter env) (fun xv s₁ => wpAny (model prog w) A (pyIter xv) (fun it s₂ => ∃ I fp n P St m, it = .ref I ∧ Walks prog w A I fp [I] n P St ∧ n ≤ sizeLine ∧ (∀ i h, St i h → ∃ o, h.get? I = some o) ∧ St 0 s₂.heap ∧ (∀ b ∈ fp, b < s₂.heap.objs.size) ∧
      env.locals ≠ I ∧ s₂.heap.Ns env.locals m ∧ QuietOnCO prog w A env scope cl x [] elt [I] P (fun _ => true) G s₂ ∧
      (∀ D h' tk ys (vs : List Value), s₂.heap.get? D = none → h'.PlainList D ys → vs.length = n → (∀ j v, vs[j]? = some v → P j v) → Paired (LstIs s₂.heap G h') vs ys.toList →
        h'.Ns env.locals (fun z => if z = y then some (.ref D) else m z) → (∀ b o, b ≠ env.locals → b ≠ I → s₂.heap.get? b = some o → h'.get? b = some o) → Q .next { s₂ with heap := h', toks := tk })) E s₁) E s)
    (hs : ∀ x, foldedSetIterable iter env x = pure x) :
    wpAny (model prog w) A (exec (.Assign [.Name y py] (.ListComp elt [⟨.Name x px, iter, [], 0⟩] scope pos) spos) env) Q E s := by
  rw [exec_Assign_Name_used _ _ _ _ hsw]
  refine wpAny_bind (wpAny_standAt (wpAny_bind ?_))
  show wpAny _ A (do let _ ← comprehension (.ListComp elt [⟨.Name x px, iter, [], 0⟩] scope pos) scope env _ (newList []) false (eval iter env) (some (assign (.Name y py) env))) _ _ s
  refine wpAny_bind (wpAny_mono (wpAny_comprehension_free (use := some (assign (.Name y py) env)) (Q := fun _ s' => Q .next s') rfl hs hclos hkind hnames
    (wpAny_mono h (fun xv s₁ h₁ => wpAny_mono h₁ (fun it s₂ h₂ => ?_) fun _ _ e => e) fun _ _ e => e)) (fun _ s' hq => wpAny_pure (wpAny_pure hq)) fun _ _ e => e)
  obtain ⟨I, fp, n, P, St, m, rfl, W, hsz, hlive, hst, hfp, hLI, hn, hq, hQ⟩ := h₂
  refine comp_block_walkCO (RR := fun acc C => compPost (model prog w) A E (some (assign (.Name y py) env)) (fun _ s' => Q .next s') acc C) W hsz (fun _ => true) G (fun i h st b hb => by rw [List.mem_singleton.mp hb]; exact hlive i h st) hcell hkind hx hst hfp hq ?_
  intro D C h' tk m' ys vs hD hC hDC hnC hlD hplD hlen hP hF hnd hk
  have hLC : env.locals ≠ C := by rintro rfl; obtain ⟨o, _, _, ho, _⟩ := hn; rw [hC] at ho; cases ho
  have hLD : env.locals ≠ D := by rintro rfl; obtain ⟨o, _, _, ho, _⟩ := hn; rw [hD] at ho; cases ho
  show wpAny _ A (assign (.Name y py) env (.ref D)) _ _ _
  refine wpAny_assign_Name (wpAny_storeName_local hy (hn.at' fun o e => hk _ o (by simpa using hLI) e) (fun h₂ hn₂ hs₂ => ?_) hp)
  refine ⟨m', hnC.sameBut hs₂ (Ne.symm hLC), fun h₃ hs₃ => ?_⟩
  have up : ∀ b o, b ≠ env.locals → b ≠ C → h'.get? b = some o → h₃.get? b = some o := fun b o h1 h2 e => hs₃.extBut b o h2 (hs₂.extBut b o h1 e)
  refine hQ D h₃ _ ys vs hD (hplD.at fun o e => up _ o (Ne.symm hLD) hDC e) hlen hP ?_ (hn₂.sameBut hs₃ hLC) fun b o hbL hbI e => up b o hbL (by rintro rfl; rw [hC] at e; cases e) (hk b o (by simpa using hbI) e)
  have hF' : Paired (LstAt s₂.heap C D [I] G h') vs ys.toList := by rw [List.filter_eq_self.mpr fun _ _ => rfl] at hF; exact hF
  refine hF'.mono fun v yv hy => ?_
  obtain ⟨T, its, rfl, h1, hTC, _, _, hlT, hG⟩ := hy
  refine ⟨T, its, rfl, h1, hlT.at fun o e => up T o ?_ hTC e, hG⟩
  rintro rfl
  obtain ⟨o, _, _, ho, _⟩ := hn
  rw [h1] at ho; cases ho
end

/-- y is a list of the ledger, told by G of v -/
def LedL (objs : List (Addr × Obj)) (G : Value → Array Value → Prop) (v y : Value) : Prop := ∃ T o its n, y = .ref T ∧ (T, o) ∈ objs ∧ o.cls = .type "list" ∧ o.data = .seq its n ∧ G v its
theorem led_of {hs h' : Heap} {G : Value → Array Value → Prop} : ∀ {vs ys : List Value}, Paired (LstIs hs G h') vs ys → ∃ objs : List (Addr × Obj), (∀ p ∈ objs, h'.get? p.1 = some p.2 ∧ hs.get? p.1 = none) ∧ Paired (LedL objs G) vs ys
  | _, _, .nil => ⟨[], fun _ h => (nomatch h), .nil⟩
  | _, _, .cons ⟨T, its, e, h1, ⟨o, ho, hc, n, hd⟩, hG⟩ r => by
    obtain ⟨objs, h2, h3⟩ := led_of r
    refine ⟨(T, o) :: objs, fun p hp => ?_, .cons ⟨T, o, its, n, e, .head _, hc, hd, hG⟩ (h3.mono fun v y hy => ?_)⟩
    · rcases List.mem_cons.mp hp with rfl | hp
      · exact ⟨ho, h1⟩
      · exact h2 p hp
    · obtain ⟨T', o', its', n', e', hm, r'⟩ := hy
      exact ⟨T', o', its', n', e', .tail _ hm, r'⟩
section
variable {prog : Program} {w : World} {A : Around} {E : Value → Shared → Prop} {env : Env} {s : Shared} {h₀ : Heap} {m : Str → Option Value} {news : List (Addr × Obj)}
theorem lists_quiet {scope : Scope} {cl : List (Str × Addr)} {x : Str} {elt : Expr} {P : Nat → Value → Prop} {G : Value → Array Value → Prop} {I : Addr} {s₂ : Shared} {vs : List Value} (hsub : s.heap.StaysIn s₂.heap) (hI : s.heap.get? I = none) (hP : ∀ i v, P i v → v ∈ vs)
    (helt : ∀ C v s₃ m₃ (E' : Value → Shared → Prop), v ∈ vs → s₃.heap.Ns C m₃ → m₃ x = some v → s.heap.StaysIn s₃.heap →
      wpAny (model prog w) A (eval elt (compEnvC scope cl C env)) (fun y s₄ => (∃ T its, y = .ref T ∧ s₃.heap.get? T = none ∧ s₄.heap.IsList T its ∧ G v its) ∧ Keeps s₃ s₄) E' s₃) :
    QuietOnCO prog w A env scope cl x [] elt [I] P (fun _ => true) G s₂ where
  tests := fun C i v s₃ m₃ E' _ _ _ _ _ _ => by
    rw [List.forIn_nil]
    exact wpAny_pure ⟨rfl, s₃.heap, s₃.toks, rfl, fun _ _ e => e⟩
  elt := fun C i v s₃ m₃ E' _ hv _ hn hm hk _ => helt C v s₃ m₃ E' (hP i v hv) hn hm fun b o e => hk b o (by simpa using fun q => by rw [q, hI] at e; cases e) (hsub b o e)
theorem lists_fin {D I : Addr} {h' : Heap} {tk n' : Nat} {y : Str} {G : Value → Array Value → Prop} {vs ys : List Value} {g : Heap} {Q : Flow → Shared → Prop} (F : Fr h₀ env.locals s.heap m) (N : News h₀ env.locals s.heap news) (hsub : s.heap.StaysIn g) (hI : s.heap.get? I = none)
    (hD : g.get? D = none) (hpl : h'.get? D = some { cls := .type "list", data := .seq ys.toArray n' }) (hP : Paired (LstIs g G h') vs ys) (hns : h'.Ns env.locals (fun z => if z = y then some (.ref D) else m z))
    (hk : ∀ b o, b ≠ env.locals → b ≠ I → g.get? b = some o → h'.get? b = some o)
    (hQ : ∀ D n' objs h' tk, Fr h₀ env.locals h' (fun z => if z = y then some (.ref D) else m z) → News h₀ env.locals h' ((D, { cls := .type "list", data := .seq ys.toArray n' }) :: (news ++ objs)) → Paired (LedL objs G) vs ys → OffL D news → Q .next { s with heap := h', toks := tk }) :
    Q .next { s with heap := h', toks := tk } := by
  obtain ⟨objs, h1, h2⟩ := led_of hP
  have up : ∀ b o, b ≠ env.locals → s.heap.get? b = some o → h'.get? b = some o := fun b o hb e => hk b o hb (fun q => by rw [q, hI] at e; cases e) (hsub b o e)
  have new : ∀ {b : Addr}, g.get? b = none → b ≠ env.locals ∧ h₀.get? b = none := fun {b} e => by
    obtain ⟨oL, _, _, hL, _⟩ := F.ns
    refine ⟨fun q => ?_, ?_⟩
    · rw [q, hsub _ _ hL] at e; cases e
    · cases q : h₀.get? b with
      | none => rfl
      | some o => rw [hsub _ _ (F.keep _ _ q)] at e; cases e
  have hL0 : h₀.get? env.locals = none := Heap.get?_none_of_le F.above
  refine hQ D n' objs h' tk ⟨hns, fun b o e => up b o (fun q => by rw [q, hL0] at e; cases e) (F.keep b o e), F.above⟩ (fun p hp => ?_) h2 fun p hp q => ?_
  · rcases List.mem_cons.mp hp with rfl | hp
    · exact ⟨hpl, new hD⟩
    rcases List.mem_append.mp hp with hp | hp
    · exact ⟨up _ _ (N p hp).2.1 (N p hp).1, (N p hp).2⟩
    · exact ⟨(h1 p hp).1, new (h1 p hp).2⟩
  · have := hsub _ _ (N p hp).1
    rw [q, hD] at this; cases this
theorem assign_lists_tup {elt iter : Expr} {x y : Str} {px py : Pos} {scope : Scope} {cl : List (Str × Addr)} {pos spos : Pos} {Q : Flow → Shared → Prop} {ax : Addr} {vs : List Value} (G : Value → Array Value → Prop) (hh : A.handled = none)
    (F : Fr h₀ env.locals s.heap m) (N : News h₀ env.locals s.heap news) (hm : (ax, tupO vs) ∈ news) (hsz : vs.length ≤ sizeLine)
    (hsw : swapsWith (.ListComp elt [⟨.Name x px, iter, [], 0⟩] scope pos) (some (.Name y py)) spos.line env = pure true)
    (hclos : closureFor scope env = pure cl) (hcell : ∀ z ∈ scope.names, z.2 ≠ .cell) (hkind : scope.kind = .function)
    (hnames : ∀ z ∈ scope.names, z.2 = .local → scope.names.lookup z.1 = some .local) (hx : scope.names.lookup x = some .local)
    (hy : env.kindOf y = some .local) (hp : (env.scope.kind == .class || (env.scope.kind == .module && env.locals != env.globals)) = false)
    (hs : ∀ x, foldedSetIterable iter env x = pure x)
    (hit : ∀ Q' : Value → Shared → Prop, Q' (.ref ax) s → wpAny (model prog w) A (eval iter env) Q' E s)
    (helt : ∀ C v s₃ m₃ (E' : Value → Shared → Prop), v ∈ vs → s₃.heap.Ns C m₃ → m₃ x = some v → s.heap.StaysIn s₃.heap →
      wpAny (model prog w) A (eval elt (compEnvC scope cl C env)) (fun y s₄ => (∃ T its, y = .ref T ∧ s₃.heap.get? T = none ∧ s₄.heap.IsList T its ∧ G v its) ∧ Keeps s₃ s₄) E' s₃)
    (hQ : ∀ ys D n' objs h' tk, Fr h₀ env.locals h' (fun z => if z = y then some (.ref D) else m z) → News h₀ env.locals h' ((D, { cls := .type "list", data := .seq ys.toArray n' }) :: (news ++ objs)) → Paired (LedL objs G) vs ys → OffL D news → Q .next { s with heap := h', toks := tk }) :
    wpAny (model prog w) A (exec (.Assign [.Name y py] (.ListComp elt [⟨.Name x px, iter, [], 0⟩] scope pos) spos) env) Q E s := by
  refine assign_lists G hsw hclos hcell hkind hnames hx hy hp (hit _ ?_) hs
  have ht : s.heap.IsTuple ax vs.toArray := ⟨_, (N _ hm).1, rfl, _, rfl⟩
  have hlt : ax < s.heap.objs.size := Heap.lt_size (N _ hm).1
  have hI : s.heap.get? s.heap.objs.size = none := Heap.get?_none_of_le (Nat.le_refl _)
  refine wpAny_pyIter_tuple ht ?_
  have st : s.heap.StaysIn (s.heap.push { cls := .type "tuple_iterator", data := .fields #[.ref ax, .int 0 0] }) := fun b o e => Heap.get?_push_of_some _ e
  have hlen : vs.toArray.size = vs.length := by simp
  refine ⟨s.heap.objs.size, _, vs.toArray.size, _, _, m, rfl, Walks.tuple hh s.heap.objs.size ax (Nat.ne_of_lt hlt) vs.toArray, by rw [hlen]; exact hsz, (fun i h st => by obtain ⟨o, e, _⟩ := st.1; exact ⟨o, e⟩), ⟨⟨_, Heap.get?_push_size _ rfl, rfl, rfl⟩, ht.at fun o e => st _ _ e⟩, ?_, Nat.ne_of_lt F.ns.lt, F.ns.at' fun o e => st _ _ e,
    lists_quiet st hI (fun i v hv => by have : vs[i]? = some v := by simpa using hv
                                        exact List.mem_of_getElem? this) helt, ?_⟩
  · intro b hb
    show b < (s.heap.push _).objs.size
    rw [Heap.size_push]
    rcases List.mem_cons.mp hb with rfl | hb
    · exact Nat.lt_succ_self _
    · rw [List.mem_singleton.mp hb]; exact Nat.lt_succ_of_lt hlt
  · intro D h' tk ys vs' hD hpl hl hP hF hns hk
    obtain ⟨n', hpl⟩ := hpl
    have e : vs' = vs := by
      refine List.ext_getElem? fun i => ?_
      by_cases hi : i < vs'.length
      · have q := hP i _ (List.getElem?_eq_getElem hi)
        rw [List.getElem?_eq_getElem hi, ← q]; simp
      · rw [List.getElem?_eq_none (by omega), List.getElem?_eq_none (by rw [← hlen, ← hl]; omega)]
    subst e
    exact lists_fin (s := s) (ys := ys.toList) F N st hI hD (by simpa using hpl) hF hns hk (hQ ys.toList)
theorem assign_lists_lst {elt iter : Expr} {x y : Str} {px py : Pos} {scope : Scope} {cl : List (Str × Addr)} {pos spos : Pos} {Q : Flow → Shared → Prop} {ax : Addr} {n0 : Nat} {vs : List Value} (G : Value → Array Value → Prop) (hh : A.handled = none)
    (F : Fr h₀ env.locals s.heap m) (N : News h₀ env.locals s.heap news) (hm : (ax, ({ cls := .type "list", data := .seq vs.toArray n0 } : Obj)) ∈ news) (hsz : vs.length ≤ sizeLine)
    (hsw : swapsWith (.ListComp elt [⟨.Name x px, iter, [], 0⟩] scope pos) (some (.Name y py)) spos.line env = pure true)
    (hclos : closureFor scope env = pure cl) (hcell : ∀ z ∈ scope.names, z.2 ≠ .cell) (hkind : scope.kind = .function)
    (hnames : ∀ z ∈ scope.names, z.2 = .local → scope.names.lookup z.1 = some .local) (hx : scope.names.lookup x = some .local)
    (hy : env.kindOf y = some .local) (hp : (env.scope.kind == .class || (env.scope.kind == .module && env.locals != env.globals)) = false)
    (hs : ∀ x, foldedSetIterable iter env x = pure x)
    (hit : ∀ Q' : Value → Shared → Prop, Q' (.ref ax) s → wpAny (model prog w) A (eval iter env) Q' E s)
    (helt : ∀ C v s₃ m₃ (E' : Value → Shared → Prop), v ∈ vs → s₃.heap.Ns C m₃ → m₃ x = some v → s.heap.StaysIn s₃.heap →
      wpAny (model prog w) A (eval elt (compEnvC scope cl C env)) (fun y s₄ => (∃ T its, y = .ref T ∧ s₃.heap.get? T = none ∧ s₄.heap.IsList T its ∧ G v its) ∧ Keeps s₃ s₄) E' s₃)
    (hQ : ∀ ys D n' objs h' tk, Fr h₀ env.locals h' (fun z => if z = y then some (.ref D) else m z) → News h₀ env.locals h' ((D, { cls := .type "list", data := .seq ys.toArray n' }) :: (news ++ objs)) → Paired (LedL objs G) vs ys → OffL D news → Q .next { s with heap := h', toks := tk }) :
    wpAny (model prog w) A (exec (.Assign [.Name y py] (.ListComp elt [⟨.Name x px, iter, [], 0⟩] scope pos) spos) env) Q E s := by
  refine assign_lists G hsw hclos hcell hkind hnames hx hy hp (hit _ ?_) hs
  have ht : s.heap.IsList ax vs.toArray := ⟨_, (N _ hm).1, rfl, _, rfl⟩
  have hlt : ax < s.heap.objs.size := Heap.lt_size (N _ hm).1
  have hI : s.heap.get? s.heap.objs.size = none := Heap.get?_none_of_le (Nat.le_refl _)
  refine wpAny_pyIter_list ht ?_
  have st : s.heap.StaysIn (s.heap.push { cls := .type "list_iterator", data := .fields #[.ref ax, .int 0 0] }) := fun b o e => Heap.get?_push_of_some _ e
  have hlen : vs.toArray.size = vs.length := by simp
  refine ⟨s.heap.objs.size, _, vs.toArray.size, _, _, m, rfl, Walks.list hh s.heap.objs.size ax (Nat.ne_of_lt hlt) vs.toArray, by rw [hlen]; exact hsz, (fun i h st => by obtain ⟨o, e, _⟩ := st.1; exact ⟨o, e⟩), ⟨⟨_, Heap.get?_push_size _ rfl, rfl, rfl⟩, ht.at fun o e => st _ _ e⟩, ?_, Nat.ne_of_lt F.ns.lt, F.ns.at' fun o e => st _ _ e,
    lists_quiet st hI (fun i v hv => by have : vs[i]? = some v := by simpa using hv
                                        exact List.mem_of_getElem? this) helt, ?_⟩
  · intro b hb
    show b < (s.heap.push _).objs.size
    rw [Heap.size_push]
    rcases List.mem_cons.mp hb with rfl | hb
    · exact Nat.lt_succ_self _
    · rw [List.mem_singleton.mp hb]; exact Nat.lt_succ_of_lt hlt
  · intro D h' tk ys vs' hD hpl hl hP hF hns hk
    obtain ⟨n', hpl⟩ := hpl
    have e : vs' = vs := by
      refine List.ext_getElem? fun i => ?_
      by_cases hi : i < vs'.length
      · have q := hP i _ (List.getElem?_eq_getElem hi)
        rw [List.getElem?_eq_getElem hi, ← q]; simp
      · rw [List.getElem?_eq_none (by omega), List.getElem?_eq_none (by rw [← hlen, ← hl]; omega)]
    subst e
    exact lists_fin (s := s) (ys := ys.toList) F N st hI hD (by simpa using hpl) hF hns hk (hQ ys.toList)
end

section
open PySem.Builtin PySem.Builtin.Str
variable {prog : Program} {w : World} {A : Around} {E : Value → Shared → Prop} {s : Shared} {x : Str} {t : Tok} {Q : Value → Shared → Prop}
/-- a text split by a text: one new list -/
theorem split_push {y : Str} {u : Tok} (hy : (y.length == 0) = false)
    (h : ∀ l k, l.map (·.1) = Txt.split x y → Q (.ref s.heap.objs.size) { s with heap := s.heap.push { cls := .type "list", data := .seq (strValues l).toArray }, toks := k })
    (hsz : x.length + 2 ≤ sizeLine) :
    wpAny (model prog w) A (call (.builtin "str.split") [.str x t, .str y u]) Q E s := by
  have hn : (partsBetween x (occurrences x y 0 x.length (x.length + 1)) y.length).length ≤ sizeLine := by
    have e1 := StrLaws.occ_length_le x y 0 x.length (x.length + 1)
    rw [length_partsBetween]; omega
  cases h1 : (decide (x.length < y.length) || decide (strKind x < strKind y)) with
  | true =>
    exact call_meets F.slot_str_split (typeIs_str _ _ _) F.entry_str_split (F.args_str_split_2 _ _) (meets_str_split_cannot_occur x y t u h1) (h [(x, t)] s.toks (if_pos h1).symm)
  | false =>
    cases hf : (occurrences x y 0 x.length (x.length + 1)).isEmpty with
    | true => exact call_meets F.slot_str_split (typeIs_str _ _ _) F.entry_str_split (F.args_str_split_2 _ _) (meets_str_split_not_found x y t u h1 hy hf) (h [(x, t)] s.toks ((if_neg (ne_true_of_eq_false h1)).trans (if_pos hf)).symm)
    | false =>
      refine call_meets F.slot_str_split (typeIs_str _ _ _) F.entry_str_split (F.args_str_split_2 _ _) (meets_str_split_sep x y t u h1 hy hf (by omega) hn) ?_
      show wants Q E _ { s with toks := _, heap := s.heap.push { cls := .type "list", data := .seq (strsFrom s.toks (partsBetween x (occurrences x y 0 x.length (x.length + 1)) y.length)).toArray } }
      rw [strsFrom_eq]
      exact h (numbered s.toks _) _ ((numbered_texts _ _).trans ((if_neg (ne_true_of_eq_false h1)).trans (if_neg (ne_true_of_eq_false hf))).symm)
end
theorem strs_mem {v : Value} : ∀ {vs : List Value} {xs : List Str}, StrsAre vs xs → v ∈ vs → ∃ x t, v = .str x t ∧ x ∈ xs
  | _, _, .cons y t h, hv => by
    rcases List.mem_cons.mp hv with rfl | hv
    · exact ⟨y, t, rfl, .head _⟩
    · obtain ⟨x, t, e, hx⟩ := strs_mem h hv
      exact ⟨x, t, e, .tail _ hx⟩
theorem keeps_push {s : Shared} {o : Obj} {k : Nat} : Keeps s { s with heap := s.heap.push o, toks := k } := ⟨_, _, rfl, fun _ _ e => Heap.get?_push_of_some _ e⟩

def hB (b : Bool) : Int := if b then 1 else 0
def tabB (b led : Bool) : SetTable := { mask := 7, place := #[if b then 1 else 0], dummies := #[], finger := 0, led := led, moves := 0, plain := true }
def setB0 (led : Bool) : Obj := { cls := .type "set", dict := none, data := .set #[] 0 (.fresh 0 0 led) }
def setB (b led : Bool) : Obj := { cls := .type "set", dict := none, data := .set #[(hB b, .bool b)] 1 (tabB b led) }
section
variable {prog : Program} {w : World} {A : Around} {E : Value → Shared → Prop} {s : Shared}
theorem hash_bool {b : Bool} {Q : Int → Shared → Prop} (h : ∀ tk, Q (hB b) { s with toks := tk }) : wpAny (model prog w) A (pyHash (.bool b)) Q E s := by
  have hT : s.TypeIs (.bool b) "bool" := rfl
  unfold pyHash
  have hv : [Value.bool b].any Value.onHeap = false := rfl
  refine wpAny_bind ?_
  rw [cRoomFor, if_neg (by rw [hv]; exact Bool.false_ne_true)]
  refine wpAny_pure (wpAny_bind (wpAny_specialOf hT F.slot_bool_hash.lookup ?_))
  show wpAny _ _ (if (some (Value.builtin "int.__hash__") == some Value.none) = true then _ else _) Q E s
  rw [if_neg (by rw [beq_builtin_none]; exact Bool.false_ne_true)]
  refine wpAny_bind (wpAny_specialOf hT F.slot_bool_hash.lookup ?_)
  show wpAny _ _ (callSpecialIfBoundUnlessNone? (.bool b) "__hash__" _ >>= _) Q E s
  refine wpAny_bind (wpAny_callSpecialIfBoundUnlessNone?_slot hT F.slot_bool_hash (wpAny_call_entry F.slot_bool_hash hT entry_int_hash ?_ (args_int_hash _)))
  cases b
  · wp_walk
    refine ⟨Value.int 0 s.toks, rfl, ?_⟩
    show wpAny _ _ (if (decide (-(2 : Int) ^ 63 ≤ 0) && decide ((0 : Int) < 2 ^ 63)) = true then _ else _) Q E _
    rw [if_pos (by decide)]
    exact wpAny_pure (h _)
  · wp_walk
    refine ⟨Value.int 1 s.toks, rfl, ?_⟩
    show wpAny _ _ (if (decide (-(2 : Int) ^ 63 ≤ 1) && decide ((1 : Int) < 2 ^ 63)) = true then _ else _) Q E _
    rw [if_pos (by decide)]
    exact wpAny_pure (h _)
theorem lay_first (b led : Bool) : layNew (.fresh 0 0 led) #[] (hB b) (.bool b) = (#[(hB b, .bool b)], tabB b led, false, false) := by
  cases b <;> rfl
theorem set_add_first {D : Addr} {b led : Bool} {Q : Value → Shared → Prop} (hD : s.heap.get? D = some (setB0 led))
    (h : ∀ h' tk, Heap.SameBut D s.heap h' → h'.get? D = some (setB b led) → Q .none { s with heap := h', toks := tk }) : wpAny (model prog w) A (call (.builtin "set.add") [.ref D, .bool b]) Q E s := by
  have hT : s.TypeIs (.ref D) "set" := ⟨_, hD, rfl⟩
  refine wpAny_call_entry F.slot_set_add hT F.entry_set_add ?_ (F.args_set_add_2 _ _)
  unfold Builtin.«set.add» Builtin.Frozenset.oneOther
  simp only [List.isEmpty_nil, bind_assoc]
  unfold Builtin.Frozenset.addrOf setAdd
  refine wpAny_bind (wpAny_pure ?_)
  try dsimp only
  refine wpAny_bind (wpAny_pure ?_)
  try dsimp only
  refine wpAny_bind (wpAny_holding (wpAny_bind (hash_bool fun tk => ?_)))
  unfold setAddHashed
  refine wpAny_holding ?_
  unfold setAddHashedIn
  refine wpAny_bind (wpAny_setState_of (s := { s with toks := tk }) hD rfl (by rfl) ?_)
  dsimp only
  rw [if_pos (show byScan (.bool b) #[] = true by simp [byScan, Value.scannable, scanBound])]
  unfold setAddByScan
  refine wpAny_bind (wpAny_bind (wpAny_rule (wpAny_bind (wpAny_pure ?_))))
  have hl := lay_first b led
  generalize layNew (.fresh 0 0 led) #[] (hB b) (.bool b) = r at hl ⊢
  subst hl
  dsimp only
  refine wpAny_bind (wpAny_pure ?_)
  rw [if_pos (show (tabB b led).plain = true from rfl)]
  refine wpAny_bind (m := hashByValue 8 (.bool b)) (wpAny_pure ?_)
  rw [if_pos (rfl : true = true)]
  refine wpAny_bind (wpAny_storeSet_of (s := { s with toks := tk }) hD rfl ?_ (by rw [sizeLine_eq]; simp))
  rw [if_neg (show ¬ (!false && (tabB b led).tooFull) = true by cases b <;> cases led <;> decide)]
  refine wpAny_pure (wpAny_pure (wpAny_pure ⟨_, rfl, h _ _ (Heap.SameBut.update ..) ?_⟩))
  rw [Heap.get?_update_self _ hD rfl]
  rfl
theorem set_add_again {D : Addr} {b led : Bool} {Q : Value → Shared → Prop} (hD : s.heap.get? D = some (setB b led))
    (h : ∀ tk, Q .none { s with toks := tk }) : wpAny (model prog w) A (call (.builtin "set.add") [.ref D, .bool b]) Q E s := by
  have hT : s.TypeIs (.ref D) "set" := ⟨_, hD, rfl⟩
  refine wpAny_call_entry F.slot_set_add hT F.entry_set_add ?_ (F.args_set_add_2 _ _)
  unfold Builtin.«set.add» Builtin.Frozenset.oneOther
  simp only [List.isEmpty_nil, bind_assoc]
  unfold Builtin.Frozenset.addrOf setAdd
  refine wpAny_bind (wpAny_pure ?_)
  try dsimp only
  refine wpAny_bind (wpAny_pure ?_)
  try dsimp only
  refine wpAny_bind (wpAny_holding (wpAny_bind (hash_bool fun tk => ?_)))
  unfold setAddHashed
  refine wpAny_holding ?_
  unfold setAddHashedIn
  refine wpAny_bind (wpAny_setState_of (s := { s with toks := tk }) hD rfl (by cases b <;> rfl) ?_)
  dsimp only
  rw [if_pos (show byScan (.bool b) #[(hB b, .bool b)] = true by simp [byScan, Value.scannable, scanBound])]
  unfold setAddByScan
  refine wpAny_bind (wpAny_bind (wpAny_rule (wpAny_bind ?_)))
  show wpAny _ _ (setScanFrom D (.bool b) (hB b) true [(hB b, .bool b)] 0) _ _ _
  unfold setScanFrom
  rw [if_pos (beq_self_eq_true _)]
  refine wpAny_bind (wpAny_setEpoch_of (s := { s with toks := tk }) hD rfl (by cases b <;> rfl) ?_)
  unfold eqBool
  refine wpAny_bind (wpAny_holding ?_)
  rw [if_pos (beq_self_eq_true _)]
  refine wpAny_bind (wpAny_rule (wpAny_pure ?_))
  rw [if_pos (by rfl)]
  exact wpAny_pure (wpAny_pure (wpAny_pure (wpAny_pure ⟨_, rfl, h _⟩)))
end

section
theorem slot_si_next : Slot "set_iterator" "__next__" "set_iterator.__next__" :=
  .of (owner := "set_iterator") (n := "__next__") (by rw [typeLookup_type, builtinLookup_eq_fast]; kernel_rfl) (by decide +kernel) (by decide +kernel) (by decide +kernel)
    (by first | exact .inl (by decide +kernel) | exact .inr (by decide +kernel)) (by rw [isSubtype_type]; kernel_rfl)
theorem slot_s_iter : Slot "set" "__iter__" "set.__iter__" :=
  .of (owner := "set") (n := "__iter__") (by rw [typeLookup_type, builtinLookup_eq_fast]; kernel_rfl) (by decide +kernel) (by decide +kernel) (by decide +kernel)
    (by first | exact .inl (by decide +kernel) | exact .inr (by decide +kernel)) (by rw [isSubtype_type]; kernel_rfl)
theorem entry_si_next : entryFor table "set_iterator.__next__" = some Builtin.«set_iterator.__next__» := entryFor_of_tree (by kernel_rfl)
theorem entry_s_iter : entryFor table "set.__iter__" = some Builtin.«frozenset.__iter__» := by
  first
    | (rw [table_eq_tree, PySem.W.Fast.te12177470255685639600, PySem.W.Fast.te14364793385576792824, PySem.W.Fast.te14596097327623130304]; kernel_rfl)
    | exact entryFor_alias (id' := "frozenset.__iter__") (by kernel_rfl) (by first | rfl | decide +kernel | (unfold String.splitOn; simp +decide [String.splitOnAux])) (by decide +kernel) (by kernel_rfl)
theorem args_si_next (a : Value) : argsOk "set_iterator.__next__" ⟨[a], []⟩ := by unfold argsOk; kernel_rfl
theorem args_s_iter (a : Value) : argsOk "set.__iter__" ⟨[a], []⟩ := by unfold argsOk; kernel_rfl
end
def setIt (D : Addr) (first i : Int) : Obj := { cls := .type "set_iterator", data := .fields #[rawInt first, rawInt i, .ref D, rawInt 1, rawInt 1] }
section
variable {prog : Program} {w : World} {A : Around} {E : Value → Shared → Prop} {s : Shared}
theorem fitsB (b led : Bool) : (tabB b led).fits 1 = true := by cases b <;> cases led <;> decide
theorem iter_setB {D : Addr} {b led : Bool} {Q : Value → Shared → Prop} (hD : s.heap.get? D = some (setB b led))
    (h : Q (.ref s.heap.objs.size) { s with heap := s.heap.push (setIt D 0 0) }) : wpAny (model prog w) A (pyIter (.ref D)) Q E s := by
  have hT : s.TypeIs (.ref D) "set" := ⟨_, hD, rfl⟩
  refine wpAny_pyIter_slot hT slot_s_iter (wpAny_call_entry slot_s_iter hT entry_s_iter ?_ (args_s_iter _))
  repeat (first | (with_reducible apply wpAny_askSetting) | wp_step)
  rw [if_neg (by intro hq; exact Bool.noConfusion (show false = true from (Bool.and_eq_true _ _ ▸ hq).2))]
  repeat (first | (with_reducible apply wpAny_askSetting) | wp_step)
  exact ⟨_, rfl, "set_iterator", _, ⟨_, Heap.get?_push_size _ rfl, rfl⟩, slot_si_next.lookup, h⟩
theorem pick_one {α : Type} (f : Nat → Nat) (x : α) : pickOrder f #[x] = #[x] := by
  unfold pickOrder
  show pickOrder.go f 1 0 [x] #[] = #[x]
  unfold pickOrder.go
  simp only [List.length_singleton, Nat.mod_one, List.getElem?_cons_zero]
  rfl
theorem same_two {h : Heap} {I : Addr} {f g : Obj → Obj} : Heap.SameBut I h ((h.update I f).update I g) := by
  refine ⟨?_, fun b hb => ?_⟩
  · exact (Heap.SameBut.update ..).1.trans (Heap.SameBut.update ..).1
  · exact ((Heap.SameBut.update ..).2 b hb).trans ((Heap.SameBut.update ..).2 b hb)
theorem next_setB0 {D I : Addr} {b : Bool} {Q : Option Value → Shared → Prop} (hD : s.heap.get? D = some (setB b (!w.params.followText "set-order"))) (hI : s.heap.get? I = some (setIt D 0 0))
    (h : ∀ h' f, Heap.SameBut I s.heap h' → h'.get? I = some (setIt D f 1) → (f = 0 ∨ f = (if b then 2 else 1)) → (w.params.followText "set-order" = false → f ≠ 0) → Q (some (.bool b)) { s with heap := h' }) : wpAny (model prog w) A (pyNext (.ref I)) Q E s := by
  have hT : s.TypeIs (.ref I) "set_iterator" := ⟨_, hI, rfl⟩
  unfold pyNext
  refine wpAny_bind (wpAny_attempt (wpAny_callSpecial?_slot (name := Str.ofString "__next__") hT slot_si_next (wpAny_call_entry slot_si_next hT entry_si_next ?_ (args_si_next _))))
  repeat (first | (with_reducible apply wpAny_askSetting) | wp_step)
  cases hf : w.params.followText "set-order" with
  | true =>
    rw [hf] at hD
    rw [if_pos (show (model prog w).w.params.followText "set-order" = true from hf)]
    repeat (first | (with_reducible apply wpAny_askSetting) | wp_step)
    rw [if_pos (show (model prog w).w.params.followText "set-order" = true from hf)]
    refine wpAny_bind (wpAny_askSetting (wpAny_pure ?_))
    rw [pick_one]
    repeat (first | (with_reducible apply wpAny_askSetting) | wp_step)
    refine ⟨_, rfl, wpAny_pure (h _ 0 same_two ?_ (.inl rfl) (fun q => by rw [hf] at q; cases q))⟩
    rw [Heap.get?_update_self _ (Heap.get?_update_self _ hI rfl) rfl]
    rfl
  | false =>
    rw [hf] at hD
    rw [if_neg (show ¬ (model prog w).w.params.followText "set-order" = true by rw [show (model prog w).w.params.followText "set-order" = false from hf]; decide)]
    repeat (first | (with_reducible apply wpAny_askSetting) | wp_step)
    refine ⟨_, rfl, wpAny_pure (h _ (if b then 2 else 1) same_two ?_ (.inr rfl) (fun _ => by cases b <;> decide))⟩
    rw [Heap.get?_update_self _ (Heap.get?_update_self _ hI rfl) rfl]
    cases b <;> rfl
set_option maxHeartbeats 2000000 in
theorem next_setB1 {D I : Addr} {b : Bool} {f : Int} {Q : Option Value → Shared → Prop} (hh : A.handled = none) (hD : s.heap.get? D = some (setB b (!w.params.followText "set-order"))) (hI : s.heap.get? I = some (setIt D f 1)) (hf0 : f = 0 ∨ f = (if b then 2 else 1)) (hbt : w.params.followText "set-order" = false → f ≠ 0)
    (h : ∀ h', Heap.ExtBut I s.heap h' → Q none { s with heap := h' }) : wpAny (model prog w) A (pyNext (.ref I)) Q E s := by
  have hT : s.TypeIs (.ref I) "set_iterator" := ⟨_, hI, rfl⟩
  unfold pyNext
  refine wpAny_bind (wpAny_attempt (wpAny_callSpecial?_slot (name := Str.ofString "__next__") hT slot_si_next (wpAny_call_entry slot_si_next hT entry_si_next ?_ (args_si_next _))))
  repeat (first | (with_reducible apply wpAny_askSetting) | wp_step)
  cases hf : w.params.followText "set-order" with
  | true =>
    rw [hf] at hD
    rw [if_pos (show (model prog w).w.params.followText "set-order" = true from hf)]
    repeat (first | (with_reducible apply wpAny_askSetting) | wp_step)
    rw [if_pos (show (model prog w).w.params.followText "set-order" = true from hf)]
    refine wpAny_bind (wpAny_askSetting (wpAny_pure ?_))
    rw [pick_one]
    repeat (first | (with_reducible apply wpAny_askSetting) | wp_step)
    refine wpAny_raiseNew_none hh ?_
    refine wpAny_bind (wpAny_isInstance (T := "StopIteration") (b := true) ⟨_, Heap.get?_push_size _ rfl, rfl⟩ isSubtype_stop ?_)
    refine wpAny_pure (h _ fun b o hb e => ?_)
    exact Heap.get?_push_of_some _ (Heap.get?_push_of_some _ (((Heap.SameBut.update ..).2 b hb).trans e))
  | false =>
    rw [hf] at hD
    obtain rfl : f = (if b then 2 else 1) := hf0.resolve_left (hbt hf)
    rw [if_neg (show ¬ (model prog w).w.params.followText "set-order" = true by rw [show (model prog w).w.params.followText "set-order" = false from hf]; decide)]
    cases b
    all_goals (
      repeat (first | (with_reducible apply wpAny_askSetting) | wp_step)
      refine wpAny_raiseNew_none hh ?_
      refine wpAny_bind (wpAny_isInstance (T := "StopIteration") (b := true) ⟨_, Heap.get?_push_size _ rfl, rfl⟩ isSubtype_stop ?_)
      refine wpAny_pure (h _ fun b o hb e => ?_)
      exact Heap.get?_push_of_some _ (Heap.get?_push_of_some _ (((Heap.SameBut.update ..).2 b hb).trans e)))
end

section
variable {prog : Program} {w : World} {A : Around} {R : Result → Shared → Prop} {s : Shared}
theorem compStart_set {elt target iter ifs rest scope pos it acc env}
    (h0 : codeAny (model prog w) A (.compLoop (.SetComp elt (⟨target, iter, ifs, 0⟩ :: rest) scope pos) 0 it acc env) R s)
    (h : wpAny (model prog w) A (pyIter it) (fun it' s' => codeAny (model prog w) A (.compLoop (.SetComp elt (⟨target, iter, ifs, 0⟩ :: rest) scope pos) 0 it' acc env) R s')
      (notedBy (model prog w) A env fun x s' => R (.error x) s') s) :
    codeAny (model prog w) A (.compStart (.SetComp elt (⟨target, iter, ifs, 0⟩ :: rest) scope pos) 0 it acc env) R s := by
  refine codeAny_of_tree ?_
  show wpAny _ _ ((compStart (.SetComp elt (⟨target, iter, ifs, 0⟩ :: rest) scope pos) 0 it acc env).onRaise (fun x => do noteFrame x env; standAt theWindowsPlace)) _ _ s
  refine wpAny_notedAt ?_
  unfold compStart
  show wpAny _ _ (ask >>= _) _ _ s
  refine wpAny_bind (wpAny_askSetting (wpAny_ite ?_))
  split
  · first
      | exact wpAny_bind (wpAny_pure (wpAny_pure (And.intro rfl h0)))
      | exact wpAny_pure (And.intro rfl h0)
  · first
      | exact wpAny_bind (wpAny_rule (wpAny_bind (wpAny_standAt (wpAny_bind (wpAny_mono h (fun it' s' h' => wpAny_pure (And.intro rfl h')) fun _ _ x => x)))))
      | (refine wpAny_bind (wpAny_rule ?_); show wpAny _ _ (standAt iter.pos >>= _) _ _ s; exact wpAny_bind (wpAny_standAt (wpAny_bind (wpAny_mono h (fun it' s' h' => wpAny_pure (And.intro rfl h')) fun _ _ x => x))))
theorem compTurn_set (elt target iter : Expr) (scope : Scope) (pos : Pos) (it acc : Value) (env : Env) :
    compTurn (.SetComp elt [⟨target, iter, [], 0⟩] scope pos) 0 it acc env = (standAt iter.pos >>= fun _ => pyNext it >>= fun r => match r with
      | none => pure (.done .next)
      | some v => letOwnedTupleGo target it v >>= fun _ => assign target env v >>= fun _ =>
        (eval elt env >>= fun x => standAt elt.pos >>= fun _ => call (.builtin "set.add") [acc, x] >>= fun _ => pure ()) >>= fun _ =>
          again (.compLoop (.SetComp elt [⟨target, iter, [], 0⟩] scope pos) 0 it acc env)) := by rfl
theorem compLoop_set {elt target iter : Expr} {scope : Scope} {pos : Pos} {it acc : Value} {env : Env} (I : Nat → Shared → Prop)
    (turn : ∀ n s, I n s → wpAny (model prog w) A (pyNext it) (fun r s₁ => match r with
      | none => R (.ok .next) s₁
      | some v => wpAny (model prog w) A (assign target env v) (fun _ s₂ => wpAny (model prog w) A (eval elt env) (fun x s₃ =>
          wpAny (model prog w) A (call (.builtin "set.add") [acc, x]) (fun _ s₄ => ∃ m, m < n ∧ I m s₄) (notedBy (model prog w) A env fun e s' => R (.error e) s') s₃)
          (notedBy (model prog w) A env fun e s' => R (.error e) s') s₂) (notedBy (model prog w) A env fun e s' => R (.error e) s') s₁) (notedBy (model prog w) A env fun e s' => R (.error e) s') s)
    (n : Nat) (h : I n s) (ht : ∀ v, letOwnedTupleGo target it v = pure ()) :
    codeAny (model prog w) A (.compLoop (.SetComp elt [⟨target, iter, [], 0⟩] scope pos) 0 it acc env) R s := by
  refine codeAny_loop rfl I (fun n s hI => ?_) n h
  show wpAny _ _ ((compTurn (.SetComp elt [⟨target, iter, [], 0⟩] scope pos) 0 it acc env).onRaise (fun x => do noteFrame x env; theTreesLotGoes x)) _ _ s
  refine wpAny_noted ?_
  rw [compTurn_set]
  refine wpAny_bind (wpAny_standAt (wpAny_bind (wpAny_mono (turn n s hI) (fun r s₁ h₁ => ?_) fun _ _ h' => h')))
  cases r with
  | none => exact wpAny_pure h₁
  | some v =>
    refine wpAny_bind (wpAny_of_eq (ht v) ?_)
    exact wpAny_bind (wpAny_mono h₁ (fun _ s₂ h₂ => wpAny_bind (wpAny_bind (wpAny_mono h₂ (fun x s₃ h₃ => wpAny_bind (wpAny_standAt (wpAny_bind (wpAny_mono h₃
      (fun _ s₄ h₄ => wpAny_pure (wpAny_pure ⟨rfl, h₄⟩)) fun _ _ h' => h')))) fun _ _ h' => h'))) fun _ _ h' => h')
end
section
variable {prog : Program} {w : World} {A : Around} {E : Value → Shared → Prop} {env : Env} {s : Shared}
/-- {elt for x in a tuple}, each element the same bool -/
theorem setcomp_bool {elt iter : Expr} {x : Str} {px : Pos} {scope : Scope} {cl : List (Str × Addr)} {pos : Pos} {Q : Value → Shared → Prop} {ax : Addr} {v0 : Value} {vr : List Value} {b : Bool} (hh : A.handled = none)
    (ht : s.heap.IsTuple ax (v0 :: vr).toArray)
    (hclos : closureFor scope env = pure cl) (hcell : ∀ z ∈ scope.names, z.2 ≠ .cell) (hkind : scope.kind = .function)
    (hnames : ∀ z ∈ scope.names, z.2 = .local → scope.names.lookup z.1 = some .local) (hx : scope.names.lookup x = some .local)
    (hs : ∀ x, foldedSetIterable iter env x = pure x)
    (hit : ∀ Q' : Value → Shared → Prop, Q' (.ref ax) s → wpAny (model prog w) A (eval iter env) Q' E s)
    (helt : ∀ C v s₃ m₃ (E' : Value → Shared → Prop), v ∈ v0 :: vr → s₃.heap.Ns C m₃ → m₃ x = some v → s.heap.StaysIn s₃.heap →
      wpAny (model prog w) A (eval elt (compEnvC scope cl C env)) (fun y s₄ => y = .bool b ∧ Keeps s₃ s₄) E' s₃)
    (hQ : ∀ D h' tk, s.heap.StaysIn h' → s.heap.get? D = none → h'.get? D = some (setB b (!w.params.followText "set-order")) → Q (.ref D) { s with heap := h', toks := tk }) :
    wpAny (model prog w) A (eval (.SetComp elt [⟨.Name x px, iter, [], 0⟩] scope pos) env) Q E s := by
  rw [arm_eval_SetComp]
  refine wpAny_comprehension_free (use := none) rfl hs hclos hkind hnames (hit _ (wpAny_pyIter_tuple ht ?_))
  -- the iterator, the set, the block's own names
  have hlt : ax < s.heap.objs.size := by obtain ⟨o, e, _⟩ := ht; exact Heap.lt_size e
  let oI : Obj := { cls := .type "tuple_iterator", data := .fields #[.ref ax, .int 0 0] }
  have st1 : s.heap.StaysIn (s.heap.push oI) := fun b o e => Heap.get?_push_of_some _ e
  unfold newSet setsByText
  refine wpAny_bind (wpAny_bind (wpAny_askSetting (wpAny_pure ?_)))
  dsimp only
  simp only [newObj]
  refine wpAny_bind (wpAny_alloc (wpAny_pure ?_))
  refine wpAny_newFunctionEnv hcell (by intro y hy; simp at hy) (fun h₁ hns hsb => ?_) hkind
  dsimp only at hns hsb ⊢
  have led : ∃ l, l = !w.params.followText "set-order" := ⟨_, rfl⟩
  obtain ⟨l, hl⟩ := led
  have hl' : (!(model prog w).w.params.followText "set-order") = l := hl.symm
  rw [hl'] at hns hsb ⊢
  rw [← hl] at hQ
  generalize hD : (s.heap.push oI).objs.size = D
  have hD' : D = s.heap.objs.size + 1 := hD ▸ Heap.size_push ..
  generalize hH : (s.heap.push oI).push { cls := .type "set", dict := none, data := .set #[] 0 (.fresh 0 0 l) } = H at hns hsb ⊢
  have hC' : H.objs.size = s.heap.objs.size + 2 := by rw [← hH, Heap.size_push, hD, hD']
  generalize hC : H.objs.size = C at hns hsb ⊢
  rw [hC] at hC'
  generalize hI : s.heap.objs.size = I at *
  have hDI : D ≠ I := by rw [hD']; exact Nat.succ_ne_self _
  have hCI : C ≠ I := by rw [hC']; exact Nat.ne_of_gt (Nat.lt_add_of_pos_right (k := 2) (by decide))
  have hCD : C ≠ D := by rw [hC', hD']; exact Nat.ne_of_gt (Nat.lt_succ_self _)
  have below : ∀ c o, s.heap.get? c = some o → c ≠ I ∧ c ≠ D ∧ c ≠ C := fun c o e => by
    have q : c < I := hI ▸ Heap.lt_size e
    exact ⟨Nat.ne_of_lt q, by rw [hD']; exact Nat.ne_of_lt (Nat.lt_succ_of_lt q), by rw [hC']; exact Nat.ne_of_lt (Nat.lt_succ_of_lt (Nat.lt_succ_of_lt q))⟩
  have gI : H.get? I = some oI := by rw [← hH, ← hI]; exact Heap.get?_push_of_some _ (Heap.get?_push_size _ rfl)
  have gD : H.get? D = some (setB0 l) := by rw [← hH, ← hD]; exact Heap.get?_push_size _ rfl
  have gS : s.heap.StaysIn H := fun c o e => by rw [← hH]; exact Heap.get?_push_of_some _ (st1 c o e)
  have up1 : ∀ c o, c ≠ C → H.get? c = some o → h₁.get? c = some o := fun c o hc e => hsb.extBut c o hc (Heap.get?_push_of_some _ e)
  have hne : ax ≠ I := Nat.ne_of_lt (hI ▸ hlt)
  have W := Walks.tuple (prog := prog) (w := w) hh I ax hne (v0 :: vr).toArray
  have hsz : (v0 :: vr).toArray.size = (v0 :: vr).length := by simp
  rw [hsz] at W
  have loop : ∀ s₃ : Shared, s₃ = { s with heap := h₁, toks := s.toks + ([] : List (Str × Value)).length } →
      codeAny (model prog w) A (.compLoop (.SetComp elt [⟨.Name x px, iter, [], 0⟩] scope pos) 0 (.ref I) (.ref D) (compEnvC scope cl C env)) (compPost (model prog w) A E none Q (.ref D) C) s₃ := by
    rintro s₃ rfl
    refine compLoop_set (fun k s' => ∃ i h' tk m', i ≤ (v0 :: vr).length ∧ k = (v0 :: vr).length + 1 - i ∧ s' = { s with heap := h', toks := tk } ∧ h'.IsTupleIter I ax i ∧ h'.Ns C m' ∧ s.heap.StaysIn h' ∧ h'.get? D = some (if i = 0 then setB0 l else setB b l)) ?_ ((v0 :: vr).length + 1)
      ⟨0, h₁, _, _, Nat.zero_le _, rfl, rfl, ⟨oI, up1 I _ (Ne.symm hCI) gI, rfl, rfl⟩, hns, fun c o e => up1 c o (below c o e).2.2 (gS c o e), up1 D _ (Ne.symm hCD) gD⟩ (fun _ => rfl)
    rintro k s' ⟨i, h', tk, m', hi, rfl, rfl, hit', hn', hst', hset⟩
    have htup : h'.IsTuple ax (v0 :: vr).toArray := ht.at fun o e => hst' _ _ e
    by_cases hlt' : i < (v0 :: vr).length
    · refine W.item i _ _ _ hlt' ⟨hit', htup⟩ fun v h₂ tk₂ hv hst₂ hk₂ => ?_
      have hk₂' : ∀ c o, c ≠ I → h'.get? c = some o → h₂.get? c = some o := fun c o hc e => hk₂ c o (by simpa using hc) e
      have hv' : v ∈ v0 :: vr := List.mem_of_getElem? (by simpa using hv : (v0 :: vr)[i]? = some v)
      refine wpAny_assign_Name (wpAny_storeName_local (lookup_relabel_local hx) (hn'.at' fun o e => hk₂' _ o hCI e) (fun h₃ hn₃ hs₃ => ?_) (by simp [compEnvC, relabel, hkind]))
      have up3 : ∀ c o, c ≠ I → c ≠ C → h'.get? c = some o → h₃.get? c = some o := fun c o h1 h2 e => hs₃.extBut c o h2 (hk₂' c o h1 e)
      have st3 : s.heap.StaysIn h₃ := fun c o e => up3 c o (below c o e).1 (below c o e).2.2 (hst' c o e)
      refine wpAny_mono (helt C v { s with heap := h₃, toks := _ } _ _ hv' hn₃ (by simp) st3) (fun y s₄ h₄ => ?_) fun _ _ e => e
      obtain ⟨rfl, h₄, tk₄, rfl, hk₄⟩ := h₄
      have hit₄ : h₄.IsTupleIter I ax (i + 1) := (hst₂.1.at fun o e => hs₃.extBut I o (Ne.symm hCI) e).at fun o e => hk₄ _ _ e
      have hn₄ : h₄.Ns C _ := hn₃.at' fun o e => hk₄ _ _ e
      have st4 : s.heap.StaysIn h₄ := fun c o e => hk₄ _ _ (st3 c o e)
      have hset₄ : h₄.get? D = some (if i = 0 then setB0 l else setB b l) := hk₄ _ _ (up3 D _ hDI (Ne.symm hCD) hset)
      by_cases h0 : i = 0
      · rw [if_pos h0] at hset₄
        refine set_add_first (b := b) hset₄ fun h₅ tk₅ hs₅ hg₅ => ⟨_, ?_, i + 1, h₅, tk₅, _, hlt', rfl, rfl, hit₄.extBut hs₅.extBut (Ne.symm hDI), hn₄.sameBut hs₅ hCD, fun c o e => hs₅.extBut c o (below c o e).2.1 (st4 c o e), by rw [if_neg (Nat.succ_ne_zero i)]; exact hg₅⟩
        omega
      · rw [if_neg h0] at hset₄
        refine set_add_again hset₄ fun tk₅ => ⟨_, ?_, i + 1, h₄, tk₅, _, hlt', rfl, rfl, hit₄, hn₄, st4, by rw [if_neg (Nat.succ_ne_zero i)]; exact hset₄⟩
        omega
    · obtain rfl : i = (v0 :: vr).length := Nat.le_antisymm hi (Nat.not_lt.mp hlt')
      refine W.done _ _ _ ⟨hit', htup⟩ fun h₂ tk₂ hk₂ => ?_
      have hk₂' : ∀ c o, c ≠ I → h'.get? c = some o → h₂.get? c = some o := fun c o hc e => hk₂ c o (by simpa using hc) e
      refine ⟨m', hn'.at' fun o e => hk₂' _ o hCI e, fun h₃ hs₃ => ?_⟩
      have gd0 : s.heap.get? D = none := by
        cases q : s.heap.get? D with
        | none => rfl
        | some o => exact absurd rfl (below D o q).2.1
      refine hQ D h₃ tk₂ (fun c o e => hs₃.extBut c o (below c o e).2.2 (hk₂' c o (below c o e).1 (hst' c o e))) gd0 (hs₃.extBut D _ (Ne.symm hCD) (hk₂' D _ hDI ?_))
      rw [hset, if_neg (by simp)]
  exact compStart_set (loop _ rfl) (W.self 0 _ _ _ ⟨⟨oI, up1 I _ (Ne.symm hCI) gI, rfl, rfl⟩, ht.at fun o e => up1 _ _ (below _ _ e).2.2 (gS _ _ e)⟩ (loop _ rfl))
end
section
variable {prog : Program} {w : World} {A : Around} {E : Value → Shared → Prop} {env : Env} {s : Shared} {h₀ : Heap} {m : Str → Option Value} {news : List (Addr × Obj)}
theorem new_of_none {L b : Addr} (F : Fr h₀ L s.heap m) (hb : s.heap.get? b = none) : b ≠ L ∧ h₀.get? b = none := by
  obtain ⟨oL, _, _, hL, _⟩ := F.ns
  refine ⟨fun e => (by rw [e, hL] at hb; cases hb), ?_⟩
  cases q : h₀.get? b with
  | none => rfl
  | some o => rw [F.keep _ _ q] at hb; cases hb
theorem news_more {L D : Addr} {o : Obj} {h' : Heap} (F : Fr h₀ L s.heap m) (N : News h₀ L s.heap news) (st : s.heap.StaysIn h') (hD : s.heap.get? D = none) (ho : h'.get? D = some o) : News h₀ L h' ((D, o) :: news) := fun p hp => by
  rcases List.mem_cons.mp hp with rfl | hp
  · exact ⟨ho, new_of_none F hD⟩
  · exact news_stays N st p hp
theorem setcomp_K {elt iter : Expr} {x : Str} {px : Pos} {scope : Scope} {cl : List (Str × Addr)} {pos : Pos} {Q : Value → Shared → Prop} {ax : Addr} {v0 : Value} {vr : List Value} {b : Bool} (hh : A.handled = none)
    (F : Fr h₀ env.locals s.heap m) (N : News h₀ env.locals s.heap news) (hm : (ax, tupO (v0 :: vr)) ∈ news)
    (hclos : closureFor scope env = pure cl) (hcell : ∀ z ∈ scope.names, z.2 ≠ .cell) (hkind : scope.kind = .function)
    (hnames : ∀ z ∈ scope.names, z.2 = .local → scope.names.lookup z.1 = some .local) (hx : scope.names.lookup x = some .local)
    (hs : ∀ x, foldedSetIterable iter env x = pure x)
    (hit : ∀ Q' : Value → Shared → Prop, Q' (.ref ax) s → wpAny (model prog w) A (eval iter env) Q' E s)
    (helt : ∀ C v s₃ m₃ (E' : Value → Shared → Prop), v ∈ v0 :: vr → s₃.heap.Ns C m₃ → m₃ x = some v → s.heap.StaysIn s₃.heap →
      wpAny (model prog w) A (eval elt (compEnvC scope cl C env)) (fun y s₄ => y = .bool b ∧ Keeps s₃ s₄) E' s₃)
    (hQ : ∀ D h' tk, Fr h₀ env.locals h' m → News h₀ env.locals h' ((D, setB b (!w.params.followText "set-order")) :: news) → Q (.ref D) { s with heap := h', toks := tk }) :
    wpAny (model prog w) A (eval (.SetComp elt [⟨.Name x px, iter, [], 0⟩] scope pos) env) Q E s :=
  setcomp_bool hh ⟨_, (N _ hm).1, rfl, _, rfl⟩ hclos hcell hkind hnames hx hs hit helt fun D h' tk st hD ho => hQ D h' tk (fr_stays F st) (news_more F N st hD ho)
end
section
variable {prog : Program} {w : World} {A : Around} {E : Value → Shared → Prop} {env : Env} {s : Shared}
/-- y, = a set of one bool -/
theorem assign_setB {D : Addr} {b : Bool} {y : Str} {py pos : Pos} {k : Nat} {Q : Unit → Shared → Prop} (hh : A.handled = none) (hD : s.heap.get? D = some (setB b (!w.params.followText "set-order")))
    (h : ∀ h', s.heap.StaysIn h' → wpAny (model prog w) A (assign (.Name y py) env (.bool b)) Q E { s with heap := h' }) :
    wpAny (model prog w) A (assign (.Tuple [.Name y py] k pos) env (.ref D)) Q E s := by
  have hT : s.TypeIs (.ref D) "set" := ⟨_, hD, rfl⟩
  show wpAny _ _ (standAt pos >>= fun _ => unpack (.ref D) [(false, assign (.Name y py) env)]) _ _ _
  refine wpAny_bind (wpAny_standAt ?_)
  unfold unpack
  refine wpAny_bind (wpAny_holding ?_)
  show wpAny _ _ (unpackItems (.ref D) 1 none) _ _ _
  unfold unpackItems
  refine wpAny_bind ?_
  unfold notIterableAtAll
  refine wpAny_bind (wpAny_specialOf hT slot_s_iter.lookup ?_)
  rw [if_pos (by rfl)]
  refine wpAny_pure ?_
  rw [if_neg (by decide)]
  refine wpAny_bind (wpAny_holding (iter_setB hD ?_))
  try dsimp only
  have hI : (s.heap.push (setIt D 0 0)).get? s.heap.objs.size = some (setIt D 0 0) := Heap.get?_push_size _ rfl
  have hDI : D ≠ s.heap.objs.size := Nat.ne_of_lt (Heap.lt_size hD)
  have st0 : s.heap.StaysIn (s.heap.push (setIt D 0 0)) := fun c o e => Heap.get?_push_of_some _ e
  have ne : ∀ c o, s.heap.get? c = some o → c ≠ s.heap.objs.size := fun c o e => Nat.ne_of_lt (Heap.lt_size e)
  refine wpAny_bind (wpAny_holding ?_)
  unfold draw
  refine wpAny_bind (next_setB0 (s := { s with heap := s.heap.push (setIt D 0 0) }) (st0 _ _ hD) hI fun h₁ f sb hI1 hf hf' => ?_)
  try dsimp only
  unfold draw
  refine wpAny_bind (wpAny_holding (wpAny_pure (wpAny_pure ?_)))
  try dsimp only
  rw [if_neg (show ¬ [Value.bool b].length < 1 from Nat.lt_irrefl 1)]
  refine wpAny_bind (wpAny_holding (next_setB1 (s := { s with heap := h₁ }) hh (sb.extBut D _ hDI (st0 _ _ hD)) hI1 hf hf' fun h₂ ex => ?_))
  rw [if_neg (by decide)]
  refine wpAny_pure ?_
  show wpAny _ _ (holding [] (assign (.Name y py) env (.bool b)) >>= fun _ => pure ()) _ _ _
  refine wpAny_bind (wpAny_holding (wpAny_mono (h h₂ fun c o e => ex c o (ne c o e) (sb.extBut c o (ne c o e) (st0 c o e))) (fun _ _ q => wpAny_pure q) fun _ _ e => e))
theorem assign_setB_K {h₀ : Heap} {L D : Addr} {m : Str → Option Value} {news : List (Addr × Obj)} {b : Bool} {y : Str} {py pos : Pos} {k : Nat} {Q : Unit → Shared → Prop} (hh : A.handled = none) (F : Fr h₀ L s.heap m) (N : News h₀ L s.heap news) (hm : (D, setB b (!w.params.followText "set-order")) ∈ news)
    (h : ∀ h', Fr h₀ L h' m → News h₀ L h' news → wpAny (model prog w) A (assign (.Name y py) env (.bool b)) Q E { s with heap := h' }) :
    wpAny (model prog w) A (assign (.Tuple [.Name y py] k pos) env (.ref D)) Q E s :=
  assign_setB hh (N _ hm).1 fun h' st => h h' (fr_stays F st) (news_stays N st)
end

theorem paired_eq : ∀ {l₁ l₂ : List Value}, Paired (fun v y => y = v) l₁ l₂ → l₂ = l₁
  | _, _, .nil => rfl
  | _, _, .cons h t => by rw [h, paired_eq t]
section
variable {prog : Program} {w : World} {A : Around} {E : Value → Shared → Prop} {env : Env} {s : Shared}
/-- [x for x in a list if test] -/
theorem comp_filter {iter test : Expr} {x : Str} {px0 px : Pos} {scope : Scope} {cl : List (Str × Addr)} {pos : Pos} {Q : Value → Shared → Prop} {ax : Addr} {ws : List Value} (p : Value → Bool) (hh : A.handled = none)
    (hl : s.heap.IsList ax ws.toArray) (hsz : ws.length ≤ sizeLine)
    (hclos : closureFor scope env = pure cl) (hcell : ∀ z ∈ scope.names, z.2 ≠ .cell) (hkind : scope.kind = .function)
    (hnames : ∀ z ∈ scope.names, z.2 = .local → scope.names.lookup z.1 = some .local) (hx : scope.names.lookup x = some .local) (hxd : (x == ("__debug__" : Str)) = false)
    (hs : ∀ x, foldedSetIterable iter env x = pure x)
    (hit : ∀ Q' : Value → Shared → Prop, Q' (.ref ax) s → wpAny (model prog w) A (eval iter env) Q' E s)
    (htest : ∀ C v s₃ m₃ (E' : Value → Shared → Prop), v ∈ ws → s₃.heap.Ns C m₃ → m₃ x = some v → s.heap.StaysIn s₃.heap →
      wpAny (model prog w) A (isTrue test (compEnvC scope cl C env) (eval test (compEnvC scope cl C env))) (fun ok s₄ => ok = p v ∧ Keeps s₃ s₄) E' s₃)
    (hQ : ∀ D h' tk, s.heap.get? D = none → h'.IsList D (ws.filter p).toArray → s.heap.StaysIn h' → Q (.ref D) { s with heap := h', toks := tk }) :
    wpAny (model prog w) A (eval (.ListComp (.Name x px0) [⟨.Name x px, iter, [test], 0⟩] scope pos) env) Q E s := by
  refine wpAny_ListComp_free p (fun v y => y = v) hclos hcell hkind hnames hx (hit _ (wpAny_pyIter_list hl ?_)) hs
  have hlt : ax < s.heap.objs.size := by obtain ⟨o, e, _⟩ := hl; exact Heap.lt_size e
  have hI : s.heap.get? s.heap.objs.size = none := Heap.get?_none_of_le (Nat.le_refl _)
  have st : s.heap.StaysIn (s.heap.push { cls := .type "list_iterator", data := .fields #[.ref ax, .int 0 0] }) := fun b o e => Heap.get?_push_of_some _ e
  have hlen : ws.toArray.size = ws.length := by simp
  have old : ∀ {h : Heap}, (∀ b o, b ∉ [s.heap.objs.size] → (s.heap.push { cls := .type "list_iterator", data := .fields #[.ref ax, .int 0 0] }).get? b = some o → h.get? b = some o) → s.heap.StaysIn h := fun hk b o e => hk b o (by simpa using fun q => by rw [q, hI] at e; cases e) (st b o e)
  refine ⟨s.heap.objs.size, _, [s.heap.objs.size], ws.toArray.size, _, _, rfl, Walks.list hh s.heap.objs.size ax (Nat.ne_of_lt hlt) ws.toArray, by rw [hlen]; exact hsz, ⟨⟨_, Heap.get?_push_size _ rfl, rfl, rfl⟩, hl.at fun o e => st _ _ e⟩, ?_, ⟨?_, ?_⟩, ?_⟩
  · intro b hb
    show b < (s.heap.push _).objs.size
    rw [Heap.size_push]
    rcases List.mem_cons.mp hb with rfl | hb
    · exact Nat.lt_succ_self _
    · rw [List.mem_singleton.mp hb]; exact Nat.lt_succ_of_lt hlt
  · intro C i v s₃ m₃ E' _ hv hn hm hk _
    have hv' : v ∈ ws := List.mem_of_getElem? (by simpa using hv : ws[i]? = some v)
    rw [List.forIn_cons]
    refine wpAny_bind ?_
    rw [if_pos rfl]
    refine wpAny_bind (wpAny_mono (htest C v s₃ m₃ E' hv' hn hm (old hk)) (fun ok s₄ h₄ => wpAny_pure ?_) fun _ _ e => e)
    dsimp only
    rw [List.forIn_nil]
    exact wpAny_pure h₄
  · intro C i v s₃ m₃ E' _ _ _ hn hm _ _
    exact ldVarK hn hm ⟨rfl, s₃.heap, s₃.toks, rfl, fun _ _ e => e⟩ hkind (lookup_relabel_local hx) hxd
  · intro D h' tk ys vs' hD hlD hpl hlv hP hF hk
    have e : vs' = ws := by
      refine List.ext_getElem? fun i => ?_
      by_cases hi : i < vs'.length
      · have q := hP i _ (List.getElem?_eq_getElem hi)
        rw [List.getElem?_eq_getElem hi, ← q]; simp
      · rw [List.getElem?_eq_none (by omega), List.getElem?_eq_none (by rw [← hlen, ← hlv]; omega)]
    subst e
    have e2 := paired_eq hF
    have e3 : ys = (vs'.filter p).toArray := by rw [← e2]
    rw [e3] at hlD
    refine hQ D h' tk ?_ hlD (old hk)
    cases q : s.heap.get? D with
    | none => rfl
    | some o => rw [st _ _ q] at hD; cases hD
end
def keepC (c : Str) : Bool := (c.length != 0) && (c != Str.ofString ".")
def keepV : Value → Bool
  | .str c _ => keepC c
  | _ => false
theorem strs_filter : ∀ {ws : List Value} {cs : List Str}, StrsAre ws cs → StrsAre (ws.filter keepV) (cs.filter keepC)
  | _, _, .nil => .nil
  | _, _, .cons y t h => by
    cases q : keepC y with
    | true => rw [List.filter_cons_of_pos (by exact q), List.filter_cons_of_pos q]; exact .cons y t (strs_filter h)
    | false => rw [List.filter_cons_of_neg (by simp [keepV, q]), List.filter_cons_of_neg (by simp [q])]; exact strs_filter h
/-- a list of the ledger, its texts without those that are dropped -/
def FiltG (objs : List (Addr × Obj)) (v : Value) (its : Array Value) : Prop := ∃ T o ws n cs, v = .ref T ∧ (T, o) ∈ objs ∧ o.cls = .type "list" ∧ o.data = .seq (List.toArray ws) n ∧ StrsAre ws cs ∧ its = (ws.filter keepV).toArray
theorem split_len {x y c : Str} (h : c ∈ Txt.split x y) : c.length ≤ x.length := part_short h
theorem led_mem {objs : List (Addr × Obj)} {G : Value → Array Value → Prop} {y : Value} : ∀ {vs ys : List Value}, Paired (LedL objs G) vs ys → y ∈ ys → ∃ v ∈ vs, LedL objs G v y
  | _, _, .cons h t, hy => by
    rcases List.mem_cons.mp hy with rfl | hy
    · exact ⟨_, .head _, h⟩
    · obtain ⟨v, hv, r⟩ := led_mem t hy
      exact ⟨v, .tail _ hv, r⟩
theorem paired_len {α β : Type} {F : α → β → Prop} : ∀ {l₁ : List α} {l₂ : List β}, Paired F l₁ l₂ → l₂.length = l₁.length
  | _, _, .nil => rfl
  | _, _, .cons _ t => by rw [List.length_cons, List.length_cons, paired_len t]
theorem keep_tt {c : Str} {t : Tok} (h1 : (c.length : Int) ≠ 0) (h2 : (c != Str.ofString ".") = true) : true = keepV (.str c t) := by
  have h1' : (c.length != 0) = true := by simp only [bne_iff_ne]; omega
  show true = ((c.length != 0) && (c != Str.ofString "."))
  rw [h1', h2]; rfl
theorem keep_tf {c : Str} {t : Tok} (h2 : (c != Str.ofString ".") = false) : false = keepV (.str c t) := by
  show false = ((c.length != 0) && (c != Str.ofString "."))
  rw [h2, Bool.and_false]
theorem keep_f {c : Str} {t : Tok} (h1 : (c.length : Int) = 0) : false = keepV (.str c t) := by
  have h1' : (c.length != 0) = false := by simp only [bne_eq_false_iff_eq]; omega
  show false = ((c.length != 0) && (c != Str.ofString "."))
  rw [h1', Bool.false_and]

section
open AutoSeq1 (wpAny_loadPart')
open MeetsSeq3
def texLt : List Str → List Str → Bool
  | [], [] => false
  | [], _ :: _ => true
  | _ :: _, [] => false
  | x :: xs, y :: ys => if x == y then texLt xs ys else decide (x.cps.toList < y.cps.toList)

theorem cmp_loop_lt (l b : Addr) (n n2 : Nat) (dd dd2 : Option Addr) (sl sl2 : Array (Option Value)) (vs ws : List Value) (xs ys : List Str) (hv : StrsAre vs xs) (hw : StrsAre ws ys) (k : Nat) :
    ∀ i : Nat, vs.length - i = k → i ≤ vs.length → i ≤ ws.length → Meets (Builtin.«list.__eq__.loop» ⟨[.ref l, .ref b, rawInt i, rawInt 0], []⟩)
      (fun _ R s => s.heap.get? l = some { cls := .type "list", dict := dd, data := .seq vs.toArray n, slots := sl } ∧ s.heap.get? b = some { cls := .type "list", dict := dd2, data := .seq ws.toArray n2, slots := sl2 } ∧
        R (.ok (.ret (.bool (texLt (xs.drop i) (ys.drop i))))) s) := by
  have l1 := hv.length
  have l2 := hw.length
  induction k with
  | zero =>
    intro i hk hiv hiw prog w A R s h
    obtain ⟨hp, g, d, tk, os⟩ := s; obtain ⟨hl, hb, h⟩ := h
    wp_walk using wpAny_loadPart' hl, wpAny_loadPart' hb
    have hi1 : vs.toArray[((i : Nat) : Int).toNat]? = none := by simp; omega
    have hd : xs.drop i = [] := by simp; omega
    rw [hd] at h
    rw [hi1]
    by_cases hi : i < ws.length
    · obtain ⟨y, u, hy, hy'⟩ := strs_at hw hi
      rw [show ys.drop i = y :: ys.drop (i + 1) by rw [List.drop_eq_getElem_cons (by omega)]; congr 1; exact Option.some.inj ((List.getElem?_eq_getElem (by omega)).symm.trans hy)] at h
      rw [show ws.toArray[((i : Nat) : Int).toNat]? = some (.str y u) by simpa using hy']
      wp_walk using wpAny_loadPart' hl, wpAny_loadPart' hb
      show R (.ok (.ret (.bool (decide (vs.toArray.size < ws.toArray.size))))) _
      rw [show decide (vs.toArray.size < ws.toArray.size) = true by simp; omega]; simpa only [texLt] using h
    · rw [show ys.drop i = [] by simp; omega] at h
      rw [show ws.toArray[((i : Nat) : Int).toNat]? = none by simp; omega]
      wp_walk using wpAny_loadPart' hl, wpAny_loadPart' hb
      show R (.ok (.ret (.bool (decide (vs.toArray.size < ws.toArray.size))))) _
      rw [show decide (vs.toArray.size < ws.toArray.size) = false by simp; omega]; simpa only [texLt] using h
  | succ k ih =>
    intro i hk hiv hiw prog w A R s h
    obtain ⟨hp, g, d, tk, os⟩ := s; obtain ⟨hl, hb, h⟩ := h
    have hi0 : i < vs.length := by omega
    obtain ⟨x, t, hx, hx'⟩ := strs_at hv hi0
    have e1 : vs.toArray[((i : Nat) : Int).toNat]? = some (.str x t) := by simpa using hx'
    rw [show xs.drop i = x :: xs.drop (i + 1) by rw [List.drop_eq_getElem_cons (by omega)]; congr 1; exact Option.some.inj ((List.getElem?_eq_getElem (by omega)).symm.trans hx)] at h
    wp_walk using wpAny_loadPart' hl, wpAny_loadPart' hb
    rw [e1]
    by_cases hi : i < ws.length
    · obtain ⟨y, u, hy, hy'⟩ := strs_at hw hi
      have e2 : ws.toArray[((i : Nat) : Int).toNat]? = some (.str y u) := by simpa using hy'
      rw [show ys.drop i = y :: ys.drop (i + 1) by rw [List.drop_eq_getElem_cons (by omega)]; congr 1; exact Option.some.inj ((List.getElem?_eq_getElem (by omega)).symm.trans hy)] at h
      rw [e2]
      refine wpAny_bind (eqBool_str ?_)
      have hc : ((i : Int) + 1) = ((i + 1 : Nat) : Int) := by push_cast; rfl
      cases hxy : x == y with
      | true =>
        have : x = y := by simpa using hxy
        subst this
        simp only [texLt, beq_self_eq_true, if_true] at h
        wp_walk
        rw [hc]
        exact ⟨plainId_quiet plain_eq_loop _, codeAny_builtin entry_eq_loop (by
          rw [Around.under_plainId plain_eq_loop _]
          exact ih (i + 1) (by omega) (by omega) (by omega) prog w A R _ ⟨hl, hb, h⟩)⟩
      | false =>
        have hyx : (x == y) = false := hxy
        clear ih hk hiv hiw
        simp only [texLt, hyx, Bool.false_eq_true, if_false] at h
        wp_walk using wpAny_loadPart' hl, wpAny_loadPart' hb
        rw [e1, e2]
        refine wpAny_bind ?_
        refine lt_str ?_
        exact wpAny_pure h
    · rw [show ys.drop i = [] by simp; omega] at h
      rw [show ws.toArray[((i : Nat) : Int).toNat]? = none by simp; omega]
      wp_walk using wpAny_loadPart' hl, wpAny_loadPart' hb
      show R (.ok (.ret (.bool (decide (vs.toArray.size < ws.toArray.size))))) _
      rw [show decide (vs.toArray.size < ws.toArray.size) = false by simp; omega]; simpa only [texLt] using h
theorem list_cmp_lt (l b : Addr) (n n2 : Nat) (dd dd2 : Option Addr) (sl sl2 : Array (Option Value)) (vs ws : List Value) (xs ys : List Str) (hv : StrsAre vs xs) (hw : StrsAre ws ys) :
    Meets (Builtin.«list.__lt__» ⟨[.ref l, .ref b], []⟩)
      (fun _ R s => s.heap.get? l = some { cls := .type "list", dict := dd, data := .seq vs.toArray n, slots := sl } ∧ s.heap.get? b = some { cls := .type "list", dict := dd2, data := .seq ws.toArray n2, slots := sl2 } ∧
        R (.ok (.ret (.bool (texLt xs ys)))) s) := by
  intro prog w A R s h
  obtain ⟨hp, g, d, tk, os⟩ := s; obtain ⟨hl, hb, h⟩ := h
  have f3 := AutoSeq1.sub_list_list
  wp_walk using wpAny_loadPart' hl, wpAny_loadPart' hb
  exact ⟨plainId_quiet plain_eq_loop _, codeAny_builtin entry_eq_loop (by
    rw [Around.under_plainId plain_eq_loop _]
    exact cmp_loop_lt l b n n2 dd dd2 sl sl2 vs ws xs ys hv hw _ 0 rfl (Nat.zero_le _) (Nat.zero_le _) prog w A R _ ⟨hl, hb, h⟩)⟩
theorem rich_lt {prog : Program} {w : World} {A : Around} {E : Value → Shared → Prop} {s : Shared} {l b : Addr} {vs ws : List Value} {xs ys : List Str} {Q : Value → Shared → Prop} (hv : StrsAre vs xs) (hw : StrsAre ws ys)
    (hl : s.heap.IsList l vs.toArray) (hb : s.heap.IsList b ws.toArray) (hu : A.units < cLine) (h : Q (.bool (texLt xs ys)) s) : wpAny (model prog w) A (richCompare .Lt (.ref l) (.ref b)) Q E s := by
  obtain ⟨⟨c1, d1, a1, s1⟩, e1, rfl, n1, rfl⟩ := hl
  obtain ⟨⟨c2, d2, a2, s2⟩, e2, rfl, n2, rfl⟩ := hb
  exact richCompare_meets_room (op := .Lt) ⟨_, e1, rfl⟩ ⟨_, e2, rfl⟩ F.slot_list_lt F.entry_list_lt (F.args_list_lt_2 _ _) (list_cmp_lt l b n1 n2 d1 d2 s1 s2 vs ws xs ys hv hw) ⟨e1, e2, (fun q => nomatch q), h⟩ hu

theorem cmp_loop_gt (l b : Addr) (n n2 : Nat) (dd dd2 : Option Addr) (sl sl2 : Array (Option Value)) (vs ws : List Value) (xs ys : List Str) (hv : StrsAre vs xs) (hw : StrsAre ws ys) (k : Nat) :
    ∀ i : Nat, vs.length - i = k → i ≤ vs.length → i ≤ ws.length → Meets (Builtin.«list.__eq__.loop» ⟨[.ref l, .ref b, rawInt i, rawInt 4], []⟩)
      (fun _ R s => s.heap.get? l = some { cls := .type "list", dict := dd, data := .seq vs.toArray n, slots := sl } ∧ s.heap.get? b = some { cls := .type "list", dict := dd2, data := .seq ws.toArray n2, slots := sl2 } ∧
        R (.ok (.ret (.bool (texLt (ys.drop i) (xs.drop i))))) s) := by
  have l1 := hv.length
  have l2 := hw.length
  induction k with
  | zero =>
    intro i hk hiv hiw prog w A R s h
    obtain ⟨hp, g, d, tk, os⟩ := s; obtain ⟨hl, hb, h⟩ := h
    wp_walk using wpAny_loadPart' hl, wpAny_loadPart' hb
    have hi1 : vs.toArray[((i : Nat) : Int).toNat]? = none := by simp; omega
    have hd : xs.drop i = [] := by simp; omega
    rw [hd] at h
    rw [hi1]
    by_cases hi : i < ws.length
    · obtain ⟨y, u, hy, hy'⟩ := strs_at hw hi
      rw [show ys.drop i = y :: ys.drop (i + 1) by rw [List.drop_eq_getElem_cons (by omega)]; congr 1; exact Option.some.inj ((List.getElem?_eq_getElem (by omega)).symm.trans hy)] at h
      rw [show ws.toArray[((i : Nat) : Int).toNat]? = some (.str y u) by simpa using hy']
      wp_walk using wpAny_loadPart' hl, wpAny_loadPart' hb
      show R (.ok (.ret (.bool (decide (vs.toArray.size > ws.toArray.size))))) _
      rw [show decide (vs.toArray.size > ws.toArray.size) = false by simp; omega]; simpa only [texLt] using h
    · rw [show ys.drop i = [] by simp; omega] at h
      rw [show ws.toArray[((i : Nat) : Int).toNat]? = none by simp; omega]
      wp_walk using wpAny_loadPart' hl, wpAny_loadPart' hb
      show R (.ok (.ret (.bool (decide (vs.toArray.size > ws.toArray.size))))) _
      rw [show decide (vs.toArray.size > ws.toArray.size) = false by simp; omega]; simpa only [texLt] using h
  | succ k ih =>
    intro i hk hiv hiw prog w A R s h
    obtain ⟨hp, g, d, tk, os⟩ := s; obtain ⟨hl, hb, h⟩ := h
    have hi0 : i < vs.length := by omega
    obtain ⟨x, t, hx, hx'⟩ := strs_at hv hi0
    have e1 : vs.toArray[((i : Nat) : Int).toNat]? = some (.str x t) := by simpa using hx'
    rw [show xs.drop i = x :: xs.drop (i + 1) by rw [List.drop_eq_getElem_cons (by omega)]; congr 1; exact Option.some.inj ((List.getElem?_eq_getElem (by omega)).symm.trans hx)] at h
    wp_walk using wpAny_loadPart' hl, wpAny_loadPart' hb
    rw [e1]
    by_cases hi : i < ws.length
    · obtain ⟨y, u, hy, hy'⟩ := strs_at hw hi
      have e2 : ws.toArray[((i : Nat) : Int).toNat]? = some (.str y u) := by simpa using hy'
      rw [show ys.drop i = y :: ys.drop (i + 1) by rw [List.drop_eq_getElem_cons (by omega)]; congr 1; exact Option.some.inj ((List.getElem?_eq_getElem (by omega)).symm.trans hy)] at h
      rw [e2]
      refine wpAny_bind (eqBool_str ?_)
      have hc : ((i : Int) + 1) = ((i + 1 : Nat) : Int) := by push_cast; rfl
      cases hxy : x == y with
      | true =>
        have : x = y := by simpa using hxy
        subst this
        simp only [texLt, beq_self_eq_true, if_true] at h
        wp_walk
        rw [hc]
        exact ⟨plainId_quiet plain_eq_loop _, codeAny_builtin entry_eq_loop (by
          rw [Around.under_plainId plain_eq_loop _]
          exact ih (i + 1) (by omega) (by omega) (by omega) prog w A R _ ⟨hl, hb, h⟩)⟩
      | false =>
        have hyx : (y == x) = false := (by cases hq : y == x with | false => rfl | true => (have e : y = x := by simpa using hq); subst e; simp at hxy)
        clear ih hk hiv hiw
        simp only [texLt, hyx, Bool.false_eq_true, if_false] at h
        wp_walk using wpAny_loadPart' hl, wpAny_loadPart' hb
        rw [e1, e2]
        refine wpAny_bind ?_
        refine P.gt_str ?_
        exact wpAny_pure h
    · rw [show ys.drop i = [] by simp; omega] at h
      rw [show ws.toArray[((i : Nat) : Int).toNat]? = none by simp; omega]
      wp_walk using wpAny_loadPart' hl, wpAny_loadPart' hb
      show R (.ok (.ret (.bool (decide (vs.toArray.size > ws.toArray.size))))) _
      rw [show decide (vs.toArray.size > ws.toArray.size) = true by simp; omega]; simpa only [texLt] using h
theorem list_cmp_gt (l b : Addr) (n n2 : Nat) (dd dd2 : Option Addr) (sl sl2 : Array (Option Value)) (vs ws : List Value) (xs ys : List Str) (hv : StrsAre vs xs) (hw : StrsAre ws ys) :
    Meets (Builtin.«list.__gt__» ⟨[.ref l, .ref b], []⟩)
      (fun _ R s => s.heap.get? l = some { cls := .type "list", dict := dd, data := .seq vs.toArray n, slots := sl } ∧ s.heap.get? b = some { cls := .type "list", dict := dd2, data := .seq ws.toArray n2, slots := sl2 } ∧
        R (.ok (.ret (.bool (texLt ys xs)))) s) := by
  intro prog w A R s h
  obtain ⟨hp, g, d, tk, os⟩ := s; obtain ⟨hl, hb, h⟩ := h
  have f3 := AutoSeq1.sub_list_list
  wp_walk using wpAny_loadPart' hl, wpAny_loadPart' hb
  exact ⟨plainId_quiet plain_eq_loop _, codeAny_builtin entry_eq_loop (by
    rw [Around.under_plainId plain_eq_loop _]
    exact cmp_loop_gt l b n n2 dd dd2 sl sl2 vs ws xs ys hv hw _ 0 rfl (Nat.zero_le _) (Nat.zero_le _) prog w A R _ ⟨hl, hb, h⟩)⟩
theorem rich_gt {prog : Program} {w : World} {A : Around} {E : Value → Shared → Prop} {s : Shared} {l b : Addr} {vs ws : List Value} {xs ys : List Str} {Q : Value → Shared → Prop} (hv : StrsAre vs xs) (hw : StrsAre ws ys)
    (hl : s.heap.IsList l vs.toArray) (hb : s.heap.IsList b ws.toArray) (hu : A.units < cLine) (h : Q (.bool (texLt ys xs)) s) : wpAny (model prog w) A (richCompare .Gt (.ref l) (.ref b)) Q E s := by
  obtain ⟨⟨c1, d1, a1, s1⟩, e1, rfl, n1, rfl⟩ := hl
  obtain ⟨⟨c2, d2, a2, s2⟩, e2, rfl, n2, rfl⟩ := hb
  exact richCompare_meets_room (op := .Gt) ⟨_, e1, rfl⟩ ⟨_, e2, rfl⟩ F.slot_list_gt F.entry_list_gt (F.args_list_gt_2 _ _) (list_cmp_gt l b n1 n2 d1 d2 s1 s2 vs ws xs ys hv hw) ⟨e1, e2, (fun q => nomatch q), h⟩ hu
end

section
variable {prog : Program} {w : World} {A : Around} {E : Value → Shared → Prop} {s : Shared} {R : Result → Shared → Prop}
/-- a comparison of a list's items, in any state that keeps a heap -/
def CmpS (prog : Program) (w : World) (A : Around) (hb : Heap) (op : CmpOp) (vs : List Value) (bt : Nat → Nat → Bool) : Prop :=
  ∀ i j vi vj (s : Shared) (Q E : Value → Shared → Prop), hb.StaysIn s.heap → vs[i]? = some vi → vs[j]? = some vj → Q (.bool (bt i j)) s → wpAny (model prog w) A (richCompare op vi vj) Q E s

theorem best_loop_min (hh : A.in1.handled = none) (hb : Heap) (I na S : Addr) (hnI : na ≠ I) (hSI : S ≠ I) (hI : hb.get? I = none) (hS0 : hb.get? S = none) (vs : List Value) (bt : Nat → Nat → Bool) (hcmp : CmpS prog w A.in1 hb .Lt vs bt) (hna : hb.IsList na vs.toArray) :
    ∀ (k j : Nat) (s : Shared) (vb : Value) (c : Nat), vs.length - j = k → 0 < j → j ≤ vs.length → hb.StaysIn s.heap → s.heap.IsListIter I na j → vs[argBest bt (j - 1)]? = some vb →
    s.heap.get? S = some { cls := .type "list", dict := none, data := .seq #[vb, vb] c, slots := #[] } →
    (∀ v h' tk, vs[argBest bt (vs.length - 1)]? = some v → hb.StaysIn h' → R (.ok (.ret v)) { s with heap := h', toks := tk }) →
    codeAny (model prog w) A (.builtin "min.loop" ⟨[.ref I, .none, .ref S], []⟩) R s := by
  have hname : (toString "min" ++ toString ".loop" : String) = "min.loop" := by decide
  have W := Walks.list (prog := prog) (w := w) (A := A.in1) hh I na hnI vs.toArray
  have stay : ∀ {h h' : Heap}, hb.StaysIn h → (∀ b o, b ∉ [I] → h.get? b = some o → h'.get? b = some o) → hb.StaysIn h' := fun hst hk b o e =>
    hk b o (fun q => by rw [List.mem_singleton.mp q, hI] at e; cases e) (hst b o e)
  have stayS : ∀ {h : Heap} {f : Obj → Obj}, hb.StaysIn h → hb.StaysIn (h.update S f) := fun hst b o e =>
    (Heap.get?_update_other _ _ (fun q => by rw [← q, hS0] at e; cases e)).trans (hst b o e)
  intro k
  induction k with
  | zero =>
    intro j s vb c hk h0 hj hst hit hPb hS hR
    have hin : j = vs.toArray.size := by simp; omega
    refine codeAny_builtin F.entry_min_loop ?_
    rw [Around.under_plainId F.plain_min_loop _]
    show wpAny _ A.in1 (seqItems? (.ref S) >>= _) _ _ s
    refine wpAny_bind (wpAny_seqItems hS rfl ?_)
    show wpAny _ A.in1 (tryCatch (pyNext (.ref I)) _ >>= _) _ _ s
    refine wpAny_bind (wpAny_tryCatch (W.done s _ _ ⟨hin ▸ hit, hna.at fun o e => hst _ _ e⟩ fun h' tk hk' => ?_))
    have hS' := hk' S _ (by simpa using hSI) hS
    show wpAny _ A.in1 (updateSeq S (fun _ => #[]) >>= _) _ _ _
    refine wpAny_bind ?_
    refine wpAny_updateSeq hS' rfl (wpAny_bind (wpAny_letGo (wpAny_pure ?_)))
    refine hR vb _ tk (by rw [show vs.length = j by omega]; exact hPb) (stayS (stay hst hk'))
  | succ k ih =>
    intro j s vb c hk h0 hj hst hit hPb hS hR
    have hlt : j < vs.toArray.size := by simp; omega
    refine codeAny_builtin F.entry_min_loop ?_
    rw [Around.under_plainId F.plain_min_loop _]
    show wpAny _ A.in1 (seqItems? (.ref S) >>= _) _ _ s
    refine wpAny_bind (wpAny_seqItems hS rfl ?_)
    show wpAny _ A.in1 (tryCatch (pyNext (.ref I)) _ >>= _) _ _ s
    refine wpAny_bind (wpAny_tryCatch (W.item j s _ _ hlt ⟨hit, hna.at fun o e => hst _ _ e⟩ fun v h' tk hP hst' hk' => ?_))
    have hS' := hk' S _ (by simpa using hSI) hS
    have hst2 := stay hst hk'
    have hPv : vs[j]? = some v := by simpa using hP
    show wpAny _ A.in1 (tryCatch (holding [v, v] (richCompare .Lt v vb >>= _)) _ >>= _) _ _ _
    refine wpAny_bind (wpAny_tryCatch (wpAny_holding (wpAny_bind (hcmp j (argBest bt (j - 1)) v vb _ _ _ hst2 hPv hPb ?_))))
    refine wpAny_bind (wpAny_holding (wpAny_truthy_bool ?_))
    refine wpAny_bind (wpAny_letGo (wpAny_pure ?_))
    obtain ⟨j, rfl⟩ : ∃ i, j = i + 1 := ⟨j - 1, by omega⟩
    rw [Nat.add_sub_cancel] at hPb ⊢
    cases hbt : bt (j + 1) (argBest bt j) with
    | true =>
      simp only [if_true]
      refine wpAny_bind ?_
      refine wpAny_updateSeq hS' rfl (wpAny_bind (wpAny_letGo ?_))
      rw [hname]
      refine wpAny_pure ⟨plainId_quiet F.plain_min_loop _, ih (j + 2) _ v _ (by omega) (by omega) (by omega) (stayS hst2) (hst'.1.at fun o e => (Heap.get?_update_other _ _ hSI).trans e) (by show vs[argBest bt (j + 1)]? = _; simp only [argBest, hbt, if_true]; exact hPv) (Heap.get?_update_self _ hS' rfl) hR⟩
    | false =>
      simp only [Bool.false_eq_true, if_false]
      refine wpAny_bind (wpAny_letGo ?_)
      rw [hname]
      exact wpAny_pure ⟨plainId_quiet F.plain_min_loop _, ih (j + 2) _ vb c (by omega) (by omega) (by omega) hst2 hst'.1 (by show vs[argBest bt (j + 1)]? = _; simp only [argBest, hbt, Bool.false_eq_true, if_false]; exact hPb) hS' hR⟩
theorem call_min_lists (hh : A.in1.handled = none) {na : Addr} {vs : List Value} (hna : s.heap.IsList na vs.toArray) (hne : 0 < vs.length) (bt : Nat → Nat → Bool) (hcmp : CmpS prog w A.in1 s.heap .Lt vs bt) {Q : Value → Shared → Prop}
    (hQ : ∀ v h' tk, vs[argBest bt (vs.length - 1)]? = some v → s.heap.StaysIn h' → Q v { s with heap := h', toks := tk }) : wpAny (model prog w) A (call (.builtin "min") [.ref na]) Q E s := by
  have hname : (toString "min" ++ toString ".loop" : String) = "min.loop" := by decide
  refine call_function_tree F.kind_min F.plain_min F.entry_min (F.args_min1 _) ?_
  show wpAny _ A.in1 (Builtin.Builtins.bindParams "min" ["key", "default"] 0 ⟨[], []⟩ >>= _) _ _ s
  refine wpAny_bind (wpAny_of_eq (show Builtin.Builtins.bindParams "min" ["key", "default"] 0 ⟨[], []⟩ = pure [none, none] from rfl) ?_)
  refine wpAny_bind (wpAny_pure ?_)
  have hlt : na < s.heap.objs.size := by obtain ⟨_, e, _⟩ := hna; exact Heap.lt_size e
  refine wpAny_bind (wpAny_pyIter_list hna ?_)
  refine wpAny_bind (wpAny_newObj_type ?_)
  rw [hname]
  refine wpAny_pure ⟨plainId_quiet F.plain_min_loop _, ?_⟩
  -- the first turn
  refine codeAny_builtin F.entry_min_loop ?_
  rw [Around.under_plainId F.plain_min_loop _]
  have hSz : (s.heap.push { cls := .type "list_iterator", data := .fields #[.ref na, .int 0 0] }).objs.size = s.heap.objs.size + 1 := Heap.size_push ..
  have hI0 : s.heap.get? s.heap.objs.size = none := Heap.get?_none_of_le (Nat.le_refl _)
  have hS0 : s.heap.get? (s.heap.objs.size + 1) = none := Heap.get?_none_of_le (Nat.le_succ _)
  have hSI : s.heap.objs.size + 1 ≠ s.heap.objs.size := Nat.succ_ne_self _
  have W := Walks.list (prog := prog) (w := w) (A := A.in1) hh s.heap.objs.size na (Nat.ne_of_lt hlt) vs.toArray
  show wpAny _ A.in1 (seqItems? (.ref _) >>= _) _ _ _
  refine wpAny_bind (wpAny_seqItems (Heap.get?_push_size _ rfl) rfl ?_)
  show wpAny _ A.in1 (tryCatch (pyNext (.ref _)) _ >>= _) _ _ _
  refine wpAny_bind (wpAny_tryCatch (W.item 0 _ _ _ (by simpa using hne) ⟨⟨_, Heap.get?_push_of_some _ (Heap.get?_push_size _ rfl), rfl, rfl⟩, (hna.push _).push _⟩ fun v h' tk hP hst' hk' => ?_))
  have hS' := hk' (s.heap.objs.size + 1) _ (by simp) (by rw [← hSz]; exact Heap.get?_push_size _ rfl)
  rw [hSz]
  have st1 : s.heap.StaysIn h' := fun b o e => hk' b o (fun q => by rw [List.mem_singleton.mp q, hI0] at e; cases e) (Heap.get?_push_of_some _ (Heap.get?_push_of_some _ e))
  show wpAny _ A.in1 (updateSeq _ (fun _ => #[v, v]) >>= _) _ _ _
  refine wpAny_bind ?_
  refine wpAny_updateSeq hS' rfl ?_
  rw [hname]
  refine wpAny_pure ⟨plainId_quiet F.plain_min_loop _, best_loop_min hh s.heap s.heap.objs.size na (s.heap.objs.size + 1) (Nat.ne_of_lt hlt) hSI hI0 hS0 vs bt hcmp hna _ 1 _ v _ rfl Nat.one_pos hne
    (fun b o e => (Heap.get?_update_other _ _ (fun q => by rw [← q, hS0] at e; cases e)).trans (st1 b o e)) (hst'.1.at fun o e => (Heap.get?_update_other _ _ hSI).trans e) (by simpa [argBest] using hP) (Heap.get?_update_self _ hS' rfl) fun v h2 tk2 hv hs2 => hQ v h2 tk2 hv hs2⟩

theorem best_loop_max (hh : A.in1.handled = none) (hb : Heap) (I na S : Addr) (hnI : na ≠ I) (hSI : S ≠ I) (hI : hb.get? I = none) (hS0 : hb.get? S = none) (vs : List Value) (bt : Nat → Nat → Bool) (hcmp : CmpS prog w A.in1 hb .Gt vs bt) (hna : hb.IsList na vs.toArray) :
    ∀ (k j : Nat) (s : Shared) (vb : Value) (c : Nat), vs.length - j = k → 0 < j → j ≤ vs.length → hb.StaysIn s.heap → s.heap.IsListIter I na j → vs[argBest bt (j - 1)]? = some vb →
    s.heap.get? S = some { cls := .type "list", dict := none, data := .seq #[vb, vb] c, slots := #[] } →
    (∀ v h' tk, vs[argBest bt (vs.length - 1)]? = some v → hb.StaysIn h' → R (.ok (.ret v)) { s with heap := h', toks := tk }) →
    codeAny (model prog w) A (.builtin "max.loop" ⟨[.ref I, .none, .ref S], []⟩) R s := by
  have hname : (toString "max" ++ toString ".loop" : String) = "max.loop" := by decide
  have W := Walks.list (prog := prog) (w := w) (A := A.in1) hh I na hnI vs.toArray
  have stay : ∀ {h h' : Heap}, hb.StaysIn h → (∀ b o, b ∉ [I] → h.get? b = some o → h'.get? b = some o) → hb.StaysIn h' := fun hst hk b o e =>
    hk b o (fun q => by rw [List.mem_singleton.mp q, hI] at e; cases e) (hst b o e)
  have stayS : ∀ {h : Heap} {f : Obj → Obj}, hb.StaysIn h → hb.StaysIn (h.update S f) := fun hst b o e =>
    (Heap.get?_update_other _ _ (fun q => by rw [← q, hS0] at e; cases e)).trans (hst b o e)
  intro k
  induction k with
  | zero =>
    intro j s vb c hk h0 hj hst hit hPb hS hR
    have hin : j = vs.toArray.size := by simp; omega
    refine codeAny_builtin F.entry_max_loop ?_
    rw [Around.under_plainId F.plain_max_loop _]
    show wpAny _ A.in1 (seqItems? (.ref S) >>= _) _ _ s
    refine wpAny_bind (wpAny_seqItems hS rfl ?_)
    show wpAny _ A.in1 (tryCatch (pyNext (.ref I)) _ >>= _) _ _ s
    refine wpAny_bind (wpAny_tryCatch (W.done s _ _ ⟨hin ▸ hit, hna.at fun o e => hst _ _ e⟩ fun h' tk hk' => ?_))
    have hS' := hk' S _ (by simpa using hSI) hS
    show wpAny _ A.in1 (updateSeq S (fun _ => #[]) >>= _) _ _ _
    refine wpAny_bind ?_
    refine wpAny_updateSeq hS' rfl (wpAny_bind (wpAny_letGo (wpAny_pure ?_)))
    refine hR vb _ tk (by rw [show vs.length = j by omega]; exact hPb) (stayS (stay hst hk'))
  | succ k ih =>
    intro j s vb c hk h0 hj hst hit hPb hS hR
    have hlt : j < vs.toArray.size := by simp; omega
    refine codeAny_builtin F.entry_max_loop ?_
    rw [Around.under_plainId F.plain_max_loop _]
    show wpAny _ A.in1 (seqItems? (.ref S) >>= _) _ _ s
    refine wpAny_bind (wpAny_seqItems hS rfl ?_)
    show wpAny _ A.in1 (tryCatch (pyNext (.ref I)) _ >>= _) _ _ s
    refine wpAny_bind (wpAny_tryCatch (W.item j s _ _ hlt ⟨hit, hna.at fun o e => hst _ _ e⟩ fun v h' tk hP hst' hk' => ?_))
    have hS' := hk' S _ (by simpa using hSI) hS
    have hst2 := stay hst hk'
    have hPv : vs[j]? = some v := by simpa using hP
    show wpAny _ A.in1 (tryCatch (holding [v, v] (richCompare .Gt v vb >>= _)) _ >>= _) _ _ _
    refine wpAny_bind (wpAny_tryCatch (wpAny_holding (wpAny_bind (hcmp j (argBest bt (j - 1)) v vb _ _ _ hst2 hPv hPb ?_))))
    refine wpAny_bind (wpAny_holding (wpAny_truthy_bool ?_))
    refine wpAny_bind (wpAny_letGo (wpAny_pure ?_))
    obtain ⟨j, rfl⟩ : ∃ i, j = i + 1 := ⟨j - 1, by omega⟩
    rw [Nat.add_sub_cancel] at hPb ⊢
    cases hbt : bt (j + 1) (argBest bt j) with
    | true =>
      simp only [if_true]
      refine wpAny_bind ?_
      refine wpAny_updateSeq hS' rfl (wpAny_bind (wpAny_letGo ?_))
      rw [hname]
      refine wpAny_pure ⟨plainId_quiet F.plain_max_loop _, ih (j + 2) _ v _ (by omega) (by omega) (by omega) (stayS hst2) (hst'.1.at fun o e => (Heap.get?_update_other _ _ hSI).trans e) (by show vs[argBest bt (j + 1)]? = _; simp only [argBest, hbt, if_true]; exact hPv) (Heap.get?_update_self _ hS' rfl) hR⟩
    | false =>
      simp only [Bool.false_eq_true, if_false]
      refine wpAny_bind (wpAny_letGo ?_)
      rw [hname]
      exact wpAny_pure ⟨plainId_quiet F.plain_max_loop _, ih (j + 2) _ vb c (by omega) (by omega) (by omega) hst2 hst'.1 (by show vs[argBest bt (j + 1)]? = _; simp only [argBest, hbt, Bool.false_eq_true, if_false]; exact hPb) hS' hR⟩
theorem call_max_lists (hh : A.in1.handled = none) {na : Addr} {vs : List Value} (hna : s.heap.IsList na vs.toArray) (hne : 0 < vs.length) (bt : Nat → Nat → Bool) (hcmp : CmpS prog w A.in1 s.heap .Gt vs bt) {Q : Value → Shared → Prop}
    (hQ : ∀ v h' tk, vs[argBest bt (vs.length - 1)]? = some v → s.heap.StaysIn h' → Q v { s with heap := h', toks := tk }) : wpAny (model prog w) A (call (.builtin "max") [.ref na]) Q E s := by
  have hname : (toString "max" ++ toString ".loop" : String) = "max.loop" := by decide
  refine call_function_tree F.kind_max F.plain_max F.entry_max (F.args_max1 _) ?_
  show wpAny _ A.in1 (Builtin.Builtins.bindParams "max" ["key", "default"] 0 ⟨[], []⟩ >>= _) _ _ s
  refine wpAny_bind (wpAny_of_eq (show Builtin.Builtins.bindParams "max" ["key", "default"] 0 ⟨[], []⟩ = pure [none, none] from rfl) ?_)
  refine wpAny_bind (wpAny_pure ?_)
  have hlt : na < s.heap.objs.size := by obtain ⟨_, e, _⟩ := hna; exact Heap.lt_size e
  refine wpAny_bind (wpAny_pyIter_list hna ?_)
  refine wpAny_bind (wpAny_newObj_type ?_)
  rw [hname]
  refine wpAny_pure ⟨plainId_quiet F.plain_max_loop _, ?_⟩
  -- the first turn
  refine codeAny_builtin F.entry_max_loop ?_
  rw [Around.under_plainId F.plain_max_loop _]
  have hSz : (s.heap.push { cls := .type "list_iterator", data := .fields #[.ref na, .int 0 0] }).objs.size = s.heap.objs.size + 1 := Heap.size_push ..
  have hI0 : s.heap.get? s.heap.objs.size = none := Heap.get?_none_of_le (Nat.le_refl _)
  have hS0 : s.heap.get? (s.heap.objs.size + 1) = none := Heap.get?_none_of_le (Nat.le_succ _)
  have hSI : s.heap.objs.size + 1 ≠ s.heap.objs.size := Nat.succ_ne_self _
  have W := Walks.list (prog := prog) (w := w) (A := A.in1) hh s.heap.objs.size na (Nat.ne_of_lt hlt) vs.toArray
  show wpAny _ A.in1 (seqItems? (.ref _) >>= _) _ _ _
  refine wpAny_bind (wpAny_seqItems (Heap.get?_push_size _ rfl) rfl ?_)
  show wpAny _ A.in1 (tryCatch (pyNext (.ref _)) _ >>= _) _ _ _
  refine wpAny_bind (wpAny_tryCatch (W.item 0 _ _ _ (by simpa using hne) ⟨⟨_, Heap.get?_push_of_some _ (Heap.get?_push_size _ rfl), rfl, rfl⟩, (hna.push _).push _⟩ fun v h' tk hP hst' hk' => ?_))
  have hS' := hk' (s.heap.objs.size + 1) _ (by simp) (by rw [← hSz]; exact Heap.get?_push_size _ rfl)
  rw [hSz]
  have st1 : s.heap.StaysIn h' := fun b o e => hk' b o (fun q => by rw [List.mem_singleton.mp q, hI0] at e; cases e) (Heap.get?_push_of_some _ (Heap.get?_push_of_some _ e))
  show wpAny _ A.in1 (updateSeq _ (fun _ => #[v, v]) >>= _) _ _ _
  refine wpAny_bind ?_
  refine wpAny_updateSeq hS' rfl ?_
  rw [hname]
  refine wpAny_pure ⟨plainId_quiet F.plain_max_loop _, best_loop_max hh s.heap s.heap.objs.size na (s.heap.objs.size + 1) (Nat.ne_of_lt hlt) hSI hI0 hS0 vs bt hcmp hna _ 1 _ v _ rfl Nat.one_pos hne
    (fun b o e => (Heap.get?_update_other _ _ (fun q => by rw [← q, hS0] at e; cases e)).trans (st1 b o e)) (hst'.1.at fun o e => (Heap.get?_update_other _ _ hSI).trans e) (by simpa [argBest] using hP) (Heap.get?_update_self _ hS' rfl) fun v h2 tk2 hv hs2 => hQ v h2 tk2 hv hs2⟩
end

def SplitG (v : Value) (its : Array Value) : Prop := ∃ x t ws, v = .str x t ∧ its = ws.toArray ∧ StrsAre ws (Txt.split x (Str.ofString "/"))
def compsOf (x : Str) : List Str := (Txt.split x (Str.ofString "/")).filter keepC
def strAt (xs : List Str) (i : Nat) : Str := xs.getD i (Str.ofString "")
def minI (xs : List Str) : Nat := argBest (fun i j => texLt (compsOf (strAt xs i)) (compsOf (strAt xs j))) (xs.length - 1)
def maxI (xs : List Str) : Nat := argBest (fun i j => texLt (compsOf (strAt xs j)) (compsOf (strAt xs i))) (xs.length - 1)
def minC (xs : List Str) : List Str := compsOf (strAt xs (minI xs))
def maxC (xs : List Str) : List Str := compsOf (strAt xs (maxI xs))
abbrev lstP (d : Option Addr) (sl : Array (Option Value)) (ws : List Value) (n : Nat) : Obj := { cls := .type "list", dict := d, data := .seq ws.toArray n, slots := sl }
/-- each text of xs has its parts in a list of the ledger -/
def Comps (news : List (Addr × Obj)) (xs : List Str) (ys : List Value) : Prop :=
  ys.length = xs.length ∧ ∀ (i : Nat) x, xs[i]? = some x → ∃ T d sl ws n, ys[i]? = some (Value.ref T) ∧ (T, lstP d sl ws n) ∈ news ∧ StrsAre ws (compsOf x)
theorem comps_of {h₀ h : Heap} {L : Addr} {objs objs7 news : List (Addr × Obj)} (N : News h₀ L h news) (h5 : ∀ p ∈ objs, p ∈ news) (h7 : ∀ p ∈ objs7, p ∈ news) :
    ∀ {vs ys ys7 : List Value} {xs : List Str}, StrsAre vs xs → Paired (LedL objs SplitG) vs ys → Paired (LedL objs7 (FiltG objs)) ys ys7 → Comps news xs ys7
  | _, _, _, _, .nil, .nil, .nil => ⟨rfl, fun i x h => by simp at h⟩
  | _, _, _, _, .cons x t hv, .cons g5 r5, .cons g7 r7 => by
    obtain ⟨l1, l2⟩ := comps_of N h5 h7 hv r5 r7
    refine ⟨congrArg (· + 1) l1, fun i y hy => ?_⟩
    cases i with
    | succ i => exact l2 i y (by simpa using hy)
    | zero =>
      obtain rfl : x = y := by simpa using hy
      obtain ⟨T, o, its, n, rfl, hm, hc, hd, T5, o5, ws5, n5, cs, e5, hm5, hc5, hd5, hs5, rfl⟩ := g7
      obtain ⟨T6, o6, its6, n6, e6, hm6, hc6, hd6, x6, t6, ws6, e6', rfl, hs6⟩ := g5
      cases e6'
      rw [e5] at e6
      cases e6
      obtain rfl : o5 = o6 := Option.some.inj ((N _ (h5 _ hm5)).1.symm.trans (N _ (h5 _ hm6)).1)
      rw [hd5] at hd6
      obtain rfl : ws5 = ws6 := by injection hd6 with e7 _; simpa using congrArg Array.toList e7
      obtain ⟨c, d, a, sl⟩ := o
      cases hc; cases hd
      exact ⟨T, d, sl, _, n, rfl, h7 _ hm, strs_filter hs6⟩
theorem comps_at {news : List (Addr × Obj)} {xs : List Str} {ys : List Value} (C : Comps news xs ys) {i : Nat} {v : Value} (h : ys[i]? = some v) :
    ∃ T d sl ws n, v = Value.ref T ∧ (T, lstP d sl ws n) ∈ news ∧ StrsAre ws (compsOf (strAt xs i)) := by
  have hi : i < xs.length := by rw [← C.1]; exact (List.getElem?_eq_some_iff.mp h).1
  obtain ⟨T, d, sl, ws, n, h1, h2, h3⟩ := C.2 i xs[i] (List.getElem?_eq_getElem hi)
  refine ⟨T, d, sl, ws, n, Option.some.inj (h.symm.trans h1), h2, ?_⟩
  rw [strAt, List.getD_eq_getElem?_getD, List.getElem?_eq_getElem hi]
  exact h3
theorem cmp_comps {prog : Program} {w : World} {A : Around} {h₀ hb : Heap} {L : Addr} {news : List (Addr × Obj)} {xs : List Str} {ys : List Value} (N : News h₀ L hb news) (C : Comps news xs ys) (hu : A.units < cLine) :
    CmpS prog w A hb .Lt ys (fun i j => texLt (compsOf (strAt xs i)) (compsOf (strAt xs j))) ∧ CmpS prog w A hb .Gt ys (fun i j => texLt (compsOf (strAt xs j)) (compsOf (strAt xs i))) := by
  constructor
  all_goals
    intro i j vi vj s Q E st hi hj hQ
    obtain ⟨T, d, sl, ws, n, rfl, h2, h3⟩ := comps_at C hi
    obtain ⟨T', d', sl', ws', n', rfl, h2', h3'⟩ := comps_at C hj
  · exact rich_lt h3 h3' ⟨_, st _ _ (N _ h2).1, rfl, n, rfl⟩ ⟨_, st _ _ (N _ h2').1, rfl, n', rfl⟩ hu hQ
  · exact rich_gt h3 h3' ⟨_, st _ _ (N _ h2).1, rfl, n, rfl⟩ ⟨_, st _ _ (N _ h2').1, rfl, n', rfl⟩ hu hQ
section
variable {prog : Program} {w : World} {A : Around} {E : Value → Shared → Prop} {s : Shared} {h₀ : Heap} {L : Addr} {m : Str → Option Value} {news : List (Addr × Obj)} {xs : List Str} {ys : List Value}
theorem min_K {D : Addr} {n0 : Nat} {Q : Value → Shared → Prop} (hh : A.in1.handled = none) (hu : A.in1.units < cLine) (C : Comps news xs ys) (hne : 0 < xs.length) (F : Fr h₀ L s.heap m) (N : News h₀ L s.heap news) (hm : (D, { cls := .type "list", data := .seq ys.toArray n0 }) ∈ news)
    (hQ : ∀ T d sl ws n h' tk, Fr h₀ L h' m → News h₀ L h' ((T, lstP d sl ws n) :: news) → StrsAre ws (minC xs) → Q (.ref T) { s with heap := h', toks := tk }) : wpAny (model prog w) A (call (.builtin "min") [.ref D]) Q E s := by
  have hl : s.heap.IsList D ys.toArray := ⟨_, (N _ hm).1, rfl, n0, rfl⟩
  refine call_min_lists hh hl (by rw [C.1]; exact hne) _ (cmp_comps N C hu).1 fun v h' tk hv st => ?_
  obtain ⟨T, d, sl, ws, n, rfl, h2, h3⟩ := comps_at C hv
  rw [C.1] at h3
  refine hQ T d sl ws n h' tk (fr_stays F st) (fun p hp => ?_) h3
  rcases List.mem_cons.mp hp with rfl | hp
  · exact news_stays N st _ h2
  · exact news_stays N st _ hp
theorem max_K {D : Addr} {n0 : Nat} {Q : Value → Shared → Prop} (hh : A.in1.handled = none) (hu : A.in1.units < cLine) (C : Comps news xs ys) (hne : 0 < xs.length) (F : Fr h₀ L s.heap m) (N : News h₀ L s.heap news) (hm : (D, { cls := .type "list", data := .seq ys.toArray n0 }) ∈ news)
    (hQ : ∀ T d sl ws n h' tk, Fr h₀ L h' m → News h₀ L h' ((T, lstP d sl ws n) :: news) → StrsAre ws (maxC xs) → Q (.ref T) { s with heap := h', toks := tk }) : wpAny (model prog w) A (call (.builtin "max") [.ref D]) Q E s := by
  have hl : s.heap.IsList D ys.toArray := ⟨_, (N _ hm).1, rfl, n0, rfl⟩
  refine call_max_lists hh hl (by rw [C.1]; exact hne) _ (cmp_comps N C hu).2 fun v h' tk hv st => ?_
  obtain ⟨T, d, sl, ws, n, rfl, h2, h3⟩ := comps_at C hv
  rw [C.1] at h3
  refine hQ T d sl ws n h' tk (fr_stays F st) (fun p hp => ?_) h3
  rcases List.mem_cons.mp hp with rfl | hp
  · exact news_stays N st _ h2
  · exact news_stays N st _ hp
theorem comps_more {p : Addr × Obj} (C : Comps news xs ys) : Comps (p :: news) xs ys := ⟨C.1, fun i x hx => by
  obtain ⟨T, d, sl, ws, n, h1, h2, h3⟩ := C.2 i x hx
  exact ⟨T, d, sl, ws, n, h1, .tail _ h2, h3⟩⟩
end
section
variable {prog : Program} {w : World} {A : Around} {E : Value → Shared → Prop} {s : Shared} {env : Env} {h₀ : Heap} {body : List Stmt} {Q : Flow → Shared → Prop} {target : Expr}
theorem unrEndW_mono {L : Addr} {its : List (Addr × Obj)} {r r' : (Str → Option Value) → List (Addr × Obj) → Prop} {s₁ s₂ : Shared} (hr : ∀ m n, r m n → r' m n) (h : UnrEndW h₀ L s₁ its r s₂) : UnrEndW h₀ L s₁ its r' s₂ := by
  obtain ⟨h', tk, m', n', e, F, N, o, q⟩ := h
  exact ⟨h', tk, m', n', e, F, N, o, hr _ _ q⟩
theorem unrPostW_mono {L : Addr} {its : List (Addr × Obj)} {r r' : (Str → Option Value) → List (Addr × Obj) → Prop} {s₁ s₂ : Shared} {f : Flow} (hr : ∀ m n, r m n → r' m n) (h : UnrPostW h₀ L s₁ its r Q f s₂) : UnrPostW h₀ L s₁ its r' Q f s₂ := by
  cases f with
  | ret v => exact h
  | brk => exact h
  | next => exact unrEndW_mono hr h
  | cont => exact unrEndW_mono hr h
/-- enumerate's loop by what holds between its turns -/
theorem enum_fold {I : Addr} {keep : List (Addr × Obj)} (J : Nat → List Value → (Str → Option Value) → List (Addr × Obj) → Prop) :
    ∀ (r : List Value) (i : Nat) (m : Str → Option Value) (news : List (Addr × Obj)), J i r m news →
      (∀ i v r m news, J i (v :: r) m news → ∀ T t h tk (o1 o2 : Obj), o1.cls = .type "enumerate" → o2.cls = .type "list_iterator" → IsTup h T #[.int (i : Int) t, v] → Fr h₀ env.locals h m → News h₀ env.locals h ((I + 1, o1) :: (I, o2) :: news) →
        wpAny (model prog w) A (assign target env (.ref T)) (fun _ s₂ => wpAny (model prog w) A (execs body env) (UnrPostW h₀ env.locals { s with heap := h, toks := tk } [(I + 1, o1), (I, o2)] (fun m' n' => SubL keep n' ∧ J (i + 1) r m' n') Q) E s₂) E { s with heap := h, toks := tk }) →
      (∀ i m news, J i [] m news → ∀ h tk, Fr h₀ env.locals h m → News h₀ env.locals h news → Q .next { s with heap := h, toks := tk }) →
      ItemsRest prog w A E h₀ env target body Q s [(I + 1, "enumerate"), (I, "list_iterator")] keep (enumItems i r) m news
  | [], i, m, news, hJ, _, fin => ItemsRest.zero fun h tk F N => fin i m news hJ h tk F N
  | v :: r, i, m, news, hJ, step, fin => ItemsRest.pair fun T t h tk hT F => fun o1 c1 o2 c2 N =>
    wpAny_mono (step i v r m news hJ T t h tk o1 o2 c1 c2 hT F N) (fun _ _ q => wpAny_mono q (fun _ _ p => unrPostW_mono (fun m' n' hJ' => ⟨hJ'.1, enum_fold J r (i + 1) m' n' hJ'.2 step fin⟩) p) fun _ _ e => e) fun _ _ e => e
end

def lcp2 : List Str → List Str → List Str
  | x :: xs, y :: ys => if x == y then x :: lcp2 xs ys else []
  | _, _ => []
theorem lcp2_all : ∀ {a b : List Str}, a.take a.length = b.take a.length → lcp2 a b = a
  | [], _, _ => by simp [lcp2]
  | x :: a, [], h => by simp at h
  | x :: a, y :: b, h => by
    simp only [List.length_cons, List.take_succ_cons, List.cons.injEq] at h
    obtain ⟨rfl, h⟩ := h
    simp only [lcp2, beq_self_eq_true, if_true, lcp2_all h]
theorem lcp2_at : ∀ {i : Nat} {a b : List Str} {x y : Str}, a.take i = b.take i → a[i]? = some x → b[i]? = some y → (x != y) = true → lcp2 a b = a.take i
  | 0, a, b, x, y, _, ha, hb, hn => by
    obtain ⟨a', rfl⟩ : ∃ r, a = x :: r := by cases a with | nil => simp at ha | cons z r => exact ⟨r, by simpa using ha⟩
    obtain ⟨b', rfl⟩ : ∃ r, b = y :: r := by cases b with | nil => simp at hb | cons z r => exact ⟨r, by simpa using hb⟩
    have hn' : (x == y) = false := by simpa [bne] using hn
    simp [lcp2, hn']
  | i + 1, [], b, x, y, _, ha, _, _ => by simp at ha
  | i + 1, _ :: _, [], x, y, _, _, hb, _ => by simp at hb
  | i + 1, u :: a, v :: b, x, y, h, ha, hb, hn => by
    simp only [List.take_succ_cons, List.cons.injEq] at h
    obtain ⟨rfl, h⟩ := h
    simp only [lcp2, beq_self_eq_true, if_true, List.take_succ_cons, lcp2_at h (by simpa using ha) (by simpa using hb) hn]
theorem texLt_irrefl : ∀ a : List Str, texLt a a = false
  | [] => rfl
  | x :: a => by simp only [texLt, beq_self_eq_true, if_true, texLt_irrefl a]
theorem str_eq_of_cps {x y : Str} (h : x.cps.toList = y.cps.toList) : x = y := by
  cases x; cases y; simp only [Str.mk.injEq]; exact Array.toList_inj.mp h
theorem texLt_trans : ∀ {a b c : List Str}, texLt a b = true → texLt b c = true → texLt a c = true
  | [], [], _, h, _ => by simp [texLt] at h
  | _ :: _, [], _, h, _ => by simp [texLt] at h
  | [], _ :: _, [], _, h => by simp [texLt] at h
  | [], _ :: _, _ :: _, _, _ => rfl
  | _ :: _, _ :: _, [], _, h => by simp [texLt] at h
  | x :: a, y :: b, z :: c, h1, h2 => by
    simp only [texLt] at h1 h2 ⊢
    by_cases e1 : x = y
    · subst e1
      rw [if_pos (beq_self_eq_true _)] at h1
      by_cases e2 : x = z
      · subst e2
        rw [if_pos (beq_self_eq_true _)] at h2 ⊢
        exact texLt_trans h1 h2
      · rw [if_neg (by simpa using e2)] at h2 ⊢
        exact h2
    · rw [if_neg (by simpa using e1)] at h1
      by_cases e2 : y = z
      · subst e2
        rw [if_neg (by simpa using e1)]
        exact h1
      · rw [if_neg (by simpa using e2)] at h2
        have h3 := List.lt_trans (of_decide_eq_true h1) (of_decide_eq_true h2)
        have e3 : x ≠ z := by rintro rfl; exact List.lt_irrefl _ h3
        rw [if_neg (by simpa using e3)]
        exact decide_eq_true h3
theorem argBest_least {bt : Nat → Nat → Bool} (hi : ∀ a, bt a a = false) (ht : ∀ a b c, bt a b = true → bt b c = true → bt a c = true) : ∀ (k j : Nat), j ≤ k → bt j (argBest bt k) = false
  | 0, j, h => by obtain rfl : j = 0 := by omega
                  exact hi 0
  | k + 1, j, h => by
    simp only [argBest]
    cases q : bt (k + 1) (argBest bt k) with
    | true =>
      simp only [if_true]
      by_cases e : j = k + 1
      · rw [e]; exact hi _
      · cases p : bt j (k + 1) with
        | false => rfl
        | true => exact absurd (ht _ _ _ p q) (by rw [argBest_least hi ht k j (by omega)]; decide)
    | false =>
      simp only [Bool.false_eq_true, if_false]
      by_cases e : j = k + 1
      · rw [e]; exact q
      · exact argBest_least hi ht k j (by omega)
theorem argBest_le (bt : Nat → Nat → Bool) : ∀ k, argBest bt k ≤ k
  | 0 => Nat.le_refl _
  | k + 1 => by
    have := argBest_le bt k
    simp only [argBest]
    split
    · exact Nat.le_refl _
    · omega
theorem min_least (xs : List Str) {j : Nat} (h : j < xs.length) : texLt (compsOf (strAt xs j)) (minC xs) = false :=
  argBest_least (bt := fun i j => texLt (compsOf (strAt xs i)) (compsOf (strAt xs j))) (fun _ => texLt_irrefl _) (fun _ _ _ h1 h2 => texLt_trans h1 h2) _ j (by omega)
theorem max_most (xs : List Str) {j : Nat} (h : j < xs.length) : texLt (maxC xs) (compsOf (strAt xs j)) = false :=
  argBest_least (bt := fun i j => texLt (compsOf (strAt xs j)) (compsOf (strAt xs i))) (fun _ => texLt_irrefl _) (fun _ _ _ h1 h2 => texLt_trans h2 h1) _ j (by omega)
theorem max_min (xs : List Str) (h : 0 < xs.length) : texLt (maxC xs) (minC xs) = false :=
  min_least xs (j := maxI xs) (Nat.lt_of_le_of_lt (argBest_le _ _) (by omega))
theorem max_long : ∀ {i : Nat} {a b : List Str}, texLt b a = false → a.take i = b.take i → i < a.length → i < b.length
  | 0, x :: a, [], h, _, _ => by simp [texLt] at h
  | 0, [], _, _, _, h => by simp at h
  | 0, _ :: _, _ :: _, _, _, _ => Nat.succ_pos _
  | i + 1, [], _, _, _, h => by simp at h
  | i + 1, x :: a, [], _, h, _ => by simp at h
  | i + 1, x :: a, y :: b, h, h1, h2 => by
    simp only [List.take_succ_cons, List.cons.injEq] at h1
    obtain ⟨rfl, h1⟩ := h1
    simp only [texLt, beq_self_eq_true, if_true] at h
    exact Nat.succ_lt_succ (max_long h h1 (by simpa using h2))
theorem take_more {i : Nat} {a b : List Str} {x y : Str} (h : a.take i = b.take i) (ha : a[i]? = some x) (hb : b[i]? = some y) (hn : (x != y) = false) : a.take (i + 1) = b.take (i + 1) := by
  obtain rfl : x = y := by simpa [bne] using hn
  rw [List.take_add_one, List.take_add_one, h, ha, hb]
theorem strs_take {vs : List Value} {xs : List Str} (h : StrsAre vs xs) (i : Nat) : StrsAre (vs.take i) (xs.take i) := by
  induction h generalizing i with
  | nil => simpa using StrsAre.nil
  | cons x t _ ih =>
    cases i with
    | zero => exact .nil
    | succ i => exact .cons x t (ih i)
/-- the names' map in the loop: two names are new in each turn -/
def pairM (xi xc : Str) (vi vc : Option Value) (M : Str → Option Value) : Str → Option Value := fun y => if y = xc then vc else if y = xi then vi else M y
theorem pairM_self {xi xc : Str} (M : Str → Option Value) : pairM xi xc (M xi) (M xc) M = M := by
  funext y
  unfold pairM
  split
  · subst y; rfl
  · split
    · subst y; rfl
    · rfl
theorem pairM_next {xi xc : Str} {vi vc a c : Option Value} (M : Str → Option Value) : (fun y => if y = xc then c else if y = xi then a else pairM xi xc vi vc M y) = pairM xi xc a c M := by
  funext y
  unfold pairM
  split
  · rfl
  · split
    · rfl
    · rfl
section
variable {prog : Program} {w : World} {A : Around} {E : Value → Shared → Prop} {s : Shared} {env : Env} {h₀ : Heap} {body : List Stmt} {Q : Flow → Shared → Prop} {target : Expr}
/-- enumerate's loop that stops at the first place where two lists differ -/
theorem enum_cp {I : Addr} {keep : List (Addr × Obj)} (xi xc : Str) (M0 : Str → Option Value) (N0 : List (Addr × Obj)) (ws1 ws2 : List Value) (c1 c2 : List Str) (S1 : StrsAre ws1 c1) (S2 : StrsAre ws2 c2) (hlt : texLt c2 c1 = false)
    (step : ∀ i x y tx ty vi vc, c1.take i = c2.take i → c1[i]? = some x → c2[i]? = some y → ws2[i]? = some (.str y ty) → i < ws2.length → ∀ T t h tk (o1 o2 : Obj), o1.cls = .type "enumerate" → o2.cls = .type "list_iterator" → IsTup h T #[.int (i : Int) t, .str x tx] →
        Fr h₀ env.locals h (pairM xi xc vi vc M0) → News h₀ env.locals h ((I + 1, o1) :: (I, o2) :: N0) →
        wpAny (model prog w) A (assign target env (.ref T)) (fun _ s₂ => wpAny (model prog w) A (execs body env) (UnrPostW h₀ env.locals { s with heap := h, toks := tk } [(I + 1, o1), (I, o2)] (fun m' n' => SubL keep n' ∧ (x != y) = false ∧ n' = N0 ∧ ∃ vi vc, m' = pairM xi xc vi vc M0) Q) E s₂) E { s with heap := h, toks := tk })
    (fin : lcp2 c1 c2 = c1 → ∀ vi vc h tk, Fr h₀ env.locals h (pairM xi xc vi vc M0) → News h₀ env.locals h N0 → Q .next { s with heap := h, toks := tk }) :
    ItemsRest prog w A E h₀ env target body Q s [(I + 1, "enumerate"), (I, "list_iterator")] keep (enumItems 0 ws1) M0 N0 := by
  have l1 := S1.length
  have l2 := S2.length
  refine enum_fold (fun i r m news => r = ws1.drop i ∧ c1.take i = c2.take i ∧ news = N0 ∧ ∃ vi vc, m = pairM xi xc vi vc M0) ws1 0 M0 N0 ⟨by simp, by simp, rfl, _, _, (pairM_self M0).symm⟩ ?_ ?_
  · rintro i v r m news ⟨hr, ht, rfl, vi, vc, rfl⟩ T t h tk o1 o2 e1 e2 hT F N
    have hi : i < ws1.length := by
      have := congrArg List.length hr
      simp at this; omega
    rw [List.drop_eq_getElem_cons hi] at hr
    obtain ⟨rfl, rfl⟩ := List.cons.inj hr
    obtain ⟨x, tx, hx, hx'⟩ := strs_at S1 hi
    have hi2 : i < ws2.length := by rw [l2]; exact max_long hlt ht (by omega)
    obtain ⟨y, ty, hy, hy'⟩ := strs_at S2 hi2
    have ev : ws1[i] = .str x tx := Option.some.inj ((List.getElem?_eq_getElem hi).symm.trans hx')
    rw [ev] at hT
    refine wpAny_mono (step i x y tx ty vi vc ht hx hy hy' hi2 T t h tk o1 o2 e1 e2 hT F N) (fun _ _ q => wpAny_mono q (fun _ _ p => unrPostW_mono (fun m' n' hJ' => ?_) p) fun _ _ e => e) fun _ _ e => e
    exact ⟨hJ'.1, rfl, take_more ht hx hy hJ'.2.1, hJ'.2.2⟩
  · rintro i m news ⟨hr, ht, rfl, vi, vc, rfl⟩ h tk F N
    have hi : ws1.length ≤ i := by simpa using hr.symm
    refine fin (lcp2_all ?_) vi vc h tk F N
    have := congrArg (List.take c1.length) ht
    rwa [List.take_take, List.take_take, Nat.min_eq_left (by omega)] at this
end

theorem slice_upto (ws : List Value) (i : Nat) : (slicePick ws.toArray none (some (i : Int)) none).toList = ws.take i := by
  have e : sliceBounds none (some (i : Int)) none ws.toArray.size = (((0 : Nat) : Int), ((min i ws.toArray.size : Nat) : Int), 1) := by
    simp only [sliceBounds, Option.getD_none, show (1 : Int) > 0 by decide, if_true, if_neg (show ¬ ((i : Int) < 0) by omega)]
    congr 1
    congr 1
    omega
  rw [kmk_pick_nat _ e]
  show (ws.drop 0).take (min i ws.toArray.size - 0) = _
  rw [List.drop_zero, Nat.sub_zero, List.size_toArray, kmk_take_min]
theorem sum_le_of {k : Nat} : ∀ {l : List Str}, (∀ c ∈ l, c.length ≤ k) → (l.map (·.length)).sum ≤ l.length * k
  | [], _ => by simp
  | c :: l, h => by
    have h1 := h c (.head _)
    have h2 := sum_le_of (l := l) fun c hc => h c (.tail _ hc)
    simp only [List.map_cons, List.sum_cons, List.length_cons, Nat.add_mul, Nat.one_mul]
    omega
theorem comps_le {x : Str} (h : x.length ≤ 1000) : (∀ c ∈ compsOf x, c.length ≤ 1000) ∧ (compsOf x).length ≤ 1002 := by
  constructor
  · intro c hc
    have := split_len (List.mem_filter.mp hc).1
    omega
  · have h1 := List.length_filter_le keepC (Txt.split x (Str.ofString "/"))
    have h2 := (fact_split x (Str.ofString "/")).2
    unfold compsOf
    omega
theorem join_fits {l : List Str} {n : Nat} (h : (∀ c ∈ l, c.length ≤ 1000) ∧ l.length ≤ 1002) (hn : n ≤ 1) : (l.map (·.length)).sum + l.length * n ≤ 16777216 := by
  have h1 := sum_le_of h.1
  have h2 := h.2
  have h3 : l.length * 1000 ≤ 1002 * 1000 := Nat.mul_le_mul_right _ h2
  have h4 : l.length * n ≤ 1002 * 1 := Nat.mul_le_mul h2 hn
  omega
theorem minC_fits {xs : List Str} (hne : 0 < xs.length) (h : ∀ x ∈ xs, x.length ≤ 1000) : (∀ c ∈ minC xs, c.length ≤ 1000) ∧ (minC xs).length ≤ 1002 := by
  refine comps_le (h _ ?_)
  have hi : minI xs < xs.length := Nat.lt_of_le_of_lt (argBest_le _ _) (by omega)
  rw [strAt, List.getD_eq_getElem?_getD, List.getElem?_eq_getElem hi]
  exact List.getElem_mem hi
theorem take_fits {l : List Str} (h : (∀ c ∈ l, c.length ≤ 1000) ∧ l.length ≤ 1002) (i : Nat) : (∀ c ∈ l.take i, c.length ≤ 1000) ∧ (l.take i).length ≤ 1002 :=
  ⟨fun c hc => h.1 c (List.mem_of_mem_take hc), by rw [List.length_take]; omega⟩
theorem joined_le {l : List Str} (h : (∀ c ∈ l, c.length ≤ 1000) ∧ l.length ≤ 1002) : (Txt.join (Str.ofString "/") l).length ≤ 1100000 := by
  show (Builtin.Str.glued (Str.ofString "/") l).length ≤ _
  rw [StrLaws.glued_eq_join]
  refine Nat.le_trans (StrLaws.join_length_le _ l) ?_
  have h1 := sum_le_of h.1
  have h2 := h.2
  have h3 : l.length * 1000 ≤ 1002 * 1000 := Nat.mul_le_mul_right _ h2
  have h5 : (Str.ofString "/").length = 1 := by decide
  rw [h5]
  omega
def cpS (b : Bool) (xs : List Str) : Str := (if b then Str.ofString "/" else Str.ofString "") ++ Txt.join (Str.ofString "/") (lcp2 (minC xs) (maxC xs))
theorem cpS_t {b : Bool} {xs : List Str} (h : b = true) : Str.ofString "/" ++ Txt.join (Str.ofString "/") (lcp2 (minC xs) (maxC xs)) = cpS b xs := by rw [cpS, if_pos h]
theorem cpS_f {b : Bool} {xs : List Str} (h : b = false) : Str.ofString "" ++ Txt.join (Str.ofString "/") (lcp2 (minC xs) (maxC xs)) = cpS b xs := by rw [cpS, if_neg (by rw [h]; decide)]

abbrev lstO (vs : List Value) : Obj := { cls := .type "list", data := .seq vs.toArray }
abbrev lstN (vs : List Value) (n : Nat) : Obj := { cls := .type "list", data := .seq vs.toArray n }
section
 local macro_rules | `(tactic| walk_at "call type:map") => `(tactic| (k_here; k_dflt (refine' map_K ?k1 ?k2 ?k3 ?k4 ?k5 ?_; (case k1 => k_asm); (case k2 => k_asm); (case k3 => k_mem); (case k4 => rfl); (case k5 => rfl); k_whole; intro M' T' I' oI' h' F' N' hli' hoff' hMI' hTI')))
 local macro_rules | `(tactic| walk_at "call type:tuple") => `(tactic| (k_here; k_dflt (refine' tuple_fspath ?k1 ?k2 ?k3 ?k4 ?k5 ?k6 ?k7 ?k8 ?k9 ?kK ?kd ?ku ?m1 ?m2 ?m3 ?m4 ?m5 ?_; (case k1 => k_asm); (case k2 => k_asm); (case k3 => k_asm); (case k4 => k_asm); (case k5 => k_asm); (case k6 => k_asm); (case k7 => k_asm); (case k8 => k_asm); (case k9 => k_asm); (case kK => first | exact rfl | assumption); (case kd => ktr_room); (case ku => ktr_units); (case m1 => k_mem); (case m2 => rfl); (case m3 => rfl); (case m4 => assumption); (case m5 => omega); k_whole; intro D' vs' h' tk' hvs' F' N' hoff'; (have hln' := StrsAre.length hvs'); cases hvs')))
 local macro_rules | `(tactic| walk_at "truthy ref") => `(tactic| (k_here; k_dflt (refine' ktl_truthyK (vs := _ :: _) ?k1 ?k2 ?k3 ?_; (case k1 => k_asm); (case k2 => k_mem); (case k3 => omega); k_whole; dsimp only [List.isEmpty_cons, Bool.not_false])))
theorem seqIndex_zero (n : Nat) : seqIndex? 0 (n + 1) = some 0 := by
  unfold seqIndex?
  have h : (0 : Int) < ((n + 1 : Nat) : Int) := by omega
  simp only [Int.lt_irrefl, if_false, Int.le_refl, decide_true, Bool.true_and, h, if_true]
  rfl
 local macro_rules | `(tactic| walk_at "subscriptTail") => `(tactic| (k_here; (with_reducible show wpAny _ _ (subscriptTail _ _ (Value.ref _) (Value.int 0 _)) _ _ _); k_dflt (refine' item_tupleT (l := _ :: _) ?t ?a ?b ?c ?d ?_; (case t => exact News.isTup (by k_asm) (by k_mem)); (case a => decide); (case b => decide); (case c => exact seqIndex_zero _); (case d => rfl); k_whole)))
 local macro_rules | `(tactic| walk_at "exec Try") => `(tactic| (k_here; (with_reducible show wpAny _ _ (exec (Stmt.Try _ (_ :: _) _ [] _) _) _ _ _); refine wpAny_Try_except ?_))
 local macro_rules | `(tactic| walk_at "eval Name") => `(tactic| ((with_reducible show wpAny _ _ (eval (Expr.Name _ _) (compEnvC _ _ _ _)) _ _ _); k_dflt (first | (refine' ldVarK ?k1 ?k2 ?_ ?k3 ?k4 ?k5; (case k3 => rfl); (case k4 => rfl); (case k5 => decide); (case k1 => assumption); (case k2 => assumption); k_whole) | (refine' wpAny_Name (wpAny_loadName_cell ?k3 ?k4 ?k5 ⟨_, ?k1, ?k2⟩ ?_) ?k6; (case k3 => rfl); (case k4 => rfl); (case k5 => rfl); (case k1 => assumption); (case k2 => assumption); (case k6 => decide); k_whole) | (refine' wpAny_Name (wpAny_loadName_free ?k3 ?k4 ?k5 ⟨_, ?k1, ?k2⟩ ?_ ?k7) ?k6; (case k3 => rfl); (case k4 => rfl); (case k5 => rfl); (case k1 => assumption); (case k2 => assumption); (case k6 => decide); (case k7 => decide); k_whole))))
set_option maxHeartbeats 8000000 in
theorem cp_c (w : World) (vs : List Value) (x0 : Str) (xr : List Str) (b : Bool) (na : Addr) (nn : Nat) (hvs : StrsAre vs (x0 :: xr)) (hlen : vs.length ≤ 100) (hx : ∀ x ∈ x0 :: xr, x.length ≤ 1000) (hb : ∀ x ∈ x0 :: xr, Txt.startswith x (Str.ofString "/") = b) :
    Tells w 134 8 60 [(na, lstN vs nn)] [.ref na] (RetV fun t => .str (cpS b (x0 :: xr)) t) := by
  first | unfold Tells | unfold TellsN
  k_fill
  intro mean mg mb dp un gd cn cs a ccd cl outer A₀ base h₀ L m s Q E B F X N T hk hdp hun hret
  refine wpAny_call ?_
  k_dflt (refine' enter_cells (binds := [(Str.ofString "paths", .ref na)]) ?k1 ?k2 ?k3 ?k4 ?k5 ?kA ?kF ?kK ?k6 ?k7 ?k8 ?k9 ?kB ?kD ?_ ?c2 ?c3 ?c4; (case kA => exact rfl); (case kF => exact rfl); (case kK => assumption); (case k1 => k_asm); (case k2 => k_asm); (case k3 => k_asm); (case k4 => k_asm); (case k5 => k_asm); (case k6 => k_is); (case k7 => k_is); (case k8 => ktr_room); (case k9 => exact BindsTo.of_eq rfl); (case kB => exact rfl); (case kD => decide +kernel); (case c2 => exact rfl); (case c3 => exact rfl); (case c4 => exact rfl); k_whole; intro g' L' h' tk' cells' hK' FG' F' N' Y' B' X' T' l1; (try k_lt l1); k_cells Y'; (try simp only [List.cons_append, List.nil_append] at N'); (try dsimp only); (try k_lift B'); (try k_fold))
  have hl0 := hvs.length
  repeat' ((fail_if_success (with_reducible show wpAny _ _ (exec (Stmt.Assign _ (Expr.ListComp _ _ _ _) _) _) _ _ _)); (first | (k_unfold; (try dsimp only)) | walk1 | (dsimp only; walk1)))
  k_dflt (refine' assign_lists_tup SplitG rfl ?zzF ?zzN ?zzm ?zzsz ?zzsw ?zzcl ?zzce ?zzki ?zzna ?zzx ?zzy ?zzp ?zzfs ?zzit ?zzel ?zzQ)
  (case zzF => k_asm)
  (case zzN => k_asm)
  (case zzm => k_mem)
  (case zzsz => (rw [sizeLine_eq]; omega))
  (case zzcl => with_unfolding_all rfl)
  (case zzsw => with_unfolding_all rfl)
  (case zzce => decide)
  (case zzki => rfl)
  (case zzna => decide)
  (case zzx => rfl)
  (case zzy => rfl)
  (case zzp => rfl)
  (case zzfs => intro _; rfl)
  (case zzit => (intro Q' hQ'; walk1; exact hQ'))
  (case zzel => 
    intro C v s₃ m₃ E' hv hn hx3 st
    obtain ⟨x, t, rfl, hxm⟩ := strs_mem (StrsAre.cons x0 _ (by assumption)) hv
    rename News _ _ _ _ => N4
    have hc : s₃.heap.get? (L' + 1) = some _ := st _ _ (News.get N4 (by k_mem))
    have hxl := hx x hxm
    repeat' (first | walk1 | (dsimp only; walk1))
    refine split_push (by decide) (fun l k hl => ?_) (by rw [sizeLine_eq]; omega)
    refine ⟨⟨_, _, rfl, Heap.get?_none_of_le (Nat.le_refl _), ⟨_, Heap.get?_push_size _ rfl, rfl, _, rfl⟩, x, t, strValues l, rfl, rfl, ?_⟩, keeps_push⟩
    rw [← hl]
    exact strsAre_of_values l)
  intro ys D5 n5 objs h5 tk5 F5 N5 P5 off5
  (try simp only [List.cons_append, List.nil_append] at N5)
  (try dsimp only)
  repeat' ((fail_if_success (with_reducible show wpAny _ _ (eval (Expr.SetComp _ _ _ _) _) _ _ _)); (first | (k_unfold; (try dsimp only)) | walk1 | (dsimp only; walk1)))
  k_dflt (refine' setcomp_K (b := b) rfl ?yyF ?yyN ?yym ?yycl ?yyce ?yyki ?yyna ?yyx ?yyfs ?yyit ?yyel ?yyQ)
  (case yyF => k_asm)
  (case yyN => k_asm)
  (case yym => k_mem)
  (case yycl => with_unfolding_all rfl)
  (case yyce => decide)
  (case yyki => rfl)
  (case yyna => decide)
  (case yyx => rfl)
  (case yyfs => intro _; rfl)
  (case yyit => (intro Q' hQ'; walk1; exact hQ'))
  (case yyel => 
    intro C v s₃ m₃ E' hv hn hx3 st
    obtain ⟨x, t, rfl, hxm⟩ := strs_mem (StrsAre.cons x0 _ (by assumption)) hv
    rename News _ _ _ _ => N4
    have hc : s₃.heap.get? (L' + 1) = some _ := st _ _ (News.get N4 (by k_mem))
    have hxl := hx x hxm
    repeat' (first | walk1 | (dsimp only; walk1))
    · rw [hb x hxm]
    · exact ⟨s₃.heap, s₃.toks, rfl, fun _ _ e => e⟩)
  intro D6 h6 tk6 F6 N6
  (try dsimp only)
  k_dflt (refine assign_setB_K (b := b) rfl F6 N6 (by k_mem) ?_)
  intro h7 F7 N7
  repeat' ((fail_if_success (with_reducible show wpAny _ _ (exec (Stmt.Assign _ (Expr.ListComp _ _ _ _) _) _) _ _ _)); (first | (k_unfold; (try dsimp only)) | walk1 | (dsimp only; walk1)))
  have hly := paired_len P5
  k_dflt (refine' assign_lists_lst (vs := ys) (FiltG objs) rfl ?xxF ?xxN ?xxm ?xxsz ?xxsw ?xxcl ?xxce ?xxki ?xxna ?xxx ?xxy ?xxp ?xxfs ?xxit ?xxel ?xxQ)
  (case xxF => k_asm)
  (case xxN => k_asm)
  (case xxm => k_mem)
  (case xxsz => (rw [sizeLine_eq]; omega))
  (case xxcl => with_unfolding_all rfl)
  (case xxsw => with_unfolding_all rfl)
  (case xxce => decide)
  (case xxki => rfl)
  (case xxna => decide)
  (case xxx => rfl)
  (case xxy => rfl)
  (case xxp => rfl)
  (case xxfs => intro _; rfl)
  (case xxit => (intro Q' hQ'; walk1; exact hQ'))
  (case xxel => 
    intro C v s₃ m₃ E' hv hn hx3 st
    obtain ⟨v', hv', T7, o7, its7, n7, rfl, hm7, hc7, hd7, x, t, ws, rfl, rfl, hws⟩ := led_mem P5 hv
    obtain ⟨x, t', hxe, hxm⟩ := strs_mem (StrsAre.cons x0 _ (by assumption)) hv'
    cases hxe
    rename News _ _ _ _ => N4
    have hc : s₃.heap.get? (L' + 1 + 1) = some _ := st _ _ (News.get N4 (by k_mem))
    have ho7 : s₃.heap.get? T7 = some o7 := st _ _ (News.get N4 (by repeat (first | exact hm7 | refine List.Mem.tail _ ?_)))
    have hxl := hx x hxm
    have hwl : ws.length ≤ x.length + 2 := by rw [hws.length]; exact (fact_split _ _).2
    k_dflt (refine' comp_filter (ax := T7) (ws := ws) keepV rfl ?wwl ?wwsz ?wwcl ?wwce ?wwki ?wwna ?wwx ?wwd ?wwfs ?wwit ?wwt ?wwQ)
    (case wwl => exact ⟨_, ho7, hc7, _, hd7⟩)
    (case wwsz => (rw [sizeLine_eq]; omega))
    (case wwcl => with_unfolding_all rfl)
    (case wwce => decide)
    (case wwki => rfl)
    (case wwna => decide)
    (case wwx => rfl)
    (case wwd => decide)
    (case wwfs => intro _; rfl)
    (case wwit => (intro Q' hQ'; walk1; exact hQ'))
    (case wwt => 
      intro C2 v2 s4 m4 E4 hv2 hn2 hx2 st2
      obtain ⟨c, tc, rfl, hcm⟩ := strs_mem hws hv2
      have hcc := st2 _ _ hc
      have hcl := split_len hcm
      repeat' (first | walk1 | (dsimp only; walk1))
      all_goals (first | exact keep_tt (by assumption) (by assumption) | exact keep_tf (by assumption) | exact keep_f (by assumption) | exact ⟨s4.heap, _, rfl, fun _ _ e => e⟩))
    intro D8 h8 tk8 hD8 hl8 st8
    exact ⟨⟨D8, _, rfl, hD8, hl8, T7, o7, ws, n7, _, rfl, hm7, hc7, hd7, hws, rfl⟩, h8, tk8, rfl, st8⟩)
  intro ys7 D7 n7 objs7 h7' tk7 F7' N7' P7 off7
  (try simp only [List.cons_append] at N7')
  (try dsimp only)
  have CC : Comps _ (x0 :: xr) ys7 := comps_of N7' (fun p hp => by repeat (first | exact List.mem_append_left _ hp | exact hp | refine List.Mem.tail _ ?_)) (fun p hp => by repeat (first | exact List.mem_append_right _ hp | refine List.Mem.tail _ ?_)) (by exact StrsAre.cons x0 _ (by assumption)) P5 P7
  repeat' ((fail_if_success (with_reducible show wpAny _ _ (call (Value.builtin "min") _) _ _ _)); (first | (k_unfold; (try dsimp only)) | walk1 | (dsimp only; walk1)))
  k_dflt (refine' min_K (xs := x0 :: xr) (ys := ys7) rfl ?vvu CC ?vvn ?vvF ?vvN ?vvm ?vvQ)
  (case vvu => ktr_units)
  (case vvn => exact Nat.succ_pos _)
  (case vvF => k_asm)
  (case vvN => k_asm)
  (case vvm => k_mem)
  intro T1 d1 sl1 ws1 n1 h8 tk8 F8 N8 S1
  have CC2 := comps_more (p := (T1, lstP d1 sl1 ws1 n1)) CC
  repeat' ((fail_if_success (with_reducible show wpAny _ _ (call (Value.builtin "max") _) _ _ _)); (first | (k_unfold; (try dsimp only)) | walk1 | (dsimp only; walk1)))
  k_dflt (refine' max_K (xs := x0 :: xr) (ys := ys7) rfl ?uuu CC2 ?uun ?uuF ?uuN ?uum ?uuQ)
  (case uuu => ktr_units)
  (case uun => exact Nat.succ_pos _)
  (case uuF => k_asm)
  (case uuN => k_asm)
  (case uum => k_mem)
  intro T2 d2 sl2 ws2 n2 h9 tk9 F9 N9 S2
  repeat' ((fail_if_success (with_reducible show wpAny _ _ (exec (Stmt.For _ _ _ _ _) _) _ _ _)); (first | (k_unfold; (try dsimp only)) | walk1 | (dsimp only; walk1)))
  (k_here; (rename Fr _ _ _ _ => lF'); (with_unfolding_all refine' For_turns lF' ?_; k_whole))
  repeat' ((fail_if_success (with_reducible show wpAny _ _ (call (Value.type "enumerate") _) _ _ _)); (first | (k_unfold; (try dsimp only)) | walk1 | (dsimp only; walk1)))
  k_dflt (refine' ktu_enum (vs := ws1) (lo := lstP d1 sl1 ws1 n1) ?tth ?ttF ?ttN ?ttm rfl rfl rfl ?ttr)
  (case tth => rfl)
  (case ttF => k_asm)
  (case ttN => k_asm)
  (case ttm => k_mem)
  intro I9 hI9
  refine enum_cp (Str.ofString "i") (Str.ofString "c") _ _ ws1 ws2 (minC (x0 :: xr)) (maxC (x0 :: xr)) S1 S2 (max_min _ (Nat.succ_pos _)) ?_ ?_
  · intro i x y tx ty vi vc ht hx9 hy9 hy9' hi9 T t h tk o1 o2 e1 e2 hT F10 N10
    have hmf := minC_fits (xs := x0 :: xr) (Nat.succ_pos _) hx
    have hl1 := S1.length
    have hl2 := S2.length
    have hi1 : i < (minC (x0 :: xr)).length := (List.getElem?_eq_some_iff.mp hx9).1
    repeat' ((fail_if_success (with_reducible show wpAny _ _ (subscriptTail _ _ _ (Value.int _ _)) _ _ _)); (first | (k_unfold; (try dsimp only)) | walk1 | (dsimp only; walk1)))
    k_dflt (refine' item_listL (l := ws2) ?ssl ?ss0 ?ssf ?ssx ?ssQ)
    (case ssl => exact News.isList (by k_asm) (by k_mem))
    (case ss0 => omega)
    (case ssf => omega)
    (case ssx => exact hy9')
    repeat' ((fail_if_success (with_reducible show wpAny _ _ (subscriptTail _ (PySem.Expr.Slice _ _ none _) (Value.ref _) (Value.ref _)) _ _ _)); (first | (k_unfold; (try dsimp only)) | walk1 | (dsimp only; walk1)))
    · have hws1 : StrsAre (ws1.take i) (lcp2 (minC (x0 :: xr)) (maxC (x0 :: xr))) := by rw [lcp2_at ht hx9 hy9 (by assumption)]; exact strs_take S1 i
      have htf := take_fits hmf i
      rw [← lcp2_at ht hx9 hy9 (by assumption)] at htf
      have hjl := joined_le htf
      k_dflt (refine' kmk_slice_lit (its := ws1.toArray) ?qqF ?qqN ?qql ?qqp ?qqq ?qqe ?qqQ ?qqs ?qqt ?qqz)
      (case qqF => k_asm)
      (case qqN => k_asm)
      (case qql => exact News.isList (by k_asm) (by k_mem))
      (case qqp => kmk_part)
      (case qqq => kmk_part)
      (case qqe => exact slice_upto ws1 i)
      (case qqs => with_unfolding_all rfl)
      (case qqt => kmk_pure)
      (case qqz => (rw [List.size_toArray, sizeLine_eq]; omega))
      intro D9 h9' F9' N9' _
      repeat' ((fail_if_success (with_reducible show wpAny _ _ (call (Value.builtin "str.join") _) _ _ _)); (first | (k_unfold; (try dsimp only)) | walk1 | (dsimp only; walk1)))
      all_goals (k_dflt (refine' join_list (ys := lcp2 (minC (x0 :: xr)) (maxC (x0 :: xr))) (items := (ws1.take i).toArray) (by exact News.isList (by k_asm) (by k_mem)) hws1 (join_fits htf (by decide)) ?_))
      all_goals intro t11 tk11
      all_goals repeat' (first | (k_unfold; (try dsimp only)) | walk1 | (dsimp only; walk1))
      · exact ret_str (Q := Q) hret (cpS_t (by assumption)) (keep_all N hK' (by k_asm) (by k_asm) (by first | (intro _ h; cases h; done) | kcj_all))
      · exact ret_str (Q := Q) hret (cpS_f (by assumption)) (keep_all N hK' (by k_asm) (by k_asm) (by first | (intro _ h; cases h; done) | kcj_all))
    · rename Fr _ _ _ _ => FF
      rename News _ _ _ _ => NN
      refine ⟨_, _, _, _, rfl, FF, NN, fun p hp q hq => ?_, ⟨by k_mem, trivial⟩, by assumption, rfl, _, _, pairM_next _⟩
      have := hI9 p hp
      rcases List.mem_cons.mp hq with rfl | hq
      · exact Nat.ne_of_lt (Nat.lt_succ_of_lt this)
      · rw [List.mem_singleton.mp hq]; exact Nat.ne_of_lt this
  · intro hlcp vi vc h tk F10 N10
    have hmf := minC_fits (xs := x0 :: xr) (Nat.succ_pos _) hx
    have hjl := joined_le hmf
    rw [← hlcp] at hmf hjl
    have hws1 : StrsAre ws1 (lcp2 (minC (x0 :: xr)) (maxC (x0 :: xr))) := by rw [hlcp]; exact S1
    repeat' ((fail_if_success (with_reducible show wpAny _ _ (call (Value.builtin "str.join") _) _ _ _)); (first | (k_unfold; (try dsimp only)) | walk1 | (dsimp only; walk1)))
    all_goals (k_dflt (refine' join_list (ys := lcp2 (minC (x0 :: xr)) (maxC (x0 :: xr))) (items := ws1.toArray) (by exact News.isList (by k_asm) (by k_mem)) hws1 (join_fits hmf (by decide)) ?_))
    all_goals intro t11 tk11
    all_goals repeat' (first | (k_unfold; (try dsimp only)) | walk1 | (dsimp only; walk1))
    · exact ret_str (Q := Q) hret (cpS_t (by assumption)) (keep_all N hK' (by k_asm) (by k_asm) (by first | (intro _ h; cases h; done) | kcj_all))
    · exact ret_str (Q := Q) hret (cpS_f (by assumption)) (keep_all N hK' (by k_asm) (by k_asm) (by first | (intro _ h; cases h; done) | kcj_all))
end

def baseS (x : Str) : Str := Txt.slice x (some (Txt.rfind x (Str.ofString "/") + 1)) none
def headS (x : Str) : Str := Txt.slice x none (some (Txt.rfind x (Str.ofString "/") + 1))
def dirS (x : Str) : Str := if (headS x).length ≠ 0 ∧ (headS x != Txt.mul (Str.ofString "/") ((headS x).length : Int)) = true then Txt.rstripChars (headS x) (Str.ofString "/") else headS x
set_option maxHeartbeats 8000000 in
theorem basename_c (w : World) (x : Str) (t1 : Tok) (hx : x.length ≤ 4096) : Tells w 122 8 60 [] [.str x t1] (RetV fun t => .str (baseS x) t) := by
  first | unfold Tells | unfold TellsN
  k_fill
  intro mean mg mb dp un gd cn cs a ccd cl outer A₀ base h₀ L m s Q E B F X N T hk hdp hun hret
  refine wpAny_call ?_
  k_dflt (refine' enter_own ?k1 ?k2 ?k3 ?k4 ?k5 ?kA ?kF ?kK ?k6 ?k7 ?k8 ?k9 ?kB ?_ ?c2 ?c3 ?c4 ?c5; (case kA => exact rfl); (case kF => exact rfl); (case kK => assumption); (case k1 => k_asm); (case k2 => k_asm); (case k3 => k_asm); (case k4 => k_asm); (case k5 => k_asm); (case k6 => k_is); (case k7 => k_is); (case k8 => ktr_room); (case k9 => exact BindsTo.of_eq rfl); (case c5 => decide); (case kB => exact locs rfl); (case c2 => exact rfl); (case c3 => exact rfl); (case c4 => exact rfl); k_whole; intro g' L' h' hK' FG' F' N' B' X' T'; (try dsimp only); (try k_lift B'); (try k_fold))
  k_steps
  all_goals exact hret _ _ _ (keep_all N hK' (by k_asm) (by k_asm) (by first | (intro _ h; cases h; done) | kcj_all))
local macro_rules | `(tactic| walk_at "call ref") => `(tactic| (k_here; (with_reducible show wpAny _ _ (call (Value.ref 122) [Value.str _ _]) _ _ _); k_dflt (refine' Tells.use (basename_c _ _ _ ?kx) ?k1 ?k2 ?k3 ?k4 ?k5 ?kK ?kd ?ku ?_; (case k1 => k_asm); (case k2 => k_asm); (case k3 => k_asm); (case k4 => first | exact News.nil | exact news_sub (by k_asm) (by kcj_all)); (case k5 => k_asm); (case kK => first | exact rfl | assumption); (case kd => ktr_room); (case ku => ktr_units); (case kx => first | assumption | omega); k_whole; intro t9 h9 tk9 kp9; (have F9 := fr_stays (by k_asm) kp9); (have N9 := news_stays (by k_asm) kp9); clear kp9; (try dsimp only); (try k_fold))))
set_option maxHeartbeats 8000000 in
theorem dirname_c (w : World) (x : Str) (t1 : Tok) (hx : x.length ≤ 4096) : Tells w 129 8 60 [] [.str x t1] (RetV fun t => .str (dirS x) t) := by
  first | unfold Tells | unfold TellsN
  k_fill
  intro mean mg mb dp un gd cn cs a ccd cl outer A₀ base h₀ L m s Q E B F X N T hk hdp hun hret
  refine wpAny_call ?_
  k_dflt (refine' enter_own ?k1 ?k2 ?k3 ?k4 ?k5 ?kA ?kF ?kK ?k6 ?k7 ?k8 ?k9 ?kB ?_ ?c2 ?c3 ?c4 ?c5; (case kA => exact rfl); (case kF => exact rfl); (case kK => assumption); (case k1 => k_asm); (case k2 => k_asm); (case k3 => k_asm); (case k4 => k_asm); (case k5 => k_asm); (case k6 => k_is); (case k7 => k_is); (case k8 => ktr_room); (case k9 => exact BindsTo.of_eq rfl); (case c5 => decide); (case kB => exact locs rfl); (case c2 => exact rfl); (case c3 => exact rfl); (case c4 => exact rfl); k_whole; intro g' L' h' hK' FG' F' N' B' X' T'; (try dsimp only); (try k_lift B'); (try k_fold))
  k_steps
  all_goals refine ret_str (Q := Q) hret ?_ (keep_all N hK' (by k_asm) (by k_asm) (by first | (intro _ h; cases h; done) | kcj_all))
  · have h1 : (headS x).length ≠ 0 := by show (Txt.slice x none (some (Txt.rfind x (Str.ofString "/") + 1))).length ≠ 0; omega
    exact (if_pos ⟨h1, by assumption⟩).symm
  · refine (if_neg fun h => ?_).symm
    have h2 : (headS x != Txt.mul (Str.ofString "/") ((headS x).length : Int)) = false := by assumption
    rw [h2] at h
    exact absurd h.2 (by decide)
  · refine (if_neg fun h => h.1 ?_).symm
    show (Txt.slice x none (some (Txt.rfind x (Str.ofString "/") + 1))).length = 0
    omega
local macro_rules | `(tactic| walk_at "call ref") => `(tactic| (k_here; (with_reducible show wpAny _ _ (call (Value.ref 129) [Value.str _ _]) _ _ _); k_dflt (refine' Tells.use (dirname_c _ _ _ ?kx) ?k1 ?k2 ?k3 ?k4 ?k5 ?kK ?kd ?ku ?_; (case k1 => k_asm); (case k2 => k_asm); (case k3 => k_asm); (case k4 => first | exact News.nil | exact news_sub (by k_asm) (by kcj_all)); (case k5 => k_asm); (case kK => first | exact rfl | assumption); (case kd => ktr_room); (case ku => ktr_units); (case kx => first | assumption | omega); k_whole; intro t9 h9 tk9 kp9; (have F9 := fr_stays (by k_asm) kp9); (have N9 := news_stays (by k_asm) kp9); clear kp9; (try dsimp only); (try k_fold))))

theorem len_slice_le (x : Str) (a b : Option Int) : (Txt.slice x a b).length ≤ x.length := Txt.slice_le x a b
theorem dirS_len (x : Str) : (dirS x).length ≤ x.length := by
  unfold dirS
  have h1 : (headS x).length ≤ x.length := len_slice_le x _ _
  split
  · exact Nat.le_trans (len_rstripChars _ _) h1
  · exact h1
/-- one turn of _law_names -/
def nameStep (st : Str) (q : List Str × Str) : List Str × Str := if (q.2 != st) = true then (q.1 ++ [baseS q.2], dirS q.2) else q
def namesN (st : Str) : Nat → List Str × Str → List Str × Str
  | 0, q => q
  | k + 1, q => nameStep st (namesN st k q)
/-- a new list of texts comes back -/
abbrev RetL (xs : List Str) : Shared → (Value → Shared → Prop) → Prop :=
  fun s Q => ∀ (D : Addr) (vs : List Value) (h' : Heap) (tk' : Nat), s.heap.StaysIn h' → s.heap.get? D = none → h'.get? D = some (lstO vs) → StrsAre vs xs → Q (.ref D) { s with heap := h', toks := tk' }
def nameM (m0 : Str → Option Value) (sv : Option Value) (D : Addr) (y : Str) (ty : Tok) : Str → Option Value := fun z =>
  if z = Str.ofString "step" then sv else if z = Str.ofString "way" then some (.str y ty) else if z = Str.ofString "names" then some (.ref D) else m0 z
def nameJ (st : Str) (D : Addr) (q : List Str × Str) (m0 : Str → Option Value) (i : Nat) (m : Str → Option Value) (news : List (Addr × Obj)) : Prop :=
  ∃ vs n, news = [(D, { cls := .type "list", data := .seq (List.toArray vs) n })] ∧ ∃ sv ns y ty, m = nameM m0 sv D y ty ∧ StrsAre vs ns ∧ (ns, y) = namesN st i q ∧ y.length ≤ 4096 ∧ vs.length ≤ i
theorem strs_snoc {vs : List Value} {xs : List Str} (h : StrsAre vs xs) (y : Str) (t : Tok) : StrsAre (vs ++ [.str y t]) (xs ++ [y]) := by
  induction h with
  | nil => exact .cons y t .nil
  | cons x u _ ih => exact .cons x u ih
theorem strs_reverse {vs : List Value} {xs : List Str} (h : StrsAre vs xs) : StrsAre vs.reverse xs.reverse := by
  induction h with
  | nil => exact .nil
  | cons x u _ ih => rw [List.reverse_cons, List.reverse_cons]; exact strs_snoc ih x u
theorem led_push (D : Addr) (vs : List Value) (v : Value) (n : Nat) : [(D, W.listOf (vs.toArray.push v) n)] = [(D, ({ cls := .type "list", data := .seq (vs ++ [v]).toArray n } : Obj))] := by
  rw [List.push_toArray]
theorem nameM_1 (m0 : Str → Option Value) (sv : Option Value) (D : Addr) (y : Str) (ty : Tok) (x : Value) (y' : Str) (t' : Tok) :
    (fun z => if z = Str.ofString "way" then some (Value.str y' t') else if z = Str.ofString "step" then some x else nameM m0 sv D y ty z) = nameM m0 (some x) D y' t' := by
  funext z
  unfold nameM
  repeat' split
  all_goals (first | rfl | (subst z; first | exact absurd ‹_› (by decide) | rfl))
theorem nameM_0 (m0 : Str → Option Value) (sv : Option Value) (D : Addr) (y : Str) (ty : Tok) (x : Value) :
    (fun z => if z = Str.ofString "step" then some x else nameM m0 sv D y ty z) = nameM m0 (some x) D y ty := by
  funext z
  unfold nameM
  repeat' split
  all_goals (first | rfl | (subst z; first | exact absurd ‹_› (by decide) | rfl))
set_option maxHeartbeats 8000000 in
theorem names_c (w : World) (x st : Str) (t1 t2 : Tok) (hx : x.length ≤ 4096) : Tells w 197 10 70 [] [.str x t1, .str st t2] (RetL (namesN st 8 ([], x)).1.reverse) := by
  first | unfold Tells | unfold TellsN
  k_fill
  intro mean mg mb dp un gd cn cs a ccd cl outer A₀ base h₀ L m s Q E B F X N T hk hdp hun hret
  refine wpAny_call ?_
  k_dflt (refine' enter_own (binds := [(Str.ofString "way", .str x t1), (Str.ofString "start", .str st t2)]) ?k1 ?k2 ?k3 ?k4 ?k5 ?kA ?kF ?kK ?k6 ?k7 ?k8 ?k9 ?kB ?_ ?c2 ?c3 ?c4 ?c5; (case kA => exact rfl); (case kF => exact rfl); (case kK => assumption); (case k1 => k_asm); (case k2 => k_asm); (case k3 => k_asm); (case k4 => k_asm); (case k5 => k_asm); (case k6 => k_is); (case k7 => k_is); (case k8 => ktr_room); (case k9 => exact BindsTo.of_eq rfl); (case c5 => decide); (case kB => exact locs rfl); (case c2 => exact rfl); (case c3 => exact rfl); (case c4 => exact rfl); k_whole; intro g' L' h' hK' FG' F' N' B' X' T'; (try dsimp only); (try k_lift B'); (try k_fold))
  repeat' ((fail_if_success (with_reducible show RangeRest _ _ _ _ _ _ _ _ _ _ _ _ _ _ _ _ _)); (first | (k_unfold; (try dsimp only)) | walk1 | (dsimp only; walk1)))
  rename_i D7 _ _ _ _ _ _ _ _ _ _ _ _ I7 hlt7
  refine range_fold (nameJ st D7 ([], x) (fun y => List.lookup y [(Str.ofString "way", Value.str x t1), (Str.ofString "start", Value.str st t2)].reverse)) _ _ _ _ ?_ ?_ ?_
  · refine ⟨[], _, rfl, none, [], x, t1, ?_, .nil, rfl, hx, by simp⟩
    funext z
    unfold nameM
    repeat' split
    all_goals (first | rfl | (subst z; first | exact absurd ‹_› (by decide) | rfl))
  · rintro j m' news' _ hj ⟨vs, n, rfl, sv, ns, y, ty, rfl, hv, hw, hl, hvl⟩ t h tk F N
    k_steps
    · refine ⟨vs ++ [_], n + 1, led_push _ _ _ _, _, ns ++ [baseS y], dirS y, _, nameM_1 _ _ _ _ _ _ _ _, strs_snoc hv _ _, ?_, Nat.le_trans (dirS_len y) hl, ?_⟩
      · show _ = nameStep st (namesN st j ([], x))
        rw [← hw]
        simp only [nameStep]
        rw [if_pos (by assumption)]
      · simp only [List.length_append, List.length_cons, List.length_nil]; omega
    · refine ⟨vs, n, rfl, _, ns, y, _, nameM_0 _ _ _ _ _ _, hv, ?_, hl, by omega⟩
      show _ = nameStep st (namesN st j ([], x))
      rw [← hw]
      simp only [nameStep]
      have hq : (y != st) = false := by assumption
      rw [if_neg (by rw [hq]; decide)]
  · rintro m' news' ⟨vs, n, rfl, sv, ns, y, ty, rfl, hv, hw, hl, hvl⟩ h tk F2 N2
    k_steps
    rename News _ _ _ _ => NN
    have e := NN _ (List.Mem.head _)
    have e1 := e.1
    rw [krv_pick] at e1
    refine hret _ vs.reverse _ _ (keep_all N hK' (by k_asm) (by k_asm) (by first | (intro _ h; cases h; done) | kcj_all)) ?_ e1 ?_
    · cases q : s.heap.get? (h.objs.size + 1) with
      | none => rfl
      | some o => exact absurd (Nat.lt_trans (Nat.lt_trans (Nat.lt_of_lt_of_le (Heap.lt_size (hK' _ _ q (fun h => nomatch h))) F2.above) F2.ns.lt) (Nat.lt_succ_self _)) (Nat.lt_irrefl _)
    · rw [show (namesN st 8 ([], x)).1 = ns from (congrArg Prod.fst hw).symm]
      exact strs_reverse hv

/-- a contract whose result may be a new object -/
def TellsN (w : World) (f : Addr) (d u : Nat) (own : List (Addr × Obj)) (vs : List Value) (ret : Heap → Addr → Shared → (Value → Shared → Prop) → Prop) : Prop :=
  ∀ (mean : ExcName → Option Value) (mg mb : Str → Option Value) (dp un : Nat) (gd : Option (List Code)) (cn : Str) (cs : Scope) (a : Addr) (ccd : Value) (cl : List (Str × Addr)) (outer : List Env) (A₀ : Around) (base h₀ : Heap) (L : Addr) (m : Str → Option Value) (s : Shared) (Q E : Value → Shared → Prop),
    Below A₀ base outer h₀ → Fr h₀ L s.heap m → (hd.heap_39 w.params).In h₀ → News h₀ L s.heap own → Top lawQ (looseW lawQ []) mean mg mb h₀ → cs.kind = .function → dp + d < recursionLimit → un + u < cLine →
    ret h₀ L s Q → wpAny (model PySem.Challenge.rw_pd0131_01.row.prog w) (ktrTop dp un gd cn cs L a ccd cl outer) (call (.ref f) vs) Q E s
abbrev tup2I (a b : Int) (t u : Tok) : Obj := { cls := .type "tuple", data := .seq #[.int a t, .int b u] }
/-- a new pair of ints comes back -/
abbrev RetP (a b : Int) : Heap → Addr → Shared → (Value → Shared → Prop) → Prop :=
  fun h₀ L s Q => ∀ (D : Addr) (t u : Tok) (h' : Heap) (tk' : Nat), s.heap.StaysIn h' → News h₀ L h' [(D, tup2I a b t u)] → Q (.ref D) { s with heap := h', toks := tk' }
section
variable {w : World} {f : Addr} {d u : Nat} {own : List (Addr × Obj)} {vs : List Value} {ret : Heap → Addr → Shared → (Value → Shared → Prop) → Prop} {mean : ExcName → Option Value} {mg mb : Str → Option Value} {dp un : Nat} {gd : Option (List Code)} {cn : Str} {cs : Scope} {a : Addr} {ccd : Value} {cl : List (Str × Addr)} {outer : List Env} {A₀ : Around} {base h₀ : Heap} {L : Addr} {m : Str → Option Value} {s : Shared} {Q E : Value → Shared → Prop}
theorem TellsN.use (C : TellsN w f d u own vs ret) (B : Below A₀ base outer h₀) (F : Fr h₀ L s.heap m) (X : (hd.heap_39 w.params).In h₀) (N : News h₀ L s.heap own) (T : Top lawQ (looseW lawQ []) mean mg mb h₀) (hk : cs.kind = .function) (hdp : dp + d < recursionLimit) (hun : un + u < cLine)
    (hr : ret h₀ L s Q) : wpAny (model PySem.Challenge.rw_pd0131_01.row.prog w) (ktrTop dp un gd cn cs L a ccd cl outer) (call (.ref f) vs) Q E s := C _ _ _ _ _ _ _ _ _ _ _ _ _ _ _ _ _ _ _ _ B F X N T hk hdp hun hr
end
theorem off_cls {h₀ h : Heap} {L : Addr} {its news : List (Addr × Obj)} (N : News h₀ L h (its ++ news)) (hc : ∀ p ∈ news, ∀ q ∈ its, p.2.cls ≠ q.2.cls) : ∀ p ∈ news, ∀ q ∈ its, p.1 ≠ q.1 := fun p hp q hq e => by
  have h1 := (N p (List.mem_append_right _ hp)).1
  have h2 := (N q (List.mem_append_left _ hq)).1
  rw [e, h2] at h1
  exact hc p hp q hq (congrArg Obj.cls (Option.some.inj h1)).symm
section
variable {prog : Program} {w : World} {A : Around} {E : Value → Shared → Prop} {s : Shared} {env : Env} {h₀ : Heap} {body : List Stmt} {Q : Flow → Shared → Prop} {target : Expr}
/-- a list's loop by what holds between its turns -/
theorem list_foldT {I : Addr} {keep : List (Addr × Obj)} (J : List Value → List Value → (Str → Option Value) → List (Addr × Obj) → Prop) :
    ∀ (r p : List Value) (m : Str → Option Value) (news : List (Addr × Obj)), J p r m news →
      (∀ p v r m news, J p (v :: r) m news → ∀ h tk (o : Obj), o.cls = .type "list_iterator" → Fr h₀ env.locals h m → News h₀ env.locals h ((I, o) :: news) →
        wpAny (model prog w) A (assign target env v) (fun _ s₂ => wpAny (model prog w) A (execs body env) (UnrPostW h₀ env.locals { s with heap := h, toks := tk } [(I, o)] (fun m' n' => SubL keep n' ∧ J (p ++ [v]) r m' n') Q) E s₂) E { s with heap := h, toks := tk }) →
      (∀ p m news, J p [] m news → ∀ h tk, Fr h₀ env.locals h m → News h₀ env.locals h news → Q .next { s with heap := h, toks := tk }) →
      ItemsRest prog w A E h₀ env target body Q s [(I, "list_iterator")] keep (r.map .val) m news
  | [], p, m, news, hJ, _, fin => ItemsRest.zero fun h tk F N => fin p m news hJ h tk F N
  | v :: r, p, m, news, hJ, step, fin => ItemsRest.val fun h tk F => fun o c N =>
    wpAny_mono (step p v r m news hJ h tk o c F N) (fun _ _ q => wpAny_mono q (fun _ _ x => unrPostW_mono (fun m' n' hJ' => ⟨hJ'.1, list_foldT J r (p ++ [v]) m' n' hJ'.2 step fin⟩) x) fun _ _ e => e) fun _ _ e => e
end

/-- one turn of _law_told: left, right, told -/
def toldStep (q : (Int × Int) × (Int × Int) × (Int × Int)) (x : Str) : (Int × Int) × (Int × Int) × (Int × Int) :=
  if (x == Str.ofString "l") = true then (q.1, q.2.2, (q.1.1 + q.2.2.1, q.1.2 + q.2.2.2)) else (q.2.2, q.2.1, (q.2.2.1 + q.2.1.1, q.2.2.2 + q.2.1.2))
def toldOf (xs : List Str) : (Int × Int) × (Int × Int) × (Int × Int) := xs.foldl toldStep ((0, 1), (1, 0), (1, 1))
def toldM (m0 : Str → Option Value) (nv : Option Value) (al ar at' : Addr) : Str → Option Value := fun z =>
  if z = Str.ofString "name" then nv else if z = Str.ofString "left" then some (.ref al) else if z = Str.ofString "right" then some (.ref ar) else if z = Str.ofString "told" then some (.ref at') else m0 z
theorem toldM_r (m0 : Str → Option Value) (nv : Option Value) (al ar at' D : Addr) (v : Value) :
    (fun y => if y = Str.ofString "told" then some (Value.ref D) else if y = Str.ofString "right" then some (Value.ref at') else if y = Str.ofString "name" then some v else toldM m0 nv al ar at' y) = toldM m0 (some v) al at' D := by
  funext z
  unfold toldM
  repeat' split
  all_goals (first | rfl | (subst z; first | exact absurd ‹_› (by decide) | rfl))
theorem toldM_l (m0 : Str → Option Value) (nv : Option Value) (al ar at' D : Addr) (v : Value) :
    (fun y => if y = Str.ofString "told" then some (Value.ref D) else if y = Str.ofString "left" then some (Value.ref at') else if y = Str.ofString "name" then some v else toldM m0 nv al ar at' y) = toldM m0 (some v) at' ar D := by
  funext z
  unfold toldM
  repeat' split
  all_goals (first | rfl | (subst z; first | exact absurd ‹_› (by decide) | rfl))
theorem sub_r {α : Type} (a b c d e : α) : ∀ p ∈ [a, b, d, e], p ∈ [a, b, c, d, e] := by
  intro p hp
  simp only [List.mem_cons, List.not_mem_nil, or_false] at hp ⊢
  rcases hp with h | h | h | h <;> simp [h]
theorem sub_l {α : Type} (a b c d e : α) : ∀ p ∈ [a, c, b, e], p ∈ [a, b, c, d, e] := by
  intro p hp
  simp only [List.mem_cons, List.not_mem_nil, or_false] at hp ⊢
  rcases hp with h | h | h | h <;> simp [h]
def toldJ (na : Addr) (vs : List Value) (xs : List Str) (m0 : Str → Option Value) (p r : List Value) (m : Str → Option Value) (news : List (Addr × Obj)) : Prop :=
  ∃ nv al ar at' l1 l2 r1 r2 q1 q2 t1 t2 t3 t4 t5 t6, (∀ p ∈ [(at', tup2I q1 q2 t5 t6), (ar, tup2I r1 r2 t3 t4), (al, tup2I l1 l2 t1 t2), (na, lstO vs)], p ∈ news) ∧ m = toldM m0 nv al ar at' ∧
    vs = p ++ r ∧ ((l1, l2), (r1, r2), (q1, q2)) = toldOf (xs.take p.length)
set_option maxHeartbeats 8000000 in
theorem told_c (w : World) (vs : List Value) (xs : List Str) (na : Addr) (hv : StrsAre vs xs) :
    TellsN w 204 10 70 [(na, lstO vs)] [.ref na] (RetP (toldOf xs).2.2.1 (toldOf xs).2.2.2) := by
  first | unfold Tells | unfold TellsN
  k_fill
  intro mean mg mb dp un gd cn cs a ccd cl outer A₀ base h₀ L m s Q E B F X N T hk hdp hun hret
  refine wpAny_call ?_
  k_dflt (refine' enter_own (binds := [(Str.ofString "names", .ref na)]) ?k1 ?k2 ?k3 ?k4 ?k5 ?kA ?kF ?kK ?k6 ?k7 ?k8 ?k9 ?kB ?_ ?c2 ?c3 ?c4 ?c5; (case kA => exact rfl); (case kF => exact rfl); (case kK => assumption); (case k1 => k_asm); (case k2 => k_asm); (case k3 => k_asm); (case k4 => k_asm); (case k5 => k_asm); (case k6 => k_is); (case k7 => k_is); (case k8 => ktr_room); (case k9 => exact BindsTo.of_eq rfl); (case c5 => decide); (case kB => exact locs rfl); (case c2 => exact rfl); (case c3 => exact rfl); (case c4 => exact rfl); k_whole; intro g' L' h' hK' FG' F' N' B' X' T'; (try dsimp only); (try k_lift B'); (try k_fold))
  repeat' ((fail_if_success (with_reducible show wpAny _ _ (exec (Stmt.For _ _ _ _ _) _) _ _ _)); (first | (k_unfold; (try dsimp only)) | walk1 | (dsimp only; walk1)))
  (k_here; (rename Fr _ _ _ _ => lF'); (with_unfolding_all refine' For_turns lF' ?_; k_whole))
  repeat' ((fail_if_success (with_reducible show wpAny _ _ (pyIter _) _ _ _)); (first | (k_unfold; (try dsimp only)) | walk1 | (dsimp only; walk1)))
  k_dflt (refine' iter_listTurns (vs := vs) (lo := lstO vs) ?tth ?ttF ?ttN ?ttm rfl rfl ?ttr)
  (case tth => rfl)
  (case ttF => k_asm)
  (case ttN => k_asm)
  (case ttm => k_mem)
  intro I9 hI9
  refine list_foldT (toldJ na vs xs (fun y => List.lookup y [(Str.ofString "names", Value.ref na)].reverse)) vs [] _ _ ?_ ?_ ?_
  · refine ⟨none, _, _, _, 0, 1, 1, 0, 1, 1, _, _, _, _, _, _, fun p hp => hp, ?_, rfl, rfl⟩
    funext z
    unfold toldM
    repeat' split
    all_goals (first | rfl | (subst z; first | exact absurd ‹_› (by decide) | rfl))
  · rintro p v r m news ⟨nv, al, ar, at', l1, l2, r1, r2, q1, q2, t1, t2, t3, t4, t5, t6, hsub, rfl, hvs, hq⟩ h tk o ho F9 N9'
    have N9 : News _ _ _ ((I9, o) :: [(at', tup2I q1 q2 t5 t6), (ar, tup2I r1 r2 t3 t4), (al, tup2I l1 l2 t1 t2), (na, lstO vs)]) := news_sub N9' fun p hp => (List.mem_cons.mp hp).elim (fun e => e ▸ .head _) fun hp => .tail _ (hsub p hp)
    clear N9' hsub
    have hpl : p.length < vs.length := by rw [hvs]; simp
    obtain ⟨x, tx, hx, hx'⟩ := strs_at hv hpl
    have ev : v = .str x tx := by rw [hvs] at hx'; simpa using hx'
    subst ev
    have ht : xs.take (p ++ [Value.str x tx]).length = xs.take p.length ++ [x] := by rw [List.length_append, List.length_singleton, List.take_add_one, hx]; rfl
    k_steps
    · refine ⟨some (.str x tx), al, at', _, l1, l2, q1, q2, l1 + q1, l2 + q2, t1, t2, t5, t6, _, _, sub_r _ _ _ _ _, toldM_r _ _ _ _ _ _ _, by rw [hvs]; simp, ?_⟩
      · rw [ht, toldOf, List.foldl_append, List.foldl_cons, List.foldl_nil]
        show _ = toldStep (toldOf (xs.take p.length)) x
        rw [← hq, toldStep, if_pos (by assumption)]
    · refine ⟨some (.str x tx), at', ar, _, q1, q2, r1, r2, q1 + r1, q2 + r2, t5, t6, t3, t4, _, _, sub_l _ _ _ _ _, toldM_l _ _ _ _ _ _ _, by rw [hvs]; simp, ?_⟩
      · rw [ht, toldOf, List.foldl_append, List.foldl_cons, List.foldl_nil]
        show _ = toldStep (toldOf (xs.take p.length)) x
        have hne : (x == Str.ofString "l") = false := by assumption
        rw [← hq, toldStep, if_neg (by rw [hne]; decide)]
  · rintro p m news ⟨nv, al, ar, at', l1, l2, r1, r2, q1, q2, t1, t2, t3, t4, t5, t6, hsub, rfl, hvs, hq⟩ h tk F9 N9'
    have N9 := news_sub N9' hsub
    clear N9' hsub
    k_steps
    have e : p.length = xs.length := by rw [← hv.length, hvs]; simp
    rw [e, List.take_length] at hq
    rw [← hq] at hret
    rename News _ _ _ _ => NN
    exact hret _ _ _ _ _ (keep_all N hK' (by k_asm) (by k_asm) (by first | (intro _ h; cases h; done) | kcj_all)) (news_sub NN fun q hq => by rw [List.mem_singleton.mp hq]; exact .head _)

def upperAt (a b k : Int) : Int := -(Int.fdiv (-(a * k)) b)
def simpFrom (a b c d : Int) : Nat → Int → Int × Int
  | 0, _ => (0, 0)
  | n + 1, k => if c * k < upperAt a b k * d then simpFrom a b c d n (k + 1) else (upperAt a b k, k)
theorem upperAt_le {a b k : Int} (ha : 1 ≤ a ∧ a ≤ 9) (hb : 1 ≤ b ∧ b ≤ 9) (hk : 1 ≤ k ∧ k ≤ 9) : (-1000 ≤ -(a * k) ∧ -(a * k) ≤ 1000) ∧ (-1000 ≤ upperAt a b k ∧ upperAt a b k ≤ 1000) := by
  have h1 : 0 ≤ a * k := Int.mul_nonneg (by omega) (by omega)
  have h2 : a * k ≤ 9 * 9 := Int.mul_le_mul ha.2 hk.2 (by omega) (by decide)
  have h3 : -81 ≤ (-(a * k)) / b := (Int.le_ediv_iff_mul_le (by omega)).mpr (by omega)
  have h4 : (-(a * k)) / b < 1 := (Int.ediv_lt_iff_lt_mul (by omega)).mpr (by omega)
  unfold upperAt
  rw [Int.fdiv_eq_ediv_of_nonneg _ (by omega)]
  omega
def simpM (m0 : Str → Option Value) (lv uv : Option Value) : Str → Option Value := fun z =>
  if z = Str.ofString "upper" then uv else if z = Str.ofString "lower" then lv else m0 z
theorem simpM_0 (m0 : Str → Option Value) : simpM m0 (m0 (Str.ofString "lower")) (m0 (Str.ofString "upper")) = m0 := by
  funext z
  unfold simpM
  repeat' split
  all_goals (first | rfl | (subst z; first | exact absurd ‹_› (by decide) | rfl))
theorem simpM_1 (m0 : Str → Option Value) (lv uv a b : Option Value) : (fun z => if z = Str.ofString "upper" then a else if z = Str.ofString "lower" then b else simpM m0 lv uv z) = simpM m0 b a := by
  funext z
  unfold simpM
  repeat' split
  all_goals (first | rfl | (subst z; first | exact absurd ‹_› (by decide) | rfl))
def simpJ (own : List (Addr × Obj)) (a b c d : Int) (m0 : Str → Option Value) (i : Nat) (m : Str → Option Value) (news : List (Addr × Obj)) : Prop :=
  news = own ∧ (∃ lv uv, m = simpM m0 lv uv) ∧ simpFrom a b c d 9 1 = simpFrom a b c d (9 - i) (1 + (i : Int))
set_option maxHeartbeats 8000000 in
theorem simplest_c (w : World) (xa b c d : Int) (t1 t2 t3 t4 : Tok) (na nb : Addr) (ha : 1 ≤ xa ∧ xa ≤ 9) (hb : 1 ≤ b ∧ b ≤ 9) (hc : 1 ≤ c ∧ c ≤ 9) (hdd : 1 ≤ d ∧ d ≤ 9) :
    TellsN w 190 10 70 [(na, tup2I xa b t1 t2), (nb, tup2I c d t3 t4)] [.ref na, .ref nb] (RetP (simpFrom xa b c d 9 1).1 (simpFrom xa b c d 9 1).2) := by
  first | unfold Tells | unfold TellsN
  k_fill
  intro mean mg mb dp un gd cn cs a ccd cl outer A₀ base h₀ L m s Q E B F X N T hk hdp hun hret
  refine wpAny_call ?_
  k_dflt (refine' enter_own (binds := [(Str.ofString "low", .ref na), (Str.ofString "high", .ref nb)]) ?k1 ?k2 ?k3 ?k4 ?k5 ?kA ?kF ?kK ?k6 ?k7 ?k8 ?k9 ?kB ?_ ?c2 ?c3 ?c4 ?c5; (case kA => exact rfl); (case kF => exact rfl); (case kK => assumption); (case k1 => k_asm); (case k2 => k_asm); (case k3 => k_asm); (case k4 => k_asm); (case k5 => k_asm); (case k6 => k_is); (case k7 => k_is); (case k8 => ktr_room); (case k9 => exact BindsTo.of_eq rfl); (case c5 => decide); (case kB => exact locs rfl); (case c2 => exact rfl); (case c3 => exact rfl); (case c4 => exact rfl); k_whole; intro g' L' h' hK' FG' F' N' B' X' T'; (try dsimp only); (try k_lift B'); (try k_fold))
  repeat' ((fail_if_success (with_reducible show wpAny _ _ (pyIter _) _ _ _)); (first | (k_unfold; (try dsimp only)) | walk1 | (dsimp only; walk1)))
  ((rename Fr _ _ _ _ => lF'); (rename News _ _ _ _ => lN'); (rename IsRange _ _ _ _ _ _ _ _ => rgX); (with_unfolding_all refine iter_rangeUnr (n := 9) (by rfl) rgX (by first | decide | rfl) (by first | decide | rfl) lF' lN' ?_); clear lF' lN'; intro i' l1)
  (try dsimp only)
  refine range_fold (simpJ [(na, tup2I xa b t1 t2), (nb, tup2I c d t3 t4)] xa b c d (fun y => List.lookup y [(Str.ofString "low", Value.ref na), (Str.ofString "high", Value.ref nb)].reverse)) _ _ _ _ ?_ ?_ ?_
  · exact ⟨rfl, ⟨none, none, (simpM_0 _).symm⟩, rfl⟩
  · rintro j m' news' _ hj ⟨rfl, ⟨lv, uv, rfl⟩, hs⟩ t h tk F9 N9
    have hk1 : 1 ≤ (1 : Int) + (j : Int) ∧ (1 : Int) + (j : Int) ≤ 9 := by omega
    obtain ⟨hk2, hk3⟩ := upperAt_le ha hb hk1
    have hk4 : -1000 ≤ -(Int.fdiv (-(xa * (1 + (j : Int)))) b) ∧ -(Int.fdiv (-(xa * (1 + (j : Int)))) b) ≤ 1000 := hk3
    have hs2 : simpFrom xa b c d 9 1 = if c * (1 + (j : Int)) < upperAt xa b (1 + (j : Int)) * d then simpFrom xa b c d (9 - (j + 1)) (1 + (j : Int) + 1) else (upperAt xa b (1 + (j : Int)), 1 + (j : Int)) := hs.trans (by rw [show 9 - j = (9 - (j + 1)) + 1 by omega]; rfl)
    k_steps
    · refine ⟨rfl, ⟨_, _, simpM_1 _ _ _ _ _⟩, ?_⟩
      rw [hs2, if_pos (show c * (1 + (j : Int)) < upperAt xa b (1 + (j : Int)) * d by assumption)]
      congr 1
    · rw [hs2, if_neg (show ¬ c * (1 + (j : Int)) < upperAt xa b (1 + (j : Int)) * d by assumption)] at hret
      rename News _ _ _ _ => NN
      exact hret _ _ _ _ _ (keep_all N hK' (by k_asm) (by k_asm) (by first | (intro _ h; cases h; done) | kcj_all)) (news_sub NN fun q hq => by rw [List.mem_singleton.mp hq]; exact .head _)
  · rintro m' news' ⟨rfl, ⟨lv, uv, rfl⟩, hs⟩ h tk F9 N9
    k_steps
    have hs2 : simpFrom xa b c d 9 1 = (0, 0) := hs
    rw [hs2] at hret
    rename News _ _ _ _ => NN
    exact hret _ _ _ _ _ (keep_all N hK' (by k_asm) (by k_asm) (by first | (intro _ h; cases h; done) | kcj_all)) (news_sub NN fun q hq => by rw [List.mem_singleton.mp hq]; exact .head _)

def namesOf (k : Int) : Str × Str := if k = 0 then (Str.ofString "l", Str.ofString "r") else if k = 1 then (Str.ofString "./l/", Str.ofString "r//") else (Str.ofString "l/.", Str.ofString ".//r")
def upOf (x : Int) : Int := Int.fmod x 9 + 1
def loOf (x : Int) : Int := Int.fmod (Int.fdiv x 9) 9 + 1
def wayS (st : Str) (x : Int) : Str := (wayN (namesOf (Int.fdiv x 81)).1 (namesOf (Int.fdiv x 81)).2 8 (upOf x, loOf x, st)).2.2
def absS (st : Str) (x : Int) : Bool := Txt.startswith (wayS st x) (Str.ofString "/")
def textS (st : Str) (x : Int) : Str := joinS (cpS (absS st x) [wayS st x]) (Str.ofString "m")
theorem wayN_len {n0 n1 : Str} (h0 : n0.length ≤ 4) (h1 : n1.length ≤ 4) (q : Int × Int × Str) : ∀ i, (wayN n0 n1 i q).2.2.length ≤ q.2.2.length + 5 * i
  | 0 => by simp [wayN]
  | i + 1 => by
    have ih := wayN_len h0 h1 q i
    have j0 := joinS_len (wayN n0 n1 i q).2.2 n0
    have j1 := joinS_len (wayN n0 n1 i q).2.2 n1
    simp only [wayN, wayStep]
    split
    · show (joinS _ _).length ≤ _; omega
    · split
      · show (joinS _ _).length ≤ _; omega
      · omega
theorem namesOf_len (k : Int) : (namesOf k).1.length ≤ 4 ∧ (namesOf k).2.length ≤ 4 := by
  unfold namesOf
  split
  · decide +kernel
  · split <;> decide +kernel
theorem wayS_len {st : Str} (h : st.length ≤ 1) (x : Int) : (wayS st x).length ≤ 41 := by
  have := wayN_len (namesOf_len (Int.fdiv x 81)).1 (namesOf_len (Int.fdiv x 81)).2 (upOf x, loOf x, st) 8
  unfold wayS
  simp only at this
  omega
theorem lcp2_take (a c : List Str) : ∃ i, lcp2 a c = a.take i := by
  induction a generalizing c with
  | nil => exact ⟨0, by simp [lcp2]⟩
  | cons x a ih =>
    cases c with
    | nil => exact ⟨0, by simp [lcp2]⟩
    | cons y c =>
      simp only [lcp2]
      split
      · obtain ⟨i, hi⟩ := ih c
        exact ⟨i + 1, by rw [hi, List.take_succ_cons]⟩
      · exact ⟨0, rfl⟩
theorem cpS_len {b : Bool} {xs : List Str} (hne : 0 < xs.length) (h : ∀ x ∈ xs, x.length ≤ 41) : (cpS b xs).length ≤ 4000 := by
  have hm : (strAt xs (minI xs)).length ≤ 41 := by
    have hi : minI xs < xs.length := Nat.lt_of_le_of_lt (argBest_le _ _) (by omega)
    rw [strAt, List.getD_eq_getElem?_getD, List.getElem?_eq_getElem hi]
    exact h _ (List.getElem_mem hi)
  have hc : ∀ c ∈ minC xs, c.length ≤ 41 := fun c hc => by
    have := split_len (List.mem_filter.mp hc).1
    omega
  have hn : (minC xs).length ≤ 43 := by
    have h1 := List.length_filter_le keepC (Txt.split (strAt xs (minI xs)) (Str.ofString "/"))
    have h2 := (fact_split (strAt xs (minI xs)) (Str.ofString "/")).2
    unfold minC compsOf
    omega
  obtain ⟨i, hi⟩ := lcp2_take (minC xs) (maxC xs)
  have hj : (Txt.join (Str.ofString "/") (lcp2 (minC xs) (maxC xs))).length ≤ 3000 := by
    show (Builtin.Str.glued (Str.ofString "/") _).length ≤ _
    rw [StrLaws.glued_eq_join, hi]
    refine Nat.le_trans (StrLaws.join_length_le _ _) ?_
    have h1 := sum_le_of (k := 41) (l := (minC xs).take i) fun c hx => hc c (List.mem_of_mem_take hx)
    have h2 : ((minC xs).take i).length ≤ 43 := by rw [List.length_take]; omega
    have h3 : ((minC xs).take i).length * 41 ≤ 43 * 41 := Nat.mul_le_mul_right _ h2
    have h5 : (Str.ofString "/").length = 1 := by decide
    rw [h5]
    omega
  unfold cpS
  have h1 : (Str.ofString "/").length = 1 := by decide +kernel
  have h0 : (Str.ofString "").length = 0 := by decide +kernel
  split <;> rw [Str.length_append] <;> omega

abbrev row3 (st : Str) (x : Int) (P : Addr) (t1 t2 : Tok) : Obj := { cls := .type "tuple", data := .seq #[.str (textS st x) t1, .ref P, .str (wayS st x) t2] }
/-- a row of the ledger, told by its number -/
def RowAt (st : Str) (objs : List (Addr × Obj)) (x : Int) (v : Value) : Prop :=
  ∃ R P t1 t2 t3 t4, v = .ref R ∧ (R, row3 st x P t1 t2) ∈ objs ∧ (P, tup2I (upOf x) (loOf x) t3 t4) ∈ objs
theorem RowAt.more {st : Str} {objs objs' : List (Addr × Obj)} {x : Int} {v : Value} (hs : ∀ p ∈ objs, p ∈ objs') (h : RowAt st objs x v) : RowAt st objs' x v := by
  obtain ⟨R, P, t1, t2, t3, t4, e, h1, h2⟩ := h
  exact ⟨R, P, t1, t2, t3, t4, e, hs _ h1, hs _ h2⟩
theorem paired_snoc {α β : Type} {F : α → β → Prop} {a : α} {b : β} (hab : F a b) : ∀ {l₁ : List α} {l₂ : List β}, Paired F l₁ l₂ → Paired F (l₁ ++ [a]) (l₂ ++ [b])
  | _, _, .nil => .cons hab .nil
  | _, _, .cons h t => .cons h (paired_snoc hab t)
def rowM (M : Str → Option Value) (vx vp vn vw : Option Value) : Str → Option Value := fun z =>
  if z = Str.ofString "way" then vw else if z = Str.ofString "names" then vn else if z = Str.ofString "pair" then vp else if z = Str.ofString "x" then vx else M z
theorem rowM_0 (M : Str → Option Value) : rowM M (M (Str.ofString "x")) (M (Str.ofString "pair")) (M (Str.ofString "names")) (M (Str.ofString "way")) = M := by
  funext z
  unfold rowM
  repeat' split
  all_goals (first | rfl | (subst z; rfl))
theorem rowM_1 (M : Str → Option Value) (vx vp vn vw a b c d : Option Value) :
    (fun z => if z = Str.ofString "way" then d else if z = Str.ofString "names" then c else if z = Str.ofString "pair" then b else if z = Str.ofString "x" then a else rowM M vx vp vn vw z) = rowM M a b c d := by
  funext z
  unfold rowM
  repeat' split
  all_goals (first | rfl | (subst z; first | exact absurd ‹_› (by decide) | rfl))
section
variable {prog : Program} {w : World} {A : Around} {E : Value → Shared → Prop} {s : Shared} {env : Env} {h₀ : Heap} {body : List Stmt} {Q : Flow → Shared → Prop} {target : Expr}
/-- the loop that makes the rows -/
theorem rows_turns {aR aN : Addr} {ws : List Value} {ns : List Int} {rest : List (Addr × Obj)} {M0 : Str → Option Value} (st : Str) (hh : A.handled = none) (F : Fr h₀ env.locals s.heap M0)
    (N : News h₀ env.locals s.heap ((aR, listOf #[] 0) :: (aN, listOf ws.toArray 0) :: rest)) (hI : IntsAre ws ns) (hn : ns.length ≤ 4)
    (step : ∀ x tx rs n objs vx vp vn vw I o h tk, IntsAre ws ns → x ∈ ns → List.length rs ≤ 4 → (∀ q ∈ objs, (q : Addr × Obj).2.cls = .type "tuple") → (o : Obj).cls = .type "list_iterator" → Fr h₀ env.locals h (rowM M0 vx vp vn vw) →
      News h₀ env.locals h ((I, o) :: (aR, listOf (List.toArray rs) n) :: (aN, listOf ws.toArray 0) :: objs) →
      wpAny (model prog w) A (assign target env (.int x tx)) (fun _ s₂ => wpAny (model prog w) A (execs body env) (UnrPostW h₀ env.locals { s with heap := h, toks := tk } [(I, o)]
        (fun m' n' => ∃ R P t1 t2 t3 t4 n1 vx vp vn vw, m' = rowM M0 vx vp vn vw ∧ n' = ((aR, listOf (List.toArray (rs ++ [.ref R])) n1) :: (aN, listOf ws.toArray 0) :: (R, row3 st x P t1 t2) :: (P, tup2I (upOf x) (loOf x) t3 t4) :: objs)) Q) E s₂) E { s with heap := h, toks := tk })
    (fin : ∀ rs n objs vx vp vn vw h tk, (∀ q ∈ objs, (q : Addr × Obj).2.cls = .type "tuple") → Paired (RowAt st objs) ns rs → Fr h₀ env.locals h (rowM M0 vx vp vn vw) →
      News h₀ env.locals h ((aR, listOf (List.toArray rs) n) :: (aN, listOf ws.toArray 0) :: objs) → Q .next { s with heap := h, toks := tk }) :
    wpAny (model prog w) A (pyIter (.ref aN)) (fun it s₂ => TurnsAt prog w A h₀ env target body Q E it s₂) E s := by
  refine iter_listTurns (lo := listOf ws.toArray 0) hh F (news_sub (own := [(aR, listOf #[] 0), (aN, listOf ws.toArray 0)]) N fun p hp => ?_) (.tail _ (.head _)) rfl rfl fun I hlt => ?_
  · rcases List.mem_cons.mp hp with rfl | hp
    · exact .head _
    · rw [List.mem_singleton.mp hp]; exact .tail _ (.head _)
  have hl := hI.length
  refine list_foldT (fun p r m news => ws = p ++ r ∧ ∃ rs n objs vx vp vn vw, m = rowM M0 vx vp vn vw ∧ news = (aR, listOf (List.toArray rs) n) :: (aN, listOf ws.toArray 0) :: objs ∧ (∀ q ∈ objs, (q : Addr × Obj).2.cls = .type "tuple") ∧ Paired (RowAt st objs) (ns.take p.length) rs) ws [] M0 _
    ⟨rfl, [], 0, [], _, _, _, _, (rowM_0 M0).symm, rfl, fun _ h => (nomatch h), .nil⟩ ?_ ?_
  · rintro p v r m news ⟨hws, rs, n, objs, vx, vp, vn, vw, rfl, rfl, hc, hP⟩ h tk o ho F1 N1
    have hpl : p.length < ws.length := by rw [hws]; simp
    have hpn : p.length < ns.length := by omega
    have hv : ws[p.length]? = some v := by rw [hws]; simp
    obtain ⟨tx, rfl⟩ : ∃ tx, v = .int (ns[p.length]'hpn) tx := by
      obtain ⟨x, tx, rfl, e⟩ := hI.at p.length v hv
      rw [List.getElem?_eq_getElem hpn] at e
      exact ⟨tx, by rw [Option.some.inj e]⟩
    have hr := paired_len hP
    rw [List.length_take] at hr
    refine wpAny_mono (step (ns[p.length]'hpn) tx rs n objs vx vp vn vw I o h tk hI (List.getElem_mem _) (by omega) hc ho F1 N1) (fun _ _ q => wpAny_mono q (fun _ _ x => unrPostW_mono (fun m' n' hJ => ?_) x) fun _ _ e => e) fun _ _ e => e
    obtain ⟨R, P, t1, t2, t3, t4, n1, vx, vp, vn, vw, rfl, rfl⟩ := hJ
    refine ⟨⟨.tail _ (.head _), trivial⟩, by rw [hws]; simp, rs ++ [.ref R], n1, _, vx, vp, vn, vw, rfl, rfl, fun q hq => ?_, ?_⟩
    · rcases List.mem_cons.mp hq with rfl | hq
      · rfl
      rcases List.mem_cons.mp hq with rfl | hq
      · rfl
      · exact hc q hq
    · rw [List.length_append, List.length_singleton, List.take_add_one, List.getElem?_eq_getElem hpn]
      exact paired_snoc ⟨R, P, t1, t2, t3, t4, rfl, .head _, .tail _ (.head _)⟩ (hP.mono fun _ _ hr => hr.more fun _ hq => .tail _ (.tail _ hq))
  · rintro p m news ⟨hws, rs, n, objs, vx, vp, vn, vw, rfl, rfl, hc, hP⟩ h tk F1 N1
    rw [List.append_nil] at hws
    rw [← hws, hl, List.take_length] at hP
    exact fin rs n objs vx vp vn vw h tk hc hP F1 N1
end

theorem wayS_c (w : World) (x : Int) (st n0 n1 : Str) (t1 t2 t3 t4 t5 : Tok) (na : Addr) (hs : st.length ≤ 1) (hn : namesOf (Int.fdiv x 81) = (n0, n1)) :
    Tells w 183 8 60 [(na, tup2S n0 n1 t4 t5)] [.int (Int.fmod x 9 + 1) t1, .int (Int.fmod (Int.fdiv x 9) 9 + 1) t2, .str st t3, .ref na] (RetV fun t => .str (wayS st x) t) := by
  have h := namesOf_len (Int.fdiv x 81)
  rw [hn] at h
  have := way_c w (Int.fmod x 9 + 1) (Int.fmod (Int.fdiv x 9) 9 + 1) st n0 n1 t1 t2 t3 t4 t5 na hs h.1 h.2
  unfold wayS upOf loOf
  rw [hn]
  exact this
theorem fdiv81 {x : Int} (h0 : 0 ≤ x) (h1 : x ≤ 242) : Int.fdiv x 81 = 0 ∨ Int.fdiv x 81 = 1 ∨ Int.fdiv x 81 = 2 := by
  rw [Int.fdiv_eq_ediv_of_nonneg _ (by decide)]
  omega
theorem mem_numbers {x : Int} {l : List Int} (h : x ∈ l.map (fun k => Int.fmod k 243) ++ [35]) : 0 ≤ x ∧ x ≤ 242 := by
  rcases List.mem_append.mp h with h | h
  · obtain ⟨k, _, rfl⟩ := List.mem_map.mp h
    have h1 := Int.fmod_nonneg_of_pos k (b := 243) (by decide)
    have h2 := Int.fmod_lt_of_pos k (b := 243) (by decide)
    omega
  · rw [List.mem_singleton.mp h]; decide
theorem cp1_c (w : World) (st : Str) (x : Int) (t : Tok) (na : Addr) (hs : st.length ≤ 1) :
    Tells w 134 8 60 [(na, lstO [.str (wayS st x) t])] [.ref na] (RetV fun t => .str (cpS (absS st x) [wayS st x]) t) := by
  have hl := wayS_len hs x
  exact cp_c w [.str (wayS st x) t] (wayS st x) [] (absS st x) na 0 (.cons _ _ .nil) (by simp) (fun z hz => by rw [List.mem_singleton.mp hz]; omega) (fun z hz => by rw [List.mem_singleton.mp hz]; rfl)
section
variable {prog : Program} {w : World} {A : Around} {E : Value → Shared → Prop} {s : Shared} {h₀ : Heap} {L : Addr} {m : Str → Option Value}
theorem append_rows {aR aN R P I : Addr} {o : Obj} {rs ws : List Value} {n : Nat} {objs big : List (Addr × Obj)} {st : Str} {x : Int} {t1 t2 t3 t4 : Tok} {ns : List Int} {Q : Value → Shared → Prop} (_hw : IntsAre ws ns) (F : Fr h₀ L s.heap m) (N : News h₀ L s.heap big)
    (hs : ∀ p ∈ ((aR, listOf rs.toArray n) :: (I, o) :: (aN, listOf ws.toArray 0) :: (R, row3 st x P t1 t2) :: (P, tup2I (upOf x) (loOf x) t3 t4) :: objs), p ∈ big)
    (hc : ∀ q ∈ objs, (q : Addr × Obj).2.cls = .type "tuple") (ho : o.cls = .type "list_iterator") (hne : aN ≠ aR) (hrs : rs.length ≤ 4)
    (hQ : ∀ h', Fr h₀ L h' m → News h₀ L h' ((aR, listOf (List.toArray (rs ++ [Value.ref R])) (n + 1)) :: (I, o) :: (aN, listOf ws.toArray 0) :: (R, row3 st x P t1 t2) :: (P, tup2I (upOf x) (loOf x) t3 t4) :: objs) → Q .none { s with heap := h' }) :
    wpAny (model prog w) A (call (.builtin "list.append") [.ref aR, .ref R]) Q E s := by
  have N1 := news_sub N hs
  have off : ∀ p : Addr × Obj, p ∈ big → p.2.cls ≠ .type "list" → p.1 ≠ aR := fun p hp hcl e => by
    have h1 := (N p hp).1
    have h2 := (N _ (hs _ (.head _))).1
    rw [e, h2] at h1
    exact hcl (congrArg Obj.cls (Option.some.inj h1)).symm
  refine append_K F N1 (.head fun p hp => ?_) (fun h' F' N' => hQ h' F' ?_) (by rw [List.size_toArray, sizeLine_eq]; omega)
  · have hb := hs p (.tail _ hp)
    rcases List.mem_cons.mp hp with rfl | hp
    · exact off _ hb (by rw [ho]; decide)
    rcases List.mem_cons.mp hp with rfl | hp
    · exact hne
    rcases List.mem_cons.mp hp with rfl | hp
    · exact off _ hb (show Value.type "tuple" ≠ Value.type "list" by decide)
    rcases List.mem_cons.mp hp with rfl | hp
    · exact off _ hb (show Value.type "tuple" ≠ Value.type "list" by decide)
    · exact off _ hb (by rw [hc p hp]; decide)
  · rw [List.push_toArray] at N'
    exact N'
end

/-- the letters of the way to u/l: true is an l -/
def dirs : Nat → Nat → Nat → List Bool
  | 0, _, _ => []
  | k + 1, u, l => if u < l then true :: dirs k u (l - u) else if l < u then false :: dirs k (u - l) l else []
def dirX (n : Nat) : List Bool := dirs 8 (n % 9 + 1) (n / 9 % 9 + 1)
def letS : Bool → Str
  | true => Str.ofString "l"
  | false => Str.ofString "r"
/-- the codes of a way's text with the m behind it -/
def enc : List Bool → List Nat
  | [] => [109]
  | true :: r => 108 :: 47 :: enc r
  | false :: r => 114 :: 47 :: enc r
/-- the order from the left to the right -/
def dlt : List Bool → List Bool → Bool
  | [], [] => false
  | [], y :: _ => !y
  | x :: _, [] => x
  | x :: a, y :: b => if x == y then dlt a b else x
def lcpB : List Bool → List Bool → List Bool
  | x :: a, y :: b => if x == y then x :: lcpB a b else []
  | _, _ => []
def startS : Bool → Str
  | true => Str.ofString "/"
  | false => Str.ofString ""
def pathS (b : Bool) (d : List Bool) : Str := (if b then Str.ofString "/" else Str.ofString "") ++ Txt.join (Str.ofString "/") (d.map letS)
def upN (n : Nat) : Nat := n % 9 + 1
def loN (n : Nat) : Nat := n / 9 % 9 + 1
def toldB (q : (Int × Int) × (Int × Int) × (Int × Int)) (x : Bool) : (Int × Int) × (Int × Int) × (Int × Int) :=
  if x = true then (q.1, q.2.2, (q.1.1 + q.2.2.1, q.1.2 + q.2.2.2)) else (q.2.2, q.2.1, (q.2.2.1 + q.2.1.1, q.2.2.2 + q.2.1.2))
def ckOrd (a b : Nat) : Bool := dlt (dirX a) (dirX b) == decide (upN a * loN b < upN b * loN a)
theorem ckOrd_all : (List.range 81).all (fun a => (List.range 81).all (ckOrd a)) = true := by decide +kernel
/-- the number of a fraction -/
def numOf (q : Int × Int) : Nat := (q.1 - 1).toNat + 9 * (q.2 - 1).toNat
def ckSimp (a b : Nat) : Bool :=
  dlt (dirX b) (dirX a) || (let q := simpFrom (upN a) (loN a) (upN b) (loN b) 9 1
    decide (numOf q < 81) && lcpB (dirX a) (dirX b) == dirX (numOf q) && ((dirX (numOf q)).foldl toldB ((0, 1), (1, 0), (1, 1))).2.2 == q)
theorem ckSimp_all : (List.range 81).all (fun a => (List.range 81).all (ckSimp a)) = true := by decide +kernel

theorem slash_is : Str.ofString "/" = ⟨#[47]⟩ := by decide +kernel
theorem free_cut {c : Nat} : ∀ {a b a' b' : List Nat}, c ∉ a → c ∉ a' → a ++ c :: b = a' ++ c :: b' → a = a' ∧ b = b'
  | [], _, [], _, _, _, h => ⟨rfl, by simpa using h⟩
  | [], _, x :: a', _, _, h2, h => by
    simp only [List.nil_append, List.cons_append, List.cons.injEq] at h
    exact absurd (h.1 ▸ List.mem_cons_self ..) h2
  | x :: a, _, [], _, h1, _, h => by
    simp only [List.nil_append, List.cons_append, List.cons.injEq] at h
    exact absurd (h.1 ▸ List.mem_cons_self ..) h1
  | x :: a, b, x' :: a', b', h1, h2, h => by
    simp only [List.cons_append, List.cons.injEq] at h
    obtain ⟨e1, e2⟩ := free_cut (fun q => h1 (.tail _ q)) (fun q => h2 (.tail _ q)) h.2
    exact ⟨by rw [h.1, e1], e2⟩
theorem str_ext {a b : Str} (h : a.cps.toList = b.cps.toList) : a = b := by
  cases a; cases b
  simp only [Str.mk.injEq]
  exact Array.toList_inj.mp h
theorem join_uniq {c : Nat} : ∀ {ps qs : List Str}, ps ≠ [] → qs ≠ [] → (∀ p ∈ ps, c ∉ p.cps.toList) → (∀ q ∈ qs, c ∉ q.cps.toList) →
    (Str.join ⟨#[c]⟩ ps).cps.toList = (Str.join ⟨#[c]⟩ qs).cps.toList → ps = qs
  | [], _, h, _, _, _, _ => absurd rfl h
  | _ :: _, [], _, h, _, _, _ => absurd rfl h
  | [p], [q], _, _, _, _, h => by rw [str_ext (show p.cps.toList = q.cps.toList from h)]
  | [p], q :: q' :: r, _, _, hp, hq, h => by
    have h : p.cps.toList = (q ++ ⟨#[c]⟩ ++ Str.join ⟨#[c]⟩ (q' :: r)).cps.toList := h
    simp only [Str.cps_append, Array.toList_append] at h
    exact absurd (by rw [h]; simp) (hp p (List.mem_singleton.mpr rfl))
  | p :: p' :: r, [q], _, _, hp, hq, h => by
    have h : (p ++ ⟨#[c]⟩ ++ Str.join ⟨#[c]⟩ (p' :: r)).cps.toList = q.cps.toList := h
    simp only [Str.cps_append, Array.toList_append] at h
    exact absurd (by rw [← h]; simp) (hq q (List.mem_singleton.mpr rfl))
  | p :: p' :: r, q :: q' :: r', _, _, hp, hq, h => by
    have h : (p ++ ⟨#[c]⟩ ++ Str.join ⟨#[c]⟩ (p' :: r)).cps.toList = (q ++ ⟨#[c]⟩ ++ Str.join ⟨#[c]⟩ (q' :: r')).cps.toList := h
    simp only [Str.cps_append, Array.toList_append, List.append_assoc] at h
    obtain ⟨e1, e2⟩ := free_cut (hp p (.head _)) (hq q (.head _)) h
    rw [str_ext e1, join_uniq (by simp) (by simp) (fun x hx => hp x (.tail _ hx)) (fun x hx => hq x (.tail _ hx)) e2]
theorem join_cat {y : Str} : ∀ {ps qs : List Str}, ps ≠ [] → qs ≠ [] → (Str.join y (ps ++ qs)) = Str.join y ps ++ y ++ Str.join y qs
  | [], _, h, _ => absurd rfl h
  | _ :: _, [], _, h => absurd rfl h
  | [p], q :: r, _, _ => rfl
  | p :: p' :: r, q :: r', _, hq => by
    show p ++ y ++ Str.join y (p' :: (r ++ q :: r')) = (p ++ y ++ Str.join y (p' :: r)) ++ y ++ Str.join y (q :: r')
    have ih := join_cat (y := y) (ps := p' :: r) (qs := q :: r') (by simp) hq
    rw [List.cons_append] at ih
    rw [ih]
    simp only [Str.append_assoc]
theorem split_ne (x y : Str) (hy : 0 < y.length) (hx : Txt.split x y = []) : False := by
  unfold Txt.split at hx
  split at hx
  · cases hx
  · rw [StrLaws.partsBetween_eq] at hx
    split at hx
    · cases hx
    · obtain ⟨p, r, e⟩ := StrLaws.partsFrom_ne x y.length 0 (Builtin.Str.occurrences x y 0 x.length (x.length + 1))
      rw [e] at hx
      cases hx
theorem split_cat (a b : Str) : Txt.split (a ++ Str.ofString "/" ++ b) (Str.ofString "/") = Txt.split a (Str.ofString "/") ++ Txt.split b (Str.ofString "/") := by
  rw [slash_is]
  have n1 : Txt.split a ⟨#[47]⟩ ≠ [] := fun h => split_ne _ _ (by decide) h
  have n2 : Txt.split b ⟨#[47]⟩ ≠ [] := fun h => split_ne _ _ (by decide) h
  refine join_uniq (c := 47) (fun h => split_ne _ _ (by decide) h) (by simp [n1]) (StrLaws.split_free _ _) (fun q hq => ?_) ?_
  · rcases List.mem_append.mp hq with h | h
    · exact StrLaws.split_free _ _ q h
    · exact StrLaws.split_free _ _ q h
  · rw [StrLaws.join_split, join_cat n1 n2, StrLaws.join_split, StrLaws.join_split]
theorem comps_cat (a b : Str) : compsOf (a ++ Str.ofString "/" ++ b) = compsOf a ++ compsOf b := by
  unfold compsOf
  rw [split_cat, List.filter_append]
theorem len_cps (x : Str) : x.length = x.cps.toList.length := by simp [Str.length]
theorem starts_iff (x : Str) : Txt.startswith x (Str.ofString "/") = true ↔ x.cps.toList[0]? = some 47 := by
  rw [slash_is, ← StrLaws.subAt_one]
  unfold Txt.startswith
  rw [Bool.and_eq_true, decide_eq_true_eq]
theorem ends_cut {x : Str} (h : Txt.endswith x (Str.ofString "/") = true) : ∃ y, x = y ++ Str.ofString "/" := by
  rw [slash_is] at h
  unfold Txt.endswith at h
  rw [Bool.and_eq_true, decide_eq_true_eq] at h
  have h1 : 1 ≤ x.length := by have := h.1; rw [show (⟨#[47]⟩ : Str).length = 1 from rfl] at this; omega
  have h2 := (StrLaws.subAt_one x 47 (x.length - 1)).mp ⟨by show x.length - 1 + 1 ≤ x.length; omega, h.2⟩
  rw [len_cps] at h1 h2
  refine ⟨⟨x.cps.toList.dropLast.toArray⟩, str_ext ?_⟩
  rw [Str.cps_append, Array.toList_append, slash_is]
  show x.cps.toList = x.cps.toList.dropLast ++ [47]
  have hne : x.cps.toList ≠ [] := fun e => by rw [e] at h1; simp at h1
  have h3 : x.cps.toList.getLast hne = 47 := by
    rw [List.getLast_eq_getElem]
    have := List.getElem?_eq_some_iff.mp h2
    obtain ⟨_, e⟩ := this
    exact e
  rw [← h3, List.dropLast_concat_getLast]
/-- one more name behind a way -/
theorem comps_join {w n : Str} {x : Str} (hs : Txt.startswith n (Str.ofString "/") = false) (hn : compsOf n = [x]) : compsOf (joinS w n) = compsOf w ++ [x] := by
  have h0 : compsOf (Str.ofString "") = [] := by decide +kernel
  unfold joinS
  split
  · rename_i h
    rcases h with h | h
    · rw [hs] at h; cases h
    · have e : w = Str.ofString "" := str_ext (by
        rw [len_cps] at h
        rw [List.length_eq_zero_iff.mp h]; decide +kernel)
      rw [e, h0, hn]; rfl
  · split
    · rename_i h
      obtain ⟨y, rfl⟩ := ends_cut h
      have e : y ++ Str.ofString "/" = y ++ Str.ofString "/" ++ Str.ofString "" := str_ext (by simp only [Str.cps_append, Array.toList_append]; rw [show (Str.ofString "").cps.toList = [] by decide +kernel, List.append_nil])
      rw [comps_cat, hn, e, comps_cat, h0, List.append_nil]
    · rw [← Str.append_assoc, comps_cat, hn]
theorem joinS_starts {w n : Str} (hs : Txt.startswith n (Str.ofString "/") = false) : Txt.startswith (joinS w n) (Str.ofString "/") = Txt.startswith w (Str.ofString "/") := by
  have key : ∀ a b : Str, a.length ≠ 0 → Txt.startswith (a ++ b) (Str.ofString "/") = Txt.startswith a (Str.ofString "/") := fun a b ha => by
    rw [Bool.eq_iff_iff, starts_iff, starts_iff, Str.cps_append, Array.toList_append, List.getElem?_append_left (by rw [← len_cps]; omega)]
  unfold joinS
  split
  · rename_i h
    rcases h with h | h
    · rw [hs] at h; cases h
    · rw [hs]
      have e : w.cps.toList = [] := List.length_eq_zero_iff.mp (by rw [← len_cps]; exact h)
      cases q : Txt.startswith w (Str.ofString "/") with
      | false => rfl
      | true => rw [starts_iff, e] at q; cases q
  · rename_i h
    have hw : w.length ≠ 0 := fun e => h (.inr e)
    split
    · exact key _ _ hw
    · exact key _ _ hw

theorem wayN_front (n0 n1 : Str) (q : Int × Int × Str) : ∀ k, wayN n0 n1 (k + 1) q = wayN n0 n1 k (wayStep n0 n1 q)
  | 0 => rfl
  | k + 1 => by
    show wayStep n0 n1 (wayN n0 n1 (k + 1) q) = wayStep n0 n1 (wayN n0 n1 k (wayStep n0 n1 q))
    rw [wayN_front n0 n1 q k]
/-- a name that spells a letter -/
def Spells (n : Str) (x : Bool) : Prop := Txt.startswith n (Str.ofString "/") = false ∧ compsOf n = [letS x]
theorem wayN_same (n0 n1 : Str) (u : Int) (w : Str) : ∀ k, wayN n0 n1 k (u, u, w) = (u, u, w)
  | 0 => rfl
  | k + 1 => by
    show wayStep n0 n1 (wayN n0 n1 k (u, u, w)) = _
    rw [wayN_same n0 n1 u w k]
    simp only [wayStep, if_neg (Int.lt_irrefl u)]
theorem wayN_comps {n0 n1 : Str} (h0 : Spells n0 true) (h1 : Spells n1 false) : ∀ (k u l : Nat) (w : Str),
    compsOf (wayN n0 n1 k ((u : Int), (l : Int), w)).2.2 = compsOf w ++ (dirs k u l).map letS ∧
    Txt.startswith (wayN n0 n1 k ((u : Int), (l : Int), w)).2.2 (Str.ofString "/") = Txt.startswith w (Str.ofString "/")
  | 0, u, l, w => by simp [wayN, dirs]
  | k + 1, u, l, w => by
    rw [wayN_front]
    by_cases c : u < l
    · have e : wayStep n0 n1 ((u : Int), (l : Int), w) = ((u : Int), ((l - u : Nat) : Int), joinS w n0) := by
        simp only [wayStep]
        rw [if_pos (by omega), show (l : Int) - (u : Int) = ((l - u : Nat) : Int) by omega]
      obtain ⟨i1, i2⟩ := wayN_comps h0 h1 k u (l - u) (joinS w n0)
      rw [e, i1, i2, comps_join h0.1 h0.2, joinS_starts h0.1]
      simp only [dirs, if_pos c, List.map_cons, List.append_assoc, List.singleton_append, and_self]
    · by_cases d : l < u
      · have e : wayStep n0 n1 ((u : Int), (l : Int), w) = (((u - l : Nat) : Int), (l : Int), joinS w n1) := by
          simp only [wayStep]
          rw [if_neg (by omega), if_pos (by omega), show (u : Int) - (l : Int) = ((u - l : Nat) : Int) by omega]
        obtain ⟨i1, i2⟩ := wayN_comps h0 h1 k (u - l) l (joinS w n1)
        rw [e, i1, i2, comps_join h1.1 h1.2, joinS_starts h1.1]
        simp only [dirs, if_neg c, if_pos d, List.map_cons, List.append_assoc, List.singleton_append, and_self]
      · have e : u = l := by omega
        subst e
        have e : wayStep n0 n1 ((u : Int), (u : Int), w) = ((u : Int), (u : Int), w) := wayN_same n0 n1 u w 1
        rw [e, wayN_same]
        simp only [dirs, Nat.lt_irrefl, if_false, List.map_nil, List.append_nil, and_self]
theorem names_spell (k : Int) : Spells (namesOf k).1 true ∧ Spells (namesOf k).2 false := by
  unfold namesOf Spells
  split
  · decide +kernel
  · split <;> decide +kernel
theorem start_at (b : Bool) : compsOf (startS b) = [] ∧ Txt.startswith (startS b) (Str.ofString "/") = b := by
  cases b <;> decide +kernel
def letC : Bool → Nat
  | true => 108
  | false => 114
theorem letS_cps (x : Bool) : (letS x).cps.toList = [letC x] := by cases x <;> decide +kernel
theorem path_text : ∀ d : List Bool, d ≠ [] → (Str.join ⟨#[47]⟩ (d.map letS)).cps.toList ++ [47, 109] = enc d ∧ ∃ p c, (Str.join ⟨#[47]⟩ (d.map letS)).cps.toList = p ++ [letC c]
  | [], h => absurd rfl h
  | [x], _ => by
    have e : (Str.join ⟨#[47]⟩ ([x].map letS)).cps.toList = [letC x] := letS_cps x
    rw [e]
    exact ⟨by cases x <;> rfl, [], x, rfl⟩
  | x :: y :: r, _ => by
    have e : (Str.join ⟨#[47]⟩ ((x :: y :: r).map letS)).cps.toList = (letS x ++ ⟨#[47]⟩ ++ Str.join ⟨#[47]⟩ ((y :: r).map letS)).cps.toList := rfl
    obtain ⟨i1, p, c, i2⟩ := path_text (y :: r) (by simp)
    rw [e, Str.cps_append, Str.cps_append, Array.toList_append, Array.toList_append, letS_cps]
    refine ⟨?_, letC x :: 47 :: p, c, ?_⟩
    · rw [List.append_assoc, i1]
      cases x <;> rfl
    · rw [i2]; rfl
theorem text_spell (b : Bool) (d : List Bool) : (joinS (pathS b d) (Str.ofString "m")).cps.toList = (startS b).cps.toList ++ enc d := by
  by_cases hd : d = []
  · subst hd
    cases b <;> decide +kernel
  · obtain ⟨e, p, c, e2⟩ := path_text d hd
    have e0 : (pathS b d).cps.toList = (startS b).cps.toList ++ (Str.join ⟨#[47]⟩ (d.map letS)).cps.toList := by
      unfold pathS
      rw [show Txt.join (Str.ofString "/") (d.map letS) = Str.join ⟨#[47]⟩ (d.map letS) by rw [slash_is]; exact StrLaws.glued_eq_join _ _, Str.cps_append, Array.toList_append]
      cases b <;> rfl
    have hm : Txt.startswith (Str.ofString "m") (Str.ofString "/") = false := by decide +kernel
    unfold joinS
    rw [if_neg (fun h => ?_), if_neg (fun h => ?_), Str.cps_append, Str.cps_append, Array.toList_append, Array.toList_append, e0, List.append_assoc, ← e]
    · rfl
    · obtain ⟨y, hy⟩ := ends_cut h
      rw [hy, Str.cps_append, Array.toList_append, slash_is, e2, ← List.append_assoc] at e0
      have := (List.append_inj' e0 rfl).2
      cases c <;> simp [letC] at this
    · rcases h with h | h
      · rw [hm] at h; cases h
      · rw [len_cps, e0, e2] at h
        simp at h
/-- all ways up to nine -/
def dirL : List (List Bool) := ((List.range 81).map dirX).eraseDups
def ckName (b : Bool) (d : List Bool) : Bool :=
  match d.reverse with
  | [] => true
  | x :: r => dirL.contains r.reverse && (pathS b d != startS b) && baseS (pathS b d) == letS x && dirS (pathS b d) == pathS b r.reverse
theorem dirL_all : (List.range 81).all (fun c => dirL.contains (dirX c)) = true := by decide +kernel
theorem ckName_t : dirL.all (ckName true) = true := by decide +kernel
theorem ckName_f : dirL.all (ckName false) = true := by decide +kernel
theorem namesN_front (st : Str) (q : List Str × Str) : ∀ k, namesN st (k + 1) q = namesN st k (nameStep st q)
  | 0 => rfl
  | k + 1 => by
    show nameStep st (namesN st (k + 1) q) = nameStep st (namesN st k (nameStep st q))
    rw [namesN_front st q k]
theorem dirs_len : ∀ k u l, (dirs k u l).length ≤ k
  | 0, _, _ => Nat.le_refl 0
  | k + 1, u, l => by
    simp only [dirs]
    split
    · exact Nat.succ_le_succ (dirs_len k _ _)
    · split
      · exact Nat.succ_le_succ (dirs_len k _ _)
      · exact Nat.zero_le _
theorem names_stay (b : Bool) (acc : List Str) : ∀ k, namesN (startS b) k (acc, pathS b []) = (acc, pathS b [])
  | 0 => rfl
  | k + 1 => by
    show nameStep (startS b) (namesN (startS b) k (acc, pathS b [])) = _
    rw [names_stay b acc k]
    have e : (pathS b [] != startS b) = false := by cases b <;> decide +kernel
    simp only [nameStep, e, Bool.false_eq_true, if_false]
theorem names_spell_all (b : Bool) : ∀ k d acc, dirL.contains d = true → d.length ≤ k → (namesN (startS b) k (acc, pathS b d)).1 = acc ++ (d.map letS).reverse := fun k => by
  induction k with
  | zero =>
    intro d acc _ h
    rw [List.length_eq_zero_iff.mp (Nat.le_zero.mp h)]
    simp [namesN]
  | succ k ih =>
    intro d acc hd h
    have q : ckName b d = true := by
      have hd' : d ∈ dirL := by simpa using hd
      cases b
      · exact List.all_eq_true.mp ckName_f d hd'
      · exact List.all_eq_true.mp ckName_t d hd'
    unfold ckName at q
    split at q
    · rename_i e
      have e : d = [] := List.reverse_eq_nil_iff.mp e
      rw [e, names_stay]
      simp
    · rename_i x r e
      simp only [Bool.and_eq_true, beq_iff_eq] at q
      have e : d = r.reverse ++ [x] := by rw [← List.reverse_reverse d, e, List.reverse_cons]
      have hl : r.reverse.length ≤ k := by rw [e] at h; simp at h ⊢; omega
      rw [namesN_front, nameStep, if_pos q.1.1.2]
      show (namesN (startS b) k (acc ++ [baseS (pathS b d)], dirS (pathS b d))).1 = _
      rw [q.1.2, q.2, ih _ _ q.1.1.1 hl, e]
      simp

theorem enc_lt : ∀ a b : List Bool, (enc a < enc b) ↔ dlt a b = true
  | [], [] => by simp [enc, dlt]
  | [], true :: b => by simp [enc, dlt, List.cons_lt_cons_iff]
  | [], false :: b => by simp [enc, dlt, List.cons_lt_cons_iff]
  | true :: a, [] => by simp [enc, dlt, List.cons_lt_cons_iff]
  | false :: a, [] => by simp [enc, dlt, List.cons_lt_cons_iff]
  | true :: a, true :: b => by simp [enc, dlt, enc_lt a b]
  | true :: a, false :: b => by simp [enc, dlt, List.cons_lt_cons_iff]
  | false :: a, true :: b => by simp [enc, dlt, List.cons_lt_cons_iff]
  | false :: a, false :: b => by simp [enc, dlt, enc_lt a b]
theorem app_lt (p a b : List Nat) : (p ++ a < p ++ b) ↔ a < b := by
  induction p with
  | nil => exact Iff.rfl
  | cons x p ih => simp [ih]
theorem dlt_mid : ∀ {p a b c : List Bool}, p <+: a → p <+: b → dlt c a = false → dlt b c = false → p <+: c
  | [], _, _, _, _, _, _, _ => List.nil_prefix
  | x :: p, [], _, _, h, _, _, _ => by simp at h
  | x :: p, _, [], _, _, h, _, _ => by simp at h
  | x :: p, y :: a, z :: b, c, h1, h2, h3, h4 => by
    obtain ⟨rfl, j1⟩ := List.cons_prefix_cons.mp h1
    obtain ⟨rfl, j2⟩ := List.cons_prefix_cons.mp h2
    cases c with
    | nil => simp only [dlt] at h3 h4; rw [h4] at h3; exact absurd h3 (by decide)
    | cons u c =>
      simp only [dlt] at h3 h4
      by_cases e : u = x
      · subst e
        rw [if_pos (beq_self_eq_true _)] at h3 h4
        exact List.cons_prefix_cons.mpr ⟨rfl, dlt_mid j1 j2 h3 h4⟩
      · rw [if_neg (by simpa using e)] at h3
        rw [if_neg (by simpa using fun q : x = u => e q.symm)] at h4
        exact absurd (h3.trans h4.symm) e
theorem tex_mid : ∀ {p a b c : List Str}, p <+: a → p <+: b → texLt c a = false → texLt b c = false → p <+: c
  | [], _, _, _, _, _, _, _ => List.nil_prefix
  | x :: p, [], _, _, h, _, _, _ => by simp at h
  | x :: p, _, [], _, _, h, _, _ => by simp at h
  | x :: p, y :: a, z :: b, c, h1, h2, h3, h4 => by
    obtain ⟨rfl, j1⟩ := List.cons_prefix_cons.mp h1
    obtain ⟨rfl, j2⟩ := List.cons_prefix_cons.mp h2
    cases c with
    | nil => simp only [texLt] at h3; exact absurd h3 (by decide)
    | cons u c =>
      simp only [texLt] at h3 h4
      by_cases e : u = x
      · subst e
        rw [if_pos (beq_self_eq_true _)] at h3 h4
        exact List.cons_prefix_cons.mpr ⟨rfl, tex_mid j1 j2 h3 h4⟩
      · rw [if_neg (by simpa using e)] at h3
        rw [if_neg (by simpa using fun q : x = u => e q.symm)] at h4
        have q1 : ¬ u.cps.toList < x.cps.toList := of_decide_eq_false h3
        have q2 : ¬ x.cps.toList < u.cps.toList := of_decide_eq_false h4
        exact absurd (str_eq_of_cps (List.le_antisymm (List.not_lt.mp q2) (List.not_lt.mp q1))) e
theorem letS_inj {x y : Bool} : (letS x == letS y) = (x == y) := by
  cases x <;> cases y <;> decide +kernel
theorem lcp2_map : ∀ a b : List Bool, lcp2 (a.map letS) (b.map letS) = (lcpB a b).map letS
  | [], _ => by simp [lcp2, lcpB]
  | _ :: _, [] => by simp [lcp2, lcpB]
  | x :: a, y :: b => by
    simp only [List.map_cons, lcp2, lcpB, letS_inj]
    split
    · rw [List.map_cons, lcp2_map a b]
    · rfl
theorem lcp2_pre : ∀ {p a b : List Str}, p <+: a → p <+: b → p <+: lcp2 a b
  | [], _, _, _, _ => List.nil_prefix
  | x :: p, [], _, h, _ => by simp at h
  | x :: p, _, [], _, h => by simp at h
  | x :: p, y :: a, z :: b, h1, h2 => by
    obtain ⟨rfl, j1⟩ := List.cons_prefix_cons.mp h1
    obtain ⟨rfl, j2⟩ := List.cons_prefix_cons.mp h2
    simp only [lcp2, beq_self_eq_true, if_true]
    exact List.cons_prefix_cons.mpr ⟨rfl, lcp2_pre j1 j2⟩
theorem lcp2_left : ∀ a b : List Str, lcp2 a b <+: a
  | [], _ => by simp [lcp2]
  | _ :: _, [] => by simp [lcp2]
  | x :: a, y :: b => by
    simp only [lcp2]
    split
    · exact List.cons_prefix_cons.mpr ⟨rfl, lcp2_left a b⟩
    · exact List.nil_prefix
theorem lcp2_right : ∀ a b : List Str, lcp2 a b <+: b
  | [], _ => by simp [lcp2]
  | _ :: _, [] => by simp [lcp2]
  | x :: a, y :: b => by
    simp only [lcp2]
    split
    · rename_i h
      exact List.cons_prefix_cons.mpr ⟨by simpa using h, lcp2_right a b⟩
    · exact List.nil_prefix
theorem lcpB_left : ∀ a b : List Bool, lcpB a b <+: a
  | [], _ => by simp [lcpB]
  | _ :: _, [] => by simp [lcpB]
  | x :: a, y :: b => by
    simp only [lcpB]
    split
    · exact List.cons_prefix_cons.mpr ⟨rfl, lcpB_left a b⟩
    · exact List.nil_prefix
theorem lcpB_right : ∀ a b : List Bool, lcpB a b <+: b
  | [], _ => by simp [lcpB]
  | _ :: _, [] => by simp [lcpB]
  | x :: a, y :: b => by
    simp only [lcpB]
    split
    · rename_i h
      exact List.cons_prefix_cons.mpr ⟨by simpa using h, lcpB_right a b⟩
    · exact List.nil_prefix
theorem strAt_mem {xs : List Str} {i : Nat} (h : i < xs.length) : strAt xs i ∈ xs := by
  rw [strAt, List.getD_eq_getElem?_getD, List.getElem?_eq_getElem h]
  exact List.getElem_mem h
theorem mem_strAt {xs : List Str} {x : Str} (h : x ∈ xs) : ∃ i, i < xs.length ∧ strAt xs i = x := by
  obtain ⟨i, hi, rfl⟩ := List.getElem_of_mem h
  exact ⟨i, hi, by rw [strAt, List.getD_eq_getElem?_getD, List.getElem?_eq_getElem hi]; rfl⟩
/-- the parts that all ways of a stretch have in common -/
theorem cp_letters {xs : List Str} {g : Str → List Bool} (hg : ∀ x ∈ xs, compsOf x = (g x).map letS) {x y : Str} (hx : x ∈ xs) (hy : y ∈ xs)
    (hall : ∀ z ∈ xs, dlt (g z) (g x) = false ∧ dlt (g y) (g z) = false) : lcp2 (minC xs) (maxC xs) = (lcpB (g x) (g y)).map letS := by
  have hpos : 0 < xs.length := List.length_pos_of_mem hx
  have hmin : strAt xs (minI xs) ∈ xs := strAt_mem (Nat.lt_of_le_of_lt (argBest_le _ _) (by omega))
  have hmax : strAt xs (maxI xs) ∈ xs := strAt_mem (Nat.lt_of_le_of_lt (argBest_le _ _) (by omega))
  have pre : ∀ z ∈ xs, (lcpB (g x) (g y)).map letS <+: compsOf z := fun z hz => by
    rw [hg z hz]
    exact (dlt_mid (lcpB_left _ _) (lcpB_right _ _) (hall z hz).1 (hall z hz).2).map letS
  have p1 : (lcpB (g x) (g y)).map letS <+: lcp2 (minC xs) (maxC xs) := lcp2_pre (pre _ hmin) (pre _ hmax)
  have mid : ∀ z ∈ xs, lcp2 (minC xs) (maxC xs) <+: compsOf z := fun z hz => by
    obtain ⟨i, hi, rfl⟩ := mem_strAt hz
    exact tex_mid (lcp2_left _ _) (lcp2_right _ _) (min_least xs hi) (max_most xs hi)
  have p2 : lcp2 (minC xs) (maxC xs) <+: (lcpB (g x) (g y)).map letS := by
    have q := lcp2_pre (mid x hx) (mid y hy)
    rwa [hg x hx, hg y hy, lcp2_map] at q
  exact (p1.eq_of_length_le p2.length_le).symm
theorem dirX_mod (n : Nat) : dirX n = dirX (n % 81) := by
  unfold dirX
  rw [show n % 81 % 9 = n % 9 by omega, show n % 81 / 9 % 9 = n / 9 % 9 by omega]
theorem upN_mod (n : Nat) : upN n = upN (n % 81) := by unfold upN; rw [show n % 81 % 9 = n % 9 by omega]
theorem loN_mod (n : Nat) : loN n = loN (n % 81) := by unfold loN; rw [show n % 81 / 9 % 9 = n / 9 % 9 by omega]
theorem upOf_nat (n : Nat) : upOf (n : Int) = (upN n : Int) := by
  unfold upOf upN
  rw [Int.fmod_eq_emod_of_nonneg _ (by decide)]
  omega
theorem loOf_nat (n : Nat) : loOf (n : Int) = (loN n : Int) := by
  unfold loOf loN
  rw [Int.fmod_eq_emod_of_nonneg _ (by decide), Int.fdiv_eq_ediv_of_nonneg _ (by decide)]
  omega
theorem all_at {f : Nat → Bool} {k n : Nat} (h : (List.range k).all f = true) (hn : n < k) : f n = true := List.all_eq_true.mp h n (List.mem_range.mpr hn)
theorem way_at (b : Bool) {n : Nat} (_h : n < 243) : compsOf (wayS (startS b) (n : Int)) = (dirX n).map letS ∧ absS (startS b) (n : Int) = b := by
  have hn := names_spell (Int.fdiv (n : Int) 81)
  have q := wayN_comps hn.1 hn.2 8 (upN n) (loN n) (startS b)
  unfold absS wayS
  rw [upOf_nat, loOf_nat, q.1, q.2, (start_at b).1, (start_at b).2]
  exact ⟨rfl, rfl⟩
theorem lcp2_self : ∀ a : List Str, lcp2 a a = a
  | [] => rfl
  | x :: a => by simp only [lcp2, beq_self_eq_true, if_true, lcp2_self a]
theorem cp1 (b : Bool) (x : Str) : cpS b [x] = (if b then Str.ofString "/" else Str.ofString "") ++ Txt.join (Str.ofString "/") (compsOf x) := by
  unfold cpS
  have h1 : minC [x] = compsOf x := rfl
  have h2 : maxC [x] = compsOf x := rfl
  rw [h1, h2, lcp2_self]
theorem text_at (b : Bool) {n : Nat} (h : n < 243) : (textS (startS b) (n : Int)).cps.toList = (startS b).cps.toList ++ enc (dirX n) := by
  unfold textS
  rw [(way_at b h).2, cp1, (way_at b h).1]
  exact text_spell b (dirX n)
theorem names_at (b : Bool) {n : Nat} (h : n < 81) : (namesN (startS b) 8 ([], pathS b (dirX n))).1.reverse = (dirX n).map letS := by
  rw [names_spell_all b 8 (dirX n) [] (all_at dirL_all h) (dirs_len _ _ _), List.nil_append, List.reverse_reverse]
theorem text_lt (b : Bool) {n k : Nat} (h : n < 243) (h' : k < 243) : ((textS (startS b) (n : Int)).cps.toList < (textS (startS b) (k : Int)).cps.toList) ↔ dlt (dirX n) (dirX k) = true := by
  rw [text_at b h, text_at b h', app_lt, enc_lt]
theorem ord_at (n k : Nat) : dlt (dirX n) (dirX k) = decide (upN n * loN k < upN k * loN n) := by
  have q : ckOrd (n % 81) (k % 81) = true := all_at (all_at ckOrd_all (by omega : n % 81 < 81)) (by omega)
  unfold ckOrd at q
  rw [← dirX_mod, ← dirX_mod, ← upN_mod, ← upN_mod, ← loN_mod, ← loN_mod] at q
  simpa using q
theorem nat_of {x : Int} (h : 0 ≤ x ∧ x ≤ 242) : ∃ n : Nat, x = (n : Int) ∧ n < 243 := ⟨x.toNat, by omega, by omega⟩
/-- the first question: the texts rise as the fractions do -/
theorem law_ord (b : Bool) {x y : Int} (hx : 0 ≤ x ∧ x ≤ 242) (hy : 0 ≤ y ∧ y ≤ 242) :
    decide ((textS (startS b) x).cps.toList < (textS (startS b) y).cps.toList) = decide (upOf x * loOf y < upOf y * loOf x) := by
  obtain ⟨n, rfl, hn⟩ := nat_of hx
  obtain ⟨k, rfl, hk⟩ := nat_of hy
  rw [decide_eq_decide, text_lt b hn hk, ord_at, decide_eq_true_iff, upOf_nat, upOf_nat, loOf_nat, loOf_nat]
  rw [← Int.natCast_mul, ← Int.natCast_mul]
  exact Int.ofNat_lt.symm
theorem told_map : ∀ (d : List Bool) (q : (Int × Int) × (Int × Int) × (Int × Int)), (d.map letS).foldl toldStep q = d.foldl toldB q
  | [], _ => rfl
  | x :: d, q => by
    have e : toldStep q (letS x) = toldB q x := by
      cases x
      · unfold toldStep toldB
        rw [if_neg (by decide +kernel), if_neg (by decide)]
      · unfold toldStep toldB
        rw [if_pos (by decide +kernel), if_pos rfl]
    rw [List.map_cons, List.foldl_cons, List.foldl_cons, e, told_map d]
theorem simp_at {n k : Nat} (h : dlt (dirX k) (dirX n) = false) : ∃ c, c < 81 ∧ lcpB (dirX n) (dirX k) = dirX c ∧ (toldOf ((dirX c).map letS)).2.2 = simpFrom (upN n) (loN n) (upN k) (loN k) 9 1 := by
  have q : ckSimp (n % 81) (k % 81) = true := all_at (all_at ckSimp_all (by omega : n % 81 < 81)) (by omega)
  unfold ckSimp at q
  rw [← dirX_mod, ← dirX_mod, ← upN_mod, ← upN_mod, ← loN_mod, ← loN_mod, h] at q
  simp only [Bool.false_or, Bool.and_eq_true, decide_eq_true_eq, beq_iff_eq] at q
  refine ⟨_, q.1.1, q.1.2, ?_⟩
  unfold toldOf
  rw [told_map]
  exact q.2
/-- the second question: what the common way tells is the simplest fraction -/
theorem law_told (b : Bool) {xs : List Int} {x y : Int} (hr : ∀ z ∈ xs, 0 ≤ z ∧ z ≤ 242) (hx : x ∈ xs) (hy : y ∈ xs)
    (hs : ∀ z ∈ xs, ¬ (textS (startS b) z).cps.toList < (textS (startS b) x).cps.toList ∧ ¬ (textS (startS b) y).cps.toList < (textS (startS b) z).cps.toList) :
    (toldOf (namesN (startS b) 8 ([], cpS b (xs.map (wayS (startS b))))).1.reverse).2.2 = simpFrom (upOf x) (loOf x) (upOf y) (loOf y) 9 1 := by
  have key : lcp2 (minC (xs.map (wayS (startS b)))) (maxC (xs.map (wayS (startS b)))) = (lcpB (dirX x.toNat) (dirX y.toNat)).map letS := by
    -- the letters of a text are those of its number
    have hcl : ∀ z ∈ xs, ((compsOf (wayS (startS b) z)).map fun s => s == Str.ofString "l") = dirX z.toNat := fun z hz => by
      obtain ⟨n, rfl, hn⟩ := nat_of (hr z hz)
      rw [(way_at b hn).1, Int.toNat_natCast, List.map_map]
      have : ((fun s => s == Str.ofString "l") ∘ letS) = id := by funext q; cases q <;> decide +kernel
      rw [this, List.map_id]
    have hcx : ∀ z ∈ xs, compsOf (wayS (startS b) z) = (dirX z.toNat).map letS := fun z hz => by
      obtain ⟨n, rfl, hn⟩ := nat_of (hr z hz)
      rw [(way_at b hn).1, Int.toNat_natCast]
    have hlt : ∀ z ∈ xs, ∀ u ∈ xs, ¬ (textS (startS b) z).cps.toList < (textS (startS b) u).cps.toList → dlt (dirX z.toNat) (dirX u.toNat) = false := fun z hz u hu h => by
      obtain ⟨n, rfl, hn⟩ := nat_of (hr z hz)
      obtain ⟨k, rfl, hk⟩ := nat_of (hr u hu)
      rw [text_lt b hn hk] at h
      simpa using h
    rw [← hcl x hx, ← hcl y hy]
    refine cp_letters (xs := xs.map (wayS (startS b))) (g := fun s => (compsOf s).map fun s => s == Str.ofString "l") (fun s hs' => ?_) (List.mem_map_of_mem hx) (List.mem_map_of_mem hy) fun s hs' => ?_
    · obtain ⟨z, hz, rfl⟩ := List.mem_map.mp hs'
      rw [hcl z hz, hcx z hz]
    · obtain ⟨z, hz, rfl⟩ := List.mem_map.mp hs'
      show dlt (List.map _ (compsOf (wayS (startS b) z))) (List.map _ (compsOf (wayS (startS b) x))) = false ∧ dlt (List.map _ (compsOf (wayS (startS b) y))) (List.map _ (compsOf (wayS (startS b) z))) = false
      rw [hcl z hz, hcl x hx, hcl y hy]
      exact ⟨hlt z hz x hx (hs z hz).1, hlt y hy z hz (hs z hz).2⟩
  have hxy := (hs x hx).2
  obtain ⟨n, rfl, hn⟩ := nat_of (hr x hx)
  obtain ⟨k, rfl, hk⟩ := nat_of (hr y hy)
  rw [Int.toNat_natCast, Int.toNat_natCast] at key
  rw [text_lt b hk hn] at hxy
  obtain ⟨c, hc, h1, h2⟩ := simp_at (n := n) (k := k) (by simpa using hxy)
  have h3 : cpS b (xs.map (wayS (startS b))) = pathS b (dirX c) := by
    unfold cpS pathS
    rw [key, h1]
  rw [h3, names_at b hc, upOf_nat, upOf_nat, loOf_nat, loOf_nat, h2]

section
variable {prog : Program} {w : World} {A : Around} {E : Value → Shared → Prop} {s : Shared}
/-- two pairs of ints compared -/
theorem pair_lt {l b : Addr} {x1 x2 y1 y2 : Int} {t1 t2 t3 t4 : Tok} {P : PySem.Fin → Shared → Prop} (hl : s.heap.get? l = some (tup2I x1 x2 t1 t2)) (hb : s.heap.get? b = some (tup2I y1 y2 t3 t4))
    (h : ∀ c, P (.done (.ret (.bool c))) s) : wpAny (model prog w) A (Builtin.«tuple.__lt__» ⟨[.ref l, .ref b], []⟩) P E s := by
  show wpAny _ _ (isInstance (.ref b) (.type "tuple") >>= _) _ _ s
  refine wpAny_bind (wpAny_isInstance (T := "tuple") ⟨_, hb, rfl⟩ isSubtype_tuple_tuple ?_)
  simp only [Bool.not_true, Bool.false_eq_true, if_false]
  refine wpAny_bind (wpAny_tupleItemsOf hl rfl ?_)
  refine wpAny_bind (wpAny_tupleItemsOf hb rfl ?_)
  refine wpAny_bind ?_
  show wpAny _ _ (forIn [(Value.int x1 t1, Value.int y1 t3), (.int x2 t2, .int y2 t4)] _ _) _ _ s
  rw [List.forIn_cons]
  refine wpAny_bind (wpAny_bind (wpAny_eqBool_int ?_))
  cases x1 == y1 with
  | false =>
    simp only [Bool.not_false, if_true]
    refine wpAny_bind (wpAny_rule (wpAny_bind (lt_int (wpAny_bind (wpAny_pure (wpAny_pure (wpAny_pure (wpAny_pure (h _)))))))))
  | true =>
    simp only [Bool.not_true, Bool.false_eq_true, if_false]
    refine wpAny_pure ?_
    dsimp only
    rw [List.forIn_cons]
    refine wpAny_bind (wpAny_bind (wpAny_eqBool_int ?_))
    cases x2 == y2 with
    | false =>
      simp only [Bool.not_false, if_true]
      refine wpAny_bind (wpAny_rule (wpAny_bind (lt_int (wpAny_bind (wpAny_pure (wpAny_pure (wpAny_pure (wpAny_pure (h _)))))))))
    | true =>
      simp only [Bool.not_true, Bool.false_eq_true, if_false]
      refine wpAny_pure ?_
      dsimp only
      rw [List.forIn_nil]
      exact wpAny_pure (wpAny_pure (h _))
end
section
variable {prog : Program} {w : World} {A : Around} {E : Value → Shared → Prop} {s : Shared}
theorem rich_pair {l b : Addr} {x1 x2 y1 y2 : Int} {t1 t2 t3 t4 : Tok} {Q : Value → Shared → Prop} (hl : s.heap.get? l = some (tup2I x1 x2 t1 t2)) (hb : s.heap.get? b = some (tup2I y1 y2 t3 t4)) (hu : A.units < cLine) (h : ∀ c, Q (.bool c) s) :
    wpAny (model prog w) A (richCompare .Lt (.ref l) (.ref b)) Q E s :=
  wpAny_richCompare_same_room (op := .Lt) ⟨_, hl, rfl⟩ ⟨_, hb, rfl⟩ F.slot_tuple_lt (wpAny_call_entry F.slot_tuple_lt ⟨_, hl, rfl⟩ F.entry_tuple_lt (pair_lt hl hb fun c => ⟨_, rfl, (fun e => nomatch e), h c⟩) (F.args_tuple_lt_2 _ _)) hu
theorem pair_key {h : Heap} {a : Addr} {x y : Int} {t u : Tok} (e : h.get? a = some (tup2I x y t u)) : IsTupleKey (intKind prog w) h [x, y] a :=
  ⟨_, _, _, e, rfl, rfl, .cons (by show (x == x) = true; simp) (.cons (by show (y == y) = true; simp) .nil)⟩
def txtLe (x y : Str) : Prop := ¬ y.cps.toList < x.cps.toList
/-- one question of the sorting -/
theorem row_lt {R R' P P' : Addr} {x x' y y' : Str} {a b a' b' : Int} {t1 t2 t3 t4 u1 u2 u3 u4 : Tok} {C : Bool → Shared → Prop} (hu : A.units < cLine)
    (hR : s.heap.get? R = some { cls := .type "tuple", data := .seq #[.str x t1, .ref P, .str y t2] }) (hR' : s.heap.get? R' = some { cls := .type "tuple", data := .seq #[.str x' u1, .ref P', .str y' u2] })
    (hP : s.heap.get? P = some (tup2I a b t3 t4)) (hP' : s.heap.get? P' = some (tup2I a' b' u3 u4))
    (h : ∀ c : Bool, (c = true → txtLe x x') → (c = false → txtLe x' x) → C c s) : wpAny (model prog w) A (keyLt' (tuples' true) (.ref R) (.ref R')) C E s := by
  refine kat_lt hR rfl hR' rfl ?_
  show KatLex prog w A true _ C [(.str x t1, .str x' u1), (.ref P, .ref P'), (.str y t2, .str y' u2)] 0 s
  refine kat_cons (wpAny_eqBool_str ?_)
  by_cases hx : x = x'
  · subst hx
    have hle : txtLe x x := List.lt_irrefl _
    have h' : ∀ c, C c s := fun c => h c (fun _ => hle) (fun _ => hle)
    rw [decide_eq_true rfl]
    refine kat_yes (kat_cons (wpAny_eqBool_tuple hu (pair_key hP) (pair_key hP') ?_))
    cases decide ([a, b] = [a', b']) with
    | false => exact kat_no (kat_one _ _ (rich_pair hP hP' hu fun c => h' c))
    | true =>
      refine kat_yes (kat_cons (wpAny_eqBool_str ?_))
      cases decide (y = y') with
      | false => exact kat_no (kat_one _ _ (lt_str (h' _)))
      | true => exact kat_yes (kat_nil (h' _))
  · rw [decide_eq_false hx]
    refine kat_no (oneLt_str (h _ (fun e => ?_) (fun e => ?_)))
    · exact fun q => List.lt_asymm (of_decide_eq_true e) q
    · exact of_decide_eq_false e
end
/-- the pairs told so far tell a before b -/
def reach (cs : List (Nat × Nat)) : Nat → Nat → Nat → Bool
  | 0, a, b => a == b
  | f + 1, a, b => a == b || cs.any fun c => c.1 == a && reach cs f c.2 b
def pairsOk (cs : List (Nat × Nat)) : List Nat → Bool
  | [] => true
  | a :: r => r.all (fun b => reach cs 4 a b) && pairsOk cs r
def treeOk (n : Nat) : List (Nat × Nat) → KasT (Array Nat) → Bool
  | cs, .ret p => p.toList.length == n && p.toList.all (fun i => decide (i < n)) && pairsOk cs p.toList
  | cs, .ask i j k => decide (i < n) && decide (j < n) && treeOk n ((i, j) :: cs) (k true) && treeOk n ((j, i) :: cs) (k false)
theorem tree2 : treeOk 2 [] (kas_sort 2) = true := by decide +kernel
theorem tree3 : treeOk 3 [] (kas_sort 3) = true := by decide +kernel
theorem tree4 : treeOk 4 [] (kas_sort 4) = true := by decide +kernel
section
variable {le : Nat → Nat → Prop} (refl : ∀ a, le a a) (trans : ∀ a b c, le a b → le b c → le a c)
include refl trans
theorem reach_le {cs : List (Nat × Nat)} (hcs : ∀ c ∈ cs, le c.1 c.2) : ∀ f a b, reach cs f a b = true → le a b
  | 0, a, b, h => by
    have : a = b := by simpa [reach] using h
    subst this; exact refl a
  | f + 1, a, b, h => by
    unfold reach at h
    rw [Bool.or_eq_true] at h
    rcases h with h | h
    · have : a = b := by simpa using h
      subst this; exact refl a
    · obtain ⟨c, hc, h⟩ := List.any_eq_true.mp h
      rw [Bool.and_eq_true] at h
      have e : c.1 = a := by simpa using h.1
      exact trans _ _ _ (e ▸ hcs c hc) (reach_le hcs f _ _ h.2)
theorem pairs_le {cs : List (Nat × Nat)} (hcs : ∀ c ∈ cs, le c.1 c.2) : ∀ l, pairsOk cs l = true → l.Pairwise le
  | [], _ => .nil
  | a :: r, h => by
    unfold pairsOk at h
    rw [Bool.and_eq_true] at h
    exact .cons (fun b hb => reach_le refl trans hcs _ _ _ (List.all_eq_true.mp h.1 b hb)) (pairs_le hcs r h.2)
theorem tree_wp {n : Nat} {cmp : Nat → Nat → (Bool → Shared → Prop) → Shared → Prop} {I : Shared → Prop} {Q : Array Nat → Shared → Prop}
    (hcmp : ∀ i j C s, i < n → j < n → I s → (∀ c : Bool, (c = true → le i j) → (c = false → le j i) → ∀ s', I s' → C c s') → cmp i j C s)
    (hQ : ∀ p : Array Nat, p.toList.length = n → (∀ i ∈ p.toList, i < n) → p.toList.Pairwise le → ∀ s, I s → Q p s) :
    ∀ (t : KasT (Array Nat)) (cs : List (Nat × Nat)) (s : Shared), treeOk n cs t = true → (∀ c ∈ cs, le c.1 c.2) → I s → t.kasWp cmp Q s
  | .ret p, cs, s, h, hcs, hI => by
    unfold treeOk at h
    simp only [Bool.and_eq_true] at h
    exact hQ p (by simpa using h.1.1) (fun i hi => by simpa using List.all_eq_true.mp h.1.2 i hi) (pairs_le refl trans hcs _ h.2) s hI
  | .ask i j k, cs, s, h, hcs, hI => by
    unfold treeOk at h
    simp only [Bool.and_eq_true, decide_eq_true_eq] at h
    obtain ⟨⟨⟨hi, hj⟩, h1⟩, h2⟩ := h
    refine hcmp i j _ s hi hj hI fun c hc1 hc2 s' hI' => ?_
    cases c with
    | true => exact tree_wp hcmp hQ (k true) _ s' h1 (fun c hc => (List.mem_cons.mp hc).elim (fun e => e ▸ hc1 rfl) (hcs c)) hI'
    | false => exact tree_wp hcmp hQ (k false) _ s' h2 (fun c hc => (List.mem_cons.mp hc).elim (fun e => e ▸ hc2 rfl) (hcs c)) hI'
end

theorem paired_pick {α β : Type} {F : α → β → Prop} (a0 : α) (b0 : β) {l₁ : List α} {l₂ : List β} (h : Paired F l₁ l₂) : ∀ i, i < l₁.length → F (l₁.getD i a0) (l₂.getD i b0) := by
  induction h with
  | nil => intro i hi; exact absurd hi (Nat.not_lt_zero _)
  | cons hab _ ih =>
    intro i hi
    cases i with
    | zero => exact hab
    | succ i => exact ih i (by simpa using hi)
theorem paired_map {α β : Type} {F : α → β → Prop} {f : Nat → α} {g : Nat → β} : ∀ l : List Nat, (∀ i ∈ l, F (f i) (g i)) → Paired F (l.map f) (l.map g)
  | [], _ => .nil
  | i :: l, h => .cons (h i (.head _)) (paired_map l fun j hj => h j (.tail _ hj))
section
variable {prog : Program} {w : World} {A : Around} {E : Value → Shared → Prop} {s : Shared} {h₀ : Heap} {L : Addr} {m : Str → Option Value} {news : List (Addr × Obj)}
/-- a row of the ledger with the text x -/
def TxtRow (objs : List (Addr × Obj)) (x : Str) (v : Value) : Prop :=
  ∃ R P y a b t1 t2 t3 t4, v = .ref R ∧ (R, ({ cls := .type "tuple", data := .seq #[.str x t1, .ref P, .str y t2] } : Obj)) ∈ objs ∧ (P, tup2I a b t3 t4) ∈ objs
theorem rows_tups {tx : Int → Str} {Rel : Int → Value → Prop} (hrel : ∀ x v, Rel x v → TxtRow news (tx x) v) {h : Heap} (N : News h₀ L h news) : ∀ {ns : List Int} {rs : List Value}, Paired Rel ns rs →
    ∃ fs, KatTups h rs fs ∧ fs.length = ns.length ∧ ∀ v ∈ fs, ∃ x t, v = Value.str x t
  | _, _, .nil => ⟨[], .nil, rfl, fun _ h => nomatch h⟩
  | _, _, .cons h r => by
    obtain ⟨fs, h1, h2, h3⟩ := rows_tups hrel N r
    obtain ⟨R, P, y, a, b, t1, t2, t3, t4, rfl, hR, _⟩ := hrel _ _ h
    refine ⟨.str _ t1 :: fs, .cons (News.get N hR) rfl rfl rfl h1, by simp [h2], fun v hv => ?_⟩
    rcases List.mem_cons.mp hv with rfl | hv
    · exact ⟨_, _, rfl⟩
    · exact h3 v hv
/-- the rows sorted by their texts -/
theorem sort_rows {aR : Addr} {n : Nat} {rs : List Value} {ns : List Int} {Q : Value → Shared → Prop} (tx : Int → Str) (Rel : Int → Value → Prop) (hrel : ∀ x v, Rel x v → TxtRow news (tx x) v) (F : Fr h₀ L s.heap m) (N : News h₀ L s.heap news) (hm : (aR, listOf rs.toArray n) ∈ news)
    (hP : Paired Rel ns rs) (h2 : 2 ≤ ns.length) (h4 : ns.length ≤ 4) (hu : A.in1.in1.units < cLine)
    (h : ∀ D c vs xs h', Fr h₀ L h' m → News h₀ L h' ((D, listOf (List.toArray vs) c) :: news) → Paired Rel xs vs → (∀ x ∈ xs, x ∈ ns) → xs.length = ns.length → xs.Pairwise (fun x y => txtLe (tx x) (tx y)) → Q (.ref D) { s with heap := h' }) :
    wpAny (model prog w) A (call (.builtin "sorted") [.ref aR]) Q E s := by
  have hl := hP.length
  refine kat_sorted (vs := rs) F N ⟨_, (N _ hm).1, rfl, _, rfl⟩ (by omega) (by omega) fun D e1 h' F' N' hD => ?_
  obtain ⟨fs, T, hfl, hfs⟩ := rows_tups hrel (fun p hp => N' p (.tail _ hp)) hP
  refine kat_kind T (by omega) (T := .type "str") (fun v hv => ?_) rfl ?_
  · obtain ⟨x, t, rfl⟩ := hfs v hv
    exact Looks.of_pure rfl
  have hb : (Value.type "str" != Value.type "tuple") = true := rfl
  rw [hb]
  have ht : treeOk rs.length [] (kas_sort rs.length) = true := by
    rcases (by omega : rs.length = 2 ∨ rs.length = 3 ∨ rs.length = 4) with e | e | e <;> rw [e]
    · exact tree2
    · exact tree3
    · exact tree4
  refine tree_wp (le := fun i j => txtLe (tx (ns.getD i 0)) (tx (ns.getD j 0))) (fun a => List.lt_irrefl _) (fun a b c h1 h2 => fun q => ?_) (n := rs.length) (I := fun s' => s' = { s with heap := h' }) ?_ ?_ _ [] _ ht (fun _ h => nomatch h) rfl
  · exact (List.not_lt.mpr (List.le_trans (List.not_lt.mp h1) (List.not_lt.mp h2))) q
  · rintro i j C s' hi hj rfl hC
    obtain ⟨R, P, y, a, b, t1, t2, t3, t4, e, hR, hPp⟩ := hrel _ _ (paired_pick 0 Value.none hP i (by omega))
    obtain ⟨R', P', y', a', b', u1, u2, u3, u4, e', hR', hPp'⟩ := hrel _ _ (paired_pick 0 Value.none hP j (by omega))
    unfold kas_ask
    rw [e, e']
    exact row_lt hu (News.get N' (.tail _ hR)) (News.get N' (.tail _ hR')) (News.get N' (.tail _ hPp)) (News.get N' (.tail _ hPp')) fun c h1 h2 => hC c h1 h2 _ rfl
  · rintro p hpl hpr hpw s' rfl
    refine KasFin.intro F' N' (g := fun o => (D, o) :: news) ?_ fun h'' c F'' N'' => ?_
    · exact .head fun p hp => Nat.ne_of_lt (hD p hp)
    · refine h D c _ (p.toList.map fun i => ns.getD i 0) h'' F'' N'' (paired_map _ fun i hi => paired_pick 0 Value.none hP i (by have := hpr i hi; omega)) (fun x hx => ?_) (by rw [List.length_map, hpl, hl]) (List.pairwise_map.mpr hpw)
      obtain ⟨i, hi, rfl⟩ := List.mem_map.mp hx
      have hi' := hpr i hi
      rw [List.getD_eq_getElem?_getD, List.getElem?_eq_getElem (by omega)]
      exact List.getElem_mem _
end

section
variable {prog : Program} {w : World} {A : Around} {E : Value → Shared → Prop} {env : Env} {s : Shared}
/-- [elt for x in a list], each element a value -/
theorem comp_elts {elt iter : Expr} {x : Str} {px : Pos} {scope : Scope} {cl : List (Str × Addr)} {pos : Pos} {Q : Value → Shared → Prop} (G : Value → Value → Prop) (hh : A.handled = none)
    (hclos : closureFor scope env = pure cl) (hcell : ∀ z ∈ scope.names, z.2 ≠ .cell) (hkind : scope.kind = .function)
    (hnames : ∀ z ∈ scope.names, z.2 = .local → scope.names.lookup z.1 = some .local) (hx : scope.names.lookup x = some .local)
    (hs : ∀ x, foldedSetIterable iter env x = pure x)
    (hit : wpAny (model prog w) A (eval iter env) (fun xv s₁ => ∃ ax ws, xv = .ref ax ∧ s₁.heap.IsList ax (List.toArray ws) ∧ List.length ws ≤ sizeLine ∧
      (∀ C v s₃ m₃ (E' : Value → Shared → Prop), v ∈ ws → s₃.heap.Ns C m₃ → m₃ x = some v → s₁.heap.StaysIn s₃.heap →
        wpAny (model prog w) A (eval elt (compEnvC scope cl C env)) (fun y s₄ => G v y ∧ Keeps s₃ s₄) E' s₃) ∧
      (∀ D ys n h' tk, s₁.heap.get? D = none → h'.get? D = some { cls := .type "list", data := .seq (List.toArray ys) n } → Paired G ws ys → s₁.heap.StaysIn h' → Q (.ref D) { s₁ with heap := h', toks := tk })) E s) :
    wpAny (model prog w) A (eval (.ListComp elt [⟨.Name x px, iter, [], 0⟩] scope pos) env) Q E s := by
  refine wpAny_ListComp_free (fun _ => true) G hclos hcell hkind hnames hx (wpAny_mono hit (fun xv s₁ h₁ => ?_) fun _ _ e => e) hs
  obtain ⟨ax, ws, rfl, hl, hsz, helt, hQ⟩ := h₁
  refine wpAny_pyIter_list hl ?_
  have hlt : ax < s₁.heap.objs.size := by obtain ⟨o, e, _⟩ := hl; exact Heap.lt_size e
  have hI : s₁.heap.get? s₁.heap.objs.size = none := Heap.get?_none_of_le (Nat.le_refl _)
  have st : s₁.heap.StaysIn (s₁.heap.push { cls := .type "list_iterator", data := .fields #[.ref ax, .int 0 0] }) := fun b o e => Heap.get?_push_of_some _ e
  have hlen : ws.toArray.size = ws.length := by simp
  have old : ∀ {h : Heap}, (∀ b o, b ∉ [s₁.heap.objs.size] → (s₁.heap.push { cls := .type "list_iterator", data := .fields #[.ref ax, .int 0 0] }).get? b = some o → h.get? b = some o) → s₁.heap.StaysIn h := fun hk b o e => hk b o (by simpa using fun q => by rw [q, hI] at e; cases e) (st b o e)
  refine ⟨s₁.heap.objs.size, _, [s₁.heap.objs.size], ws.toArray.size, _, _, rfl, Walks.list hh s₁.heap.objs.size ax (Nat.ne_of_lt hlt) ws.toArray, by rw [hlen]; exact hsz, ⟨⟨_, Heap.get?_push_size _ rfl, rfl, rfl⟩, hl.at fun o e => st _ _ e⟩, ?_, ⟨?_, ?_⟩, ?_⟩
  · intro b hb
    show b < (s₁.heap.push _).objs.size
    rw [Heap.size_push]
    rcases List.mem_cons.mp hb with rfl | hb
    · exact Nat.lt_succ_self _
    · rw [List.mem_singleton.mp hb]; exact Nat.lt_succ_of_lt hlt
  · intro C i v s₃ m₃ E' _ hv hn hm hk _
    rw [List.forIn_nil]
    exact wpAny_pure ⟨rfl, s₃.heap, s₃.toks, rfl, fun _ _ e => e⟩
  · intro C i v s₃ m₃ E' _ hv _ hn hm hk _
    have hv' : v ∈ ws := List.mem_of_getElem? (by simpa using hv : ws[i]? = some v)
    exact helt C v s₃ m₃ E' hv' hn hm (old hk)
  · intro D h' tk ys vs' hD hlD hpl hlv hP hF hk
    have e : vs' = ws := by
      refine List.ext_getElem? fun i => ?_
      by_cases hi : i < vs'.length
      · have q := hP i _ (List.getElem?_eq_getElem hi)
        rw [List.getElem?_eq_getElem hi, ← q]; simp
      · rw [List.getElem?_eq_none (by omega), List.getElem?_eq_none (by rw [← hlen, ← hlv]; omega)]
    subst e
    rw [List.filter_eq_self.mpr fun _ _ => rfl] at hF
    obtain ⟨n, hpl⟩ := hpl
    refine hQ D ys.toList n h' tk ?_ (by simpa using hpl) hF (old hk)
    cases q : s₁.heap.get? D with
    | none => rfl
    | some o => rw [st _ _ q] at hD; cases hD
end

section
variable {h₀ h : Heap} {L : Addr} {s : Shared}
theorem row_end {I aR aN R P : Addr} {o : Obj} {rs ws : List Value} {n : Nat} {st : Str} {x : Int} {t1 t2 t3 t4 : Tok} {objs : List (Addr × Obj)} {M0 : Str → Option Value} {vx vp vn vw a b c d : Option Value} {Q : Flow → Shared → Prop} {tk : Nat}
    (F : Fr h₀ L h (fun z => if z = Str.ofString "way" then d else if z = Str.ofString "names" then c else if z = Str.ofString "pair" then b else if z = Str.ofString "x" then a else rowM M0 vx vp vn vw z))
    (N : News h₀ L h ((aR, listOf (List.toArray (rs ++ [Value.ref R])) n) :: (I, o) :: (aN, listOf ws.toArray 0) :: (R, row3 st x P t1 t2) :: (P, tup2I (upOf x) (loOf x) t3 t4) :: objs))
    (hc : ∀ q ∈ objs, (q : Addr × Obj).2.cls = .type "tuple") (ho : o.cls = .type "list_iterator") :
    UnrPostW h₀ L s [(I, o)] (fun m' n' => ∃ R P t1 t2 t3 t4 n1 vx vp vn vw, m' = rowM M0 vx vp vn vw ∧ n' = ((aR, listOf (List.toArray (rs ++ [.ref R])) n1) :: (aN, listOf ws.toArray 0) :: (R, row3 st x P t1 t2) :: (P, tup2I (upOf x) (loOf x) t3 t4) :: objs)) Q .next { s with heap := h, toks := tk } := by
  have N' : News h₀ L h ([(I, o)] ++ ((aR, listOf (List.toArray (rs ++ [Value.ref R])) n) :: (aN, listOf ws.toArray 0) :: (R, row3 st x P t1 t2) :: (P, tup2I (upOf x) (loOf x) t3 t4) :: objs)) := news_sub N fun p hp => by
    rcases List.mem_cons.mp hp with rfl | hp
    · exact .tail _ (.head _)
    rcases List.mem_cons.mp hp with rfl | hp
    · exact .head _
    · exact .tail _ (.tail _ hp)
  refine ⟨h, tk, _, _, rfl, F, N', off_cls N' fun p hp q hq => ?_, R, P, t1, t2, t3, t4, n, _, _, _, _, rowM_1 _ _ _ _ _ _ _ _ _, rfl⟩
  rw [List.mem_singleton.mp hq]
  show p.2.cls ≠ o.cls
  rw [ho]
  rcases List.mem_cons.mp hp with rfl | hp
  · show Value.type "list" ≠ _; decide
  rcases List.mem_cons.mp hp with rfl | hp
  · show Value.type "list" ≠ _; decide
  rcases List.mem_cons.mp hp with rfl | hp
  · show Value.type "tuple" ≠ _; decide
  rcases List.mem_cons.mp hp with rfl | hp
  · show Value.type "tuple" ≠ _; decide
  · rw [hc p hp]; decide
end

section
variable {prog : Program} {w : World} {A : Around} {E : Value → Shared → Prop} {s : Shared}
theorem len_vals {l : Addr} {vs : List Value} {Q : Value → Shared → Prop} (hl : s.heap.IsList l vs.toArray) (hz : vs.length ≤ 4) (h : Q (.int (vs.length : Int) (s.toks + 1)) { s with toks := s.toks + 1 + 1 }) :
    wpAny (model prog w) A (call (.builtin "len") [.ref l]) Q E s := kun_lenL hl (k := (vs.length : Int)) (by simp) (by omega) h
end

def lawM (M : Str → Option Value) (vi vj vl vh vc : Option Value) : Str → Option Value := fun z =>
  if z = Str.ofString "common" then vc else if z = Str.ofString "high" then vh else if z = Str.ofString "low" then vl else if z = Str.ofString "j" then vj else if z = Str.ofString "i" then vi else M z
theorem lawM_0 (M : Str → Option Value) : lawM M (M (Str.ofString "i")) (M (Str.ofString "j")) (M (Str.ofString "low")) (M (Str.ofString "high")) (M (Str.ofString "common")) = M := by
  funext z
  unfold lawM
  repeat' split
  all_goals (first | rfl | (subst z; rfl))
theorem lawM_i (M : Str → Option Value) (vi vj vl vh vc a : Option Value) : (fun z => if z = Str.ofString "i" then a else lawM M vi vj vl vh vc z) = lawM M a vj vl vh vc := by
  funext z
  unfold lawM
  repeat' split
  all_goals (first | rfl | (subst z; first | exact absurd ‹_› (by decide) | rfl))
theorem lawM_1 (M : Str → Option Value) (vi vj vl vh vc a b c d : Option Value) :
    (fun z => if z = Str.ofString "common" then d else if z = Str.ofString "high" then c else if z = Str.ofString "low" then b else if z = Str.ofString "j" then a else lawM M vi vj vl vh vc z) = lawM M vi a b c d := by
  funext z
  unfold lawM
  repeat' split
  all_goals (first | rfl | (subst z; first | exact absurd ‹_› (by decide) | rfl))
section
variable {prog : Program} {w : World} {A : Around} {E : Value → Shared → Prop} {s : Shared} {env : Env} {h₀ : Heap} {x : Str} {body : List Stmt} {Q : Flow → Shared → Prop}
/-- a loop over a range by what holds between its turns -/
theorem iter_rng {r : Addr} {a b : Int} {t₀ u₀ v₀ : Tok} {n : Nat} {m₀ : Str → Option Value} {news₀ : List (Addr × Obj)} (J : Nat → (Str → Option Value) → List (Addr × Obj) → Prop)
    (hh : A.handled = none) (hr : IsRange s.heap r a b 1 t₀ u₀ v₀) (ha : 0 ≤ a) (hb : b ≤ 4) (hn : b - a = (n : Int)) (F : Fr h₀ env.locals s.heap m₀) (N : News h₀ env.locals s.heap news₀)
    (hJ : J 0 m₀ news₀)
    (step : ∀ I j m news, (∀ p ∈ news₀, (p : Addr × Obj).1 < I) → j < n → J j m news → ∀ t h tk, Fr h₀ env.locals h (fun y => if y = x then some (.int (a + (j : Int)) t) else m y) →
        News h₀ env.locals h ((I, itR (a + ((j + 1 : Nat) : Int)) ((n : Int) - ((j + 1 : Nat) : Int))) :: news) →
        wpAny (model prog w) A (execs body env) (UnrPost h₀ env.locals { s with heap := h, toks := tk } I (itR (a + ((j + 1 : Nat) : Int)) ((n : Int) - ((j + 1 : Nat) : Int))) (J (j + 1)) Q) E { s with heap := h, toks := tk })
    (fin : ∀ m news, J n m news → ∀ h tk, Fr h₀ env.locals h m → News h₀ env.locals h news → Q .next { s with heap := h, toks := tk }) :
    wpAny (model prog w) A (pyIter (.ref r)) (fun it s₂ => LoopAtV prog w A h₀ env x body Q E it s₂) E s := by
  refine iter_rangeUnr (n := n) hh hr (small_one (by omega) (by omega) (by omega) (by omega)) ?_ F N fun I hI => ?_
  · unfold Builtin.Range.rangeSize
    rw [if_pos (by decide)]
    split <;> omega
  · exact range_fold J n 0 m₀ news₀ hJ (fun j m news _ h2 hJ' t h tk F N => step I j m news hI (by omega) hJ' t h tk F N) (fun m news hJ' h tk F N => fin m news (by rw [Nat.zero_add] at hJ'; exact hJ') h tk F N)
end
theorem turn_end {h₀ h : Heap} {L I : Addr} {s : Shared} {it : Obj} {m : Str → Option Value} {news big : List (Addr × Obj)} {rest : (Str → Option Value) → List (Addr × Obj) → Prop} {Q : Flow → Shared → Prop} {tk : Nat} (F : Fr h₀ L h m) (N : News h₀ L h big)
    (hs : ∀ p ∈ ((I, it) :: news), p ∈ big) (hlt : ∀ p ∈ news, (p : Addr × Obj).1 < I) (hr : rest m news) : UnrPost h₀ L s I it rest Q .next { s with heap := h, toks := tk } :=
  ⟨h, tk, m, news, rfl, F, news_sub N hs, fun p hp => Nat.ne_of_lt (hlt p hp), hr⟩
theorem news_cons {h₀ g g' : Heap} {L D : Addr} {o : Obj} {m : Str → Option Value} {news : List (Addr × Obj)} (F : Fr h₀ L g m) (N : News h₀ L g' news) (hn : g.get? D = none) (hg : g'.get? D = some o) : News h₀ L g' ((D, o) :: news) := fun p hp => by
  rcases List.mem_cons.mp hp with rfl | hp
  · refine ⟨hg, fun e => ?_, ?_⟩
    · obtain ⟨oL, _, _, hL, _⟩ := F.ns
      have e : D = L := e
      rw [e, hL] at hn; cases hn
    · cases hq : h₀.get? D with
      | none => rfl
      | some x => rw [F.keep _ _ hq] at hn; cases hn
  · exact N p hp

theorem getD_mem {α : Type} {l : List α} {d : α} {i : Nat} (h : i < l.length) : l.getD i d ∈ l := by
  rw [List.getD_eq_getElem?_getD, List.getElem?_eq_getElem h]
  exact List.getElem_mem h
theorem getD_get {α : Type} {l : List α} {d : α} {i : Nat} (h : i < l.length) : l[i]? = some (l.getD i d) := by
  rw [List.getD_eq_getElem?_getD, List.getElem?_eq_getElem h]
  rfl
theorem upOf_le (x : Int) : 1 ≤ upOf x ∧ upOf x ≤ 9 := by
  have h1 := Int.fmod_nonneg_of_pos x (b := 9) (by decide)
  have h2 := Int.fmod_lt_of_pos x (b := 9) (by decide)
  unfold upOf
  omega
theorem loOf_le (x : Int) : 1 ≤ loOf x ∧ loOf x ≤ 9 := by
  have h1 := Int.fmod_nonneg_of_pos (Int.fdiv x 9) (b := 9) (by decide)
  have h2 := Int.fmod_lt_of_pos (Int.fdiv x 9) (b := 9) (by decide)
  unfold loOf
  omega
theorem pair_led {h₀ h : Heap} {L I2 I1 D Ri Pi Rj Pj : Addr} {o2 o1 oD ri pi rj pj : Obj} {objs : List (Addr × Obj)} (N : News h₀ L h ((I2, o2) :: (I1, o1) :: (D, oD) :: objs)) (h1 : (Ri, ri) ∈ objs) (h2 : (Pi, pi) ∈ objs) (h3 : (Rj, rj) ∈ objs) (h4 : (Pj, pj) ∈ objs) :
    News h₀ L h ((Ri, ri) :: (Pi, pi) :: (Rj, rj) :: (Pj, pj) :: (I2, o2) :: (I1, o1) :: (D, oD) :: objs) := fun p hp => by
  rcases List.mem_cons.mp hp with rfl | hp
  · exact N _ (.tail _ (.tail _ (.tail _ h1)))
  rcases List.mem_cons.mp hp with rfl | hp
  · exact N _ (.tail _ (.tail _ (.tail _ h2)))
  rcases List.mem_cons.mp hp with rfl | hp
  · exact N _ (.tail _ (.tail _ (.tail _ h3)))
  rcases List.mem_cons.mp hp with rfl | hp
  · exact N _ (.tail _ (.tail _ (.tail _ h4)))
  · exact N p hp
theorem txtLe_refl (x : Str) : txtLe x x := List.lt_irrefl _
/-- the texts between i and j -/
theorem stretch_le {tx : Int → Str} {xs : List Int} (hp : xs.Pairwise fun x y => txtLe (tx x) (tx y)) {i j : Nat} (hij : i ≤ j) (hj : j < xs.length) :
    ∀ z ∈ (xs.drop i).take (j + 1 - i), txtLe (tx (xs.getD i 0)) (tx z) ∧ txtLe (tx z) (tx (xs.getD j 0)) := by
  have at' : ∀ k l, k ≤ l → l < xs.length → txtLe (tx (xs.getD k 0)) (tx (xs.getD l 0)) := fun k l hkl hl => by
    rcases Nat.lt_or_eq_of_le hkl with h | rfl
    · rw [List.getD_eq_getElem?_getD, List.getD_eq_getElem?_getD, List.getElem?_eq_getElem (by omega), List.getElem?_eq_getElem hl]
      exact List.pairwise_iff_getElem.mp hp k l (by omega) hl h
    · exact txtLe_refl _
  intro z hz
  obtain ⟨k, hk, rfl⟩ := List.getElem_of_mem hz
  have hk' : k < j + 1 - i := by simp only [List.length_take, List.length_drop] at hk; omega
  have e : ((xs.drop i).take (j + 1 - i))[k] = xs.getD (i + k) 0 := by
    rw [List.getElem_take, List.getElem_drop, List.getD_eq_getElem?_getD, List.getElem?_eq_getElem (by omega)]
    rfl
  rw [e]
  exact ⟨at' _ _ (by omega) (by omega), at' _ _ (by omega) (by omega)⟩

theorem slice_mid (ws : List Value) (i k : Nat) (h : i ≤ k) (hk : k ≤ ws.length) : (slicePick ws.toArray (some (i : Int)) (some (k : Int)) none).toList = (ws.drop i).take (k - i) := by
  have e : sliceBounds (some (i : Int)) (some (k : Int)) none ws.toArray.size = ((i : Int), (k : Int), 1) := by
    simp only [sliceBounds, Option.getD_none, show (1 : Int) > 0 by decide, if_true, if_neg (show ¬ ((i : Int) < 0) by omega), if_neg (show ¬ ((k : Int) < 0) by omega), List.size_toArray]
    rw [show min (i : Int) (ws.length : Int) = (i : Int) by omega, show min (k : Int) (ws.length : Int) = (k : Int) by omega, show max (0 : Int) (i : Int) = (i : Int) by omega, show max (0 : Int) (k : Int) = (k : Int) by omega]
  rw [kmk_pick_nat _ e]
/-- the numbers of a stretch -/
def stretch (xs : List Int) (i k : Nat) : List Int := (xs.drop i).take (k - i)
theorem stretch_rows {F : Int → Value → Prop} {xs : List Int} {vs : List Value} (h : Paired F xs vs) : ∀ i k, Paired F ((xs.drop i).take k) ((vs.drop i).take k) := by
  induction h with
  | nil => intro i k; simpa using Paired.nil
  | cons hab hr ih =>
    intro i k
    cases i with
    | zero =>
      cases k with
      | zero => exact .nil
      | succ k => exact .cons hab (by simpa using ih 0 k)
    | succ i => simpa using ih i k
theorem paired_strs {G : Int → Value → Prop} {H : Value → Value → Prop} {f : Int → Str} (hg : ∀ x v y, G x v → H v y → ∃ t, y = .str (f x) t) : ∀ {xs : List Int} {vs ys : List Value}, Paired G xs vs → Paired H vs ys → StrsAre ys (xs.map f)
  | _, _, _, .nil, .nil => .nil
  | _, _, _, .cons h1 r1, .cons h2 r2 => by
    obtain ⟨t, rfl⟩ := hg _ _ _ h1 h2
    exact .cons _ t (paired_strs hg r1 r2)
theorem stretch_mem {xs : List Int} {i k : Nat} {z : Int} (h : z ∈ stretch xs i k) : z ∈ xs := List.mem_of_mem_drop (List.mem_of_mem_take h)
theorem stretch_pos {xs : List Int} {i k : Nat} (h : i < k) (hk : k ≤ xs.length) : 0 < (stretch xs i k).length := by
  unfold stretch
  rw [List.length_take, List.length_drop]
  omega
theorem stretch_lo {xs : List Int} {i k : Nat} (h : i < k) (hk : k ≤ xs.length) : xs.getD i 0 ∈ stretch xs i k := by
  unfold stretch
  rw [List.getD_eq_getElem?_getD, List.getElem?_eq_getElem (by omega)]
  refine List.mem_iff_getElem.mpr ⟨0, by simp only [List.length_take, List.length_drop]; omega, ?_⟩
  rw [List.getElem_take, List.getElem_drop]
  rfl
theorem stretch_hi {xs : List Int} {i j : Nat} (h : i ≤ j) (hk : j + 1 ≤ xs.length) : xs.getD j 0 ∈ stretch xs i (j + 1) := by
  unfold stretch
  rw [List.getD_eq_getElem?_getD, List.getElem?_eq_getElem (by omega)]
  refine List.mem_iff_getElem.mpr ⟨j - i, by simp only [List.length_take, List.length_drop]; omega, ?_⟩
  rw [List.getElem_take, List.getElem_drop]
  show _ = xs[j]
  congr 1
  omega
theorem abs_at (b : Bool) {x : Int} (h : 0 ≤ x ∧ x ≤ 242) : Txt.startswith (wayS (startS b) x) (Str.ofString "/") = b := by
  obtain ⟨n, rfl, hn⟩ := nat_of h
  exact (way_at b hn).2
/-- commonpath of the ways of a stretch -/
theorem cps_c (w : World) (b : Bool) (zs : List Int) (ys : List Value) (na : Addr) (nn : Nat) (hz : ∀ z ∈ zs, 0 ≤ z ∧ z ≤ 242) (h0 : 0 < zs.length) (h4 : zs.length ≤ 4) (hy : StrsAre ys (zs.map (wayS (startS b)))) :
    Tells w 134 8 60 [(na, lstN ys nn)] [.ref na] (RetV fun t => .str (cpS b (zs.map (wayS (startS b)))) t) := by
  have hst : (startS b).length ≤ 1 := by cases b <;> decide +kernel
  obtain ⟨z0, zr, rfl⟩ : ∃ z0 zr, zs = z0 :: zr := by
    match zs, h0 with
    | z0 :: zr, _ => exact ⟨z0, zr, rfl⟩
  have hyl := hy.length
  rw [List.length_map] at hyl
  refine cp_c w ys (wayS (startS b) z0) (zr.map (wayS (startS b))) b na nn hy (by omega) (fun x hx => ?_) fun x hx => ?_
  · obtain ⟨z, hz', rfl⟩ := List.mem_map.mp (show x ∈ (z0 :: zr).map (wayS (startS b)) from hx)
    have := wayS_len hst z
    omega
  · obtain ⟨z, hz', rfl⟩ := List.mem_map.mp (show x ∈ (z0 :: zr).map (wayS (startS b)) from hx)
    exact abs_at b (hz z hz')
theorem cps_len (b : Bool) {zs : List Int} (h0 : 0 < zs.length) : (cpS b (zs.map (wayS (startS b)))).length ≤ 4096 := by
  have hst : (startS b).length ≤ 1 := by cases b <;> decide +kernel
  refine Nat.le_trans (cpS_len (by rw [List.length_map]; exact h0) fun x hx => ?_) (by decide)
  obtain ⟨z, hz', rfl⟩ := List.mem_map.mp hx
  exact wayS_len hst z

abbrev rowO (x : Str) (P : Addr) (y : Str) (t1 t2 : Tok) : Obj := { cls := .type "tuple", data := .seq #[.str x t1, .ref P, .str y t2] }
/-- y is the third item of the row v -/
def ThirdIs (objs : List (Addr × Obj)) (v y : Value) : Prop := ∃ R tx t1 P w t2, v = .ref R ∧ (R, rowO tx P w t1 t2) ∈ objs ∧ y = .str w t2
theorem news_same {h₀ h : Heap} {L a : Addr} {o o' : Obj} {objs : List (Addr × Obj)} (N : News h₀ L h objs) (h1 : (a, o) ∈ objs) (h2 : (a, o') ∈ objs) : o = o' :=
  Option.some.inj ((N _ h1).1.symm.trans (N _ h2).1)
/-- what a turn of the two loops has to know -/
structure TurnF (b : Bool) (vs : List Value) (objs : List (Addr × Obj)) (i j : Nat) (cq : Str) (ss : List Value) (Ri Rj : Addr) (ti tj : Str) (ui li uj lj : Int) : Prop where
  ei : vs[((0 : Int) + (i : Int)).toNat]? = some (.ref Ri)
  ej : vs[((0 : Int) + (i : Int) + (j : Int)).toNat]? = some (.ref Rj)
  ord : decide (ti.cps.toList < tj.cps.toList) = decide (ui * lj < uj * li)
  len : cq.length ≤ 4096
  told : (toldOf (namesN (startS b) 8 ([], cq)).1.reverse).2.2 = simpFrom ui li uj lj 9 1
  pick : (slicePick vs.toArray (some ((0 : Int) + (i : Int))) (some ((0 : Int) + (i : Int) + (j : Int) + 1)) none).toList = ss
  few : ss.length ≤ 4
  third : ∀ v ∈ ss, ∃ R tx t1 P w t2, v = .ref R ∧ (R, rowO tx P w t1 t2) ∈ objs
  cps : ∀ w ys na nn, Paired (ThirdIs objs) ss ys → Tells w 134 8 60 [(na, lstN ys nn)] [.ref na] (RetV fun t => .str cq t)
theorem turn_facts {b : Bool} {xs : List Int} {vs : List Value} {objs : List (Addr × Obj)} {h₀ h : Heap} {L I2 I1 D : Addr} {o2 o1 oD : Obj} {i j : Nat}
    (hP2 : Paired (RowAt (startS b) objs) xs vs) (hr : ∀ x ∈ xs, 0 ≤ x ∧ x ≤ 242) (h4 : xs.length ≤ 4) (hpw : xs.Pairwise fun x y => txtLe (textS (startS b) x) (textS (startS b) y)) (hij : i + j < xs.length)
    (N9 : News h₀ L h ((I2, o2) :: (I1, o1) :: (D, oD) :: objs)) :
    ∃ (cq : Str) (ss : List Value) (Ri Pi Rj Pj : Addr) (ti tj wi wj : Str) (ui li uj lj : Int) (a1 a2 a3 a4 b1 b2 b3 b4 : Tok),
      (1 ≤ ui ∧ ui ≤ 9) ∧ (1 ≤ li ∧ li ≤ 9) ∧ (1 ≤ uj ∧ uj ≤ 9) ∧ (1 ≤ lj ∧ lj ≤ 9) ∧ TurnF b vs objs i j cq ss Ri Rj ti tj ui li uj lj ∧
      News h₀ L h ((Ri, rowO ti Pi wi a1 a2) :: (Pi, tup2I ui li a3 a4) :: (Rj, rowO tj Pj wj b1 b2) :: (Pj, tup2I uj lj b3 b4) :: (I2, o2) :: (I1, o1) :: (D, oD) :: objs) := by
  have hvx := hP2.length
  obtain ⟨Ri, Pi, a1, a2, a3, a4, ei, hRi, hPi⟩ := paired_pick 0 Value.none hP2 i (by omega)
  obtain ⟨Rj, Pj, b1, b2, b3, b4, ej, hRj, hPj⟩ := paired_pick 0 Value.none hP2 (i + j) (by omega)
  have hmi : xs.getD i 0 ∈ xs := getD_mem (by omega)
  have hmj : xs.getD (i + j) 0 ∈ xs := getD_mem (by omega)
  have hz0 : 0 < (stretch xs i (i + j + 1)).length := stretch_pos (by omega) (by omega)
  have hz4 : (stretch xs i (i + j + 1)).length ≤ 4 := by unfold stretch; rw [List.length_take, List.length_drop]; omega
  have hzr : ∀ z ∈ stretch xs i (i + j + 1), 0 ≤ z ∧ z ≤ 242 := fun z hz => hr _ (stretch_mem hz)
  have hrows : Paired (RowAt (startS b) objs) (stretch xs i (i + j + 1)) ((vs.drop i).take (i + j + 1 - i)) := stretch_rows hP2 i _
  have NO : News h₀ L h objs := news_sub N9 fun p hp => .tail _ (.tail _ (.tail _ hp))
  refine ⟨cpS b ((stretch xs i (i + j + 1)).map (wayS (startS b))), (vs.drop i).take (i + j + 1 - i), Ri, Pi, Rj, Pj, textS (startS b) (xs.getD i 0), textS (startS b) (xs.getD (i + j) 0), wayS (startS b) (xs.getD i 0), wayS (startS b) (xs.getD (i + j) 0),
    upOf (xs.getD i 0), loOf (xs.getD i 0), upOf (xs.getD (i + j) 0), loOf (xs.getD (i + j) 0), a1, a2, a3, a4, b1, b2, b3, b4, upOf_le _, loOf_le _, upOf_le _, loOf_le _, ⟨?_, ?_, law_ord b (hr _ hmi) (hr _ hmj), cps_len b hz0, ?_, ?_, ?_, ?_, ?_⟩, pair_led N9 hRi hPi hRj hPj⟩
  · rw [show ((0 : Int) + (i : Int)).toNat = i by omega, ← ei]; exact getD_get (by omega)
  · rw [show ((0 : Int) + (i : Int) + (j : Int)).toNat = i + j by omega, ← ej]; exact getD_get (by omega)
  · exact law_told b hzr (stretch_lo (by omega) (by omega)) (stretch_hi (by omega) (by omega)) (stretch_le hpw (by omega) (by omega))
  · rw [show (0 : Int) + (i : Int) = ((i : Nat) : Int) by omega, show ((i : Nat) : Int) + (j : Int) + 1 = ((i + j + 1 : Nat) : Int) by omega]
    exact slice_mid vs i (i + j + 1) (by omega) (by omega)
  · rw [List.length_take]; omega
  · intro v hv
    obtain ⟨z, R, P, t1, t2, _, _, e, hR, _⟩ := hrows.right v hv
    exact ⟨R, _, _, P, _, _, e, hR⟩
  · intro w ys na nn hy
    refine cps_c w b _ ys na nn hzr hz0 hz4 (paired_strs (fun x v y hx hy => ?_) hrows hy)
    obtain ⟨R, P, t1, t2, _, _, e, hR, _⟩ := hx
    obtain ⟨R', tx, t1', P', w', t2', e', hR', rfl⟩ := hy
    obtain rfl : R = R' := Value.ref.inj (e.symm.trans e')
    have := news_same NO hR hR'
    simp only [Obj.mk.injEq, Data.seq.injEq, Array.mk.injEq, List.cons.injEq, Value.str.injEq] at this
    exact ⟨t2', by rw [this.2.2.1.1.2.2.1.1]⟩

def numPost (h₀ : Heap) (L : Addr) (s : Shared) (m : Str → Option Value) (fl : Flow) (s' : Shared) : Prop :=
  fl = .next ∧ ∃ aN ws ns h tk, s' = { s with heap := h, toks := tk } ∧ Fr h₀ L h (fun y => if y = Str.ofString "numbers" then some (.ref aN) else m y) ∧ News h₀ L h [(aN, listOf (List.toArray ws) 0)] ∧
    IntsAre ws ns ∧ 2 ≤ ns.length ∧ ns.length ≤ 4 ∧ ∀ x ∈ ns, 0 ≤ x ∧ x ≤ 242
def startPost (h₀ : Heap) (L : Addr) (s : Shared) (m : Str → Option Value) (own : List (Addr × Obj)) (fl : Flow) (s' : Shared) : Prop :=
  fl = .next ∧ ∃ b t h tk, s' = { s with heap := h, toks := tk } ∧ Fr h₀ L h (fun y => if y = Str.ofString "start" then some (.str (startS b) t) else m y) ∧ News h₀ L h own
def namesPost (h₀ : Heap) (L : Addr) (s : Shared) (m : Str → Option Value) (own : List (Addr × Obj)) (x : Int) (fl : Flow) (s' : Shared) : Prop :=
  fl = .next ∧ ∃ aT n0 n1 t4 t5 h tk, s' = { s with heap := h, toks := tk } ∧ Fr h₀ L h (fun y => if y = Str.ofString "names" then some (.ref aT) else m y) ∧ News h₀ L h ((aT, tup2S n0 n1 t4 t5) :: own) ∧ namesOf (Int.fdiv x 81) = (n0, n1)
section
variable {M : Model} {A : Around} {E : Value → Shared → Prop} {s : Shared} {h₀ : Heap} {L : Addr} {m : Str → Option Value} {t : Sem Flow} {Q : Flow → Shared → Prop}
theorem cut_num (_F : Fr h₀ L s.heap m) (h1 : wpAny M A t (numPost h₀ L s m) E s)
    (h2 : ∀ aN ws ns h tk, Fr h₀ L h (fun y => if y = Str.ofString "numbers" then some (.ref aN) else m y) → News h₀ L h [(aN, listOf (List.toArray ws) 0)] →
      IntsAre ws ns → 2 ≤ ns.length → ns.length ≤ 4 → (∀ x ∈ ns, 0 ≤ x ∧ x ≤ 242) → Q .next { s with heap := h, toks := tk }) : wpAny M A t Q E s :=
  wpAny_mono h1 (fun fl s' q => by
    obtain ⟨rfl, aN, ws, ns, h, tk, rfl, a, b, c, d, e, f⟩ := q
    exact h2 aN ws ns h tk a b c d e f) fun _ _ e => e
theorem cut_start {own : List (Addr × Obj)} (_F : Fr h₀ L s.heap m) (_N : News h₀ L s.heap own) (h1 : wpAny M A t (startPost h₀ L s m own) E s)
    (h2 : ∀ b t h tk, Fr h₀ L h (fun y => if y = Str.ofString "start" then some (.str (startS b) t) else m y) → News h₀ L h own → Q .next { s with heap := h, toks := tk }) : wpAny M A t Q E s :=
  wpAny_mono h1 (fun fl s' q => by
    obtain ⟨rfl, b, t, h, tk, rfl, x, y⟩ := q
    exact h2 b t h tk x y) fun _ _ e => e
theorem cut_names {own : List (Addr × Obj)} (x : Int) (_F : Fr h₀ L s.heap m) (_N : News h₀ L s.heap own) (h1 : wpAny M A t (namesPost h₀ L s m own x) E s)
    (h2 : ∀ aT n0 n1 t4 t5 h tk, Fr h₀ L h (fun y => if y = Str.ofString "names" then some (.ref aT) else m y) → News h₀ L h ((aT, tup2S n0 n1 t4 t5) :: own) → namesOf (Int.fdiv x 81) = (n0, n1) → Q .next { s with heap := h, toks := tk }) : wpAny M A t Q E s :=
  wpAny_mono h1 (fun fl s' q => by
    obtain ⟨rfl, aT, n0, n1, t4, t5, h, tk, rfl, a, b, c⟩ := q
    exact h2 aT n0 n1 t4 t5 h tk a b c) fun _ _ e => e
end
local macro_rules | `(tactic| walk_at "call builtin:len") => `(tactic| (k_here; (with_reducible show wpAny _ _ (call (Value.builtin "len") [Value.ref _]) _ _ _); k_dflt (refine' len_vals (vs := _) ?k1 ?k2 ?_; (case k1 => exact News.isList (by k_asm) (by k_mem)); (case k2 => assumption); k_whole)))
set_option maxHeartbeats 8000000 in
theorem law_test : PySem.Challenge.rw_pd0131_01.Holds := hd (by
  k_go0
  all_goals (try k_fold)
  repeat' ((fail_if_success (with_reducible show wpAny _ _ (exec (Stmt.Assign _ _ _) _) _ _ _)); (first | (k_unfold; (try dsimp only)) | walk1 | (dsimp only; walk1)))
  k_dflt (refine' cut_num (by k_asm) ?n1 ?n2)
  · repeat' ((fail_if_success (with_reducible show numPost _ _ _ _ _ _)); (first | (k_unfold; (try dsimp only)) | walk1 | (dsimp only; walk1)))
    · rename Fr _ _ _ _ => FF
      rename News _ _ _ _ => NN
      exact ⟨rfl, _, [.int 138 _, .int 229 _, .int 35 _], [138, 229, 35], _, _, rfl, FF, news_sub NN (fun q hq => by rw [List.mem_singleton.mp hq]; exact .head _), .cons _ _ (.cons _ _ (.cons _ _ .nil)), by decide, by decide, by decide⟩
    · rename Fr _ _ _ _ => FF
      rename News _ _ _ _ => NN
      rename IntsAre _ (List.map _ _ ++ _) => hI9
      rename decide _ = false => hne9
      have hne := of_decide_eq_false hne9
      refine ⟨rfl, _, _, _, _, _, rfl, FF, news_sub NN (fun q hq => by rw [List.mem_singleton.mp hq]; exact .head _), hI9, ?_, ?_, fun x hx => mem_numbers hx⟩
      · have := List.length_pos_iff.mpr hne
        simp only [List.length_append, List.length_map, List.length_take, List.length_cons, List.length_nil]
        omega
      · simp only [List.length_append, List.length_map, List.length_take, List.length_cons, List.length_nil]
        omega
  · intro aN ws ns h1 tk1 F1 N1 hI hn2 hn4 hnr
    repeat' ((fail_if_success (with_reducible show wpAny _ _ (exec (Stmt.Assign _ _ _) _) _ _ _)); (first | (k_unfold; (try dsimp only)) | walk1 | (dsimp only; walk1)))
    k_dflt (refine' cut_start (by k_asm) (by k_asm) ?n3 ?n4)
    · repeat' ((fail_if_success (with_reducible show startPost _ _ _ _ _ _ _)); (first | (k_unfold; (try dsimp only)) | walk1 | (dsimp only; walk1)))
      all_goals rename Fr _ _ _ _ => FF
      all_goals rename News _ _ _ _ => NN
      · exact ⟨rfl, true, _, _, _, rfl, FF, NN⟩
      · exact ⟨rfl, false, _, _, _, rfl, FF, NN⟩
    · intro b tb h2 tk2 F2 N2
      repeat' ((fail_if_success (with_reducible show wpAny _ _ (exec (Stmt.For _ _ _ _ _) _) _ _ _)); (first | (k_unfold; (try dsimp only)) | walk1 | (dsimp only; walk1)))
      (k_here; (rename Fr _ _ _ _ => lF'); (with_unfolding_all refine' For_turns lF' ?_; k_whole))
      repeat' ((fail_if_success (with_reducible show wpAny _ _ (pyIter _) _ _ _)); (first | (k_unfold; (try dsimp only)) | walk1 | (dsimp only; walk1)))
      have hst : (startS b).length ≤ 1 := by cases b <;> decide +kernel
      k_dflt (refine' rows_turns (startS b) ?tth ?ttF ?ttN hI hn4 ?_ ?_)
      (case tth => rfl)
      (case ttF => k_asm)
      (case ttN => k_asm)
      · intro x tx rs n objs vx vp vn vw I o h tk hIw hx hrs hc ho F1 N1
        obtain ⟨hx2, hx3⟩ := hnr x hx
        repeat' ((fail_if_success (with_reducible show wpAny _ _ (exec (Stmt.Assign [Expr.Name (Str.ofString "names") _] _ _) _) _ _ _)); (first | (k_unfold; (try dsimp only)) | walk1 | (dsimp only; walk1)))
        rename Fr _ _ _ _ => FX
        rename News _ _ _ _ => NX
        with_reducible refine' cut_names x FX NX ?n5 ?n6
        · repeat' ((fail_if_success (with_reducible show wpAny _ _ (subscriptTail (Expr.List _ _) _ _ _) _ _ _)); (first | (k_unfold; (try dsimp only)) | walk1 | (dsimp only; walk1)))
          rcases fdiv81 hx2 hx3 with h81 | h81 | h81
          all_goals rw [h81]
          all_goals repeat' ((fail_if_success (with_reducible show namesPost _ _ _ _ _ _ _ _)); (first | (k_unfold; (try dsimp only)) | walk1 | (dsimp only; walk1)))
          all_goals rename Fr _ _ _ _ => FF
          all_goals rename News _ _ _ _ => NN
          · exact ⟨rfl, _, Str.ofString "l", Str.ofString "r", _, _, _, _, rfl, FF, news_sub NN (fun p hp => (List.mem_cons.mp hp).elim (fun e => by rw [e]; k_mem) (fun h => .tail _ (.tail _ (.tail _ (.tail _ h))))), by rw [h81]; rfl⟩
          · exact ⟨rfl, _, Str.ofString "./l/", Str.ofString "r//", _, _, _, _, rfl, FF, news_sub NN (fun p hp => (List.mem_cons.mp hp).elim (fun e => by rw [e]; k_mem) (fun h => .tail _ (.tail _ (.tail _ (.tail _ h))))), by rw [h81]; rfl⟩
          · exact ⟨rfl, _, Str.ofString "l/.", Str.ofString ".//r", _, _, _, _, rfl, FF, news_sub NN (fun p hp => (List.mem_cons.mp hp).elim (fun e => by rw [e]; k_mem) (fun h => .tail _ (.tail _ (.tail _ (.tail _ h))))), by rw [h81]; rfl⟩
        · intro aT n0 n1 t4 t5 h3 tk3 F3 N3 hnm
          repeat' ((fail_if_success (with_reducible show wpAny _ _ (call (Value.ref 183) _) _ _ _)); (first | (k_unfold; (try dsimp only)) | walk1 | (dsimp only; walk1)))
          k_dflt (refine' Tells.use (wayS_c _ x (startS b) n0 n1 _ _ _ ?ssa ?ssb _ hst hnm) ?ss1 ?ss2 ?ss3 ?ss4 ?ss5 ?ssK ?ssd ?ssu ?ssQ)
          (case ss1 => k_asm)
          (case ss2 => k_asm)
          (case ss3 => k_asm)
          (case ss4 => (refine news_sub (by k_asm) (fun p hp => ?_); rw [List.mem_singleton.mp hp]; k_mem))
          (case ss5 => k_asm)
          (case ssK => rfl)
          (case ssd => ktr_room)
          (case ssu => ktr_units)
          intro t9 h9 tk9 kp9
          (have F9 := fr_stays (by k_asm) kp9)
          (have N9 := news_stays (by k_asm) kp9)
          clear kp9
          (try dsimp only)
          (try k_fold)
          have hwl := wayS_len hst x
          have hcl : (cpS (absS (startS b) x) [wayS (startS b) x]).length ≤ 4096 := Nat.le_trans (cpS_len Nat.one_pos (fun z hz => by rw [List.mem_singleton.mp hz]; exact hwl)) (by decide)
          repeat' ((fail_if_success (with_reducible show wpAny _ _ (call (Value.ref 134) _) _ _ _)); (first | (k_unfold; (try dsimp only)) | walk1 | (dsimp only; walk1)))
          k_dflt (refine' Tells.use (cp1_c _ (startS b) x ?rra _ hst) ?rr1 ?rr2 ?rr3 ?rr4 ?rr5 ?rrK ?rrd ?rru ?rrQ)
          (case rr1 => k_asm)
          (case rr2 => k_asm)
          (case rr3 => k_asm)
          (case rr4 => (refine news_sub (by k_asm) (fun p hp => ?_); rw [List.mem_singleton.mp hp]; k_mem))
          (case rr5 => k_asm)
          (case rrK => rfl)
          (case rrd => ktr_room)
          (case rru => ktr_units)
          intro t10 h10 tk10 kp9
          (have F10 := fr_stays (by k_asm) kp9)
          (have N10 := news_stays (by k_asm) kp9)
          clear kp9
          (try dsimp only)
          (try k_fold)
          repeat' ((fail_if_success (with_reducible show wpAny _ _ (call (Value.ref 115) _) _ _ _)); (first | (k_unfold; (try dsimp only)) | walk1 | (dsimp only; walk1)))
          k_dflt (refine' Tells.use (join_c _ _ _ _ _ hcl (by decide)) ?ja ?jb ?jc ?jd ?je ?jf ?jg ?jh ?_)
          (case ja => k_asm)
          (case jb => k_asm)
          (case jc => k_asm)
          (case jd => exact News.nil)
          (case je => k_asm)
          (case jf => rfl)
          (case jg => ktr_room)
          (case jh => ktr_units)
          intro t12 h12 tk12 kp9
          (have F12 := fr_stays (by k_asm) kp9)
          (have N12 := news_stays (by k_asm) kp9)
          clear kp9
          (try dsimp only)
          (try k_fold)
          repeat' ((fail_if_success (with_reducible show wpAny _ _ (call (Value.builtin "list.append") _) _ _ _)); (first | (k_unfold; (try dsimp only)) | walk1 | (dsimp only; walk1)))
          k_dflt (refine' append_rows (st := startS b) (x := x) (rs := rs) (objs := objs) hIw ?qqF ?qqN ?qqs hc ho ?qqn hrs ?qqQ)
          (case qqF => k_asm)
          (case qqN => k_asm)
          (case qqs => kcj_all)
          (case qqn => k_ne)
          intro h11 F11 N11
          repeat' ((fail_if_success (with_reducible show UnrPostW _ _ _ _ _ _ _ _)); (first | (k_unfold; (try dsimp only)) | walk1 | (dsimp only; walk1)))
          exact row_end F11 N11 hc ho
      · intro rs n objs vx vp vn vw h3 tk3 hobj hP F3 N3
        repeat' ((fail_if_success (with_reducible show wpAny _ _ (call (Value.builtin "sorted") _) _ _ _)); (first | (k_unfold; (try dsimp only)) | walk1 | (dsimp only; walk1)))
        k_dflt (refine' sort_rows (textS (startS b)) (RowAt (startS b) objs) (fun x v hr => ?soR) ?soF ?soN ?som hP hn2 hn4 ?sou ?soQ)
        (case soF => k_asm)
        (case soN => k_asm)
        (case soR =>
          obtain ⟨R, P, t1, t2, t3, t4, e, h1, h2⟩ := hr
          exact ⟨R, P, _, _, _, _, _, _, _, e, .tail _ (.tail _ h1), .tail _ (.tail _ h2)⟩)
        (case som => exact .head _)
        (case sou => ktr_units)
        intro D c vs xs h4 F4 N4 hP2 hxs hxl hpw
        (try dsimp only)
        have hvl : vs.length ≤ 4 := by have := hP2.length; omega
        repeat' ((fail_if_success (with_reducible show wpAny _ _ (pyIter _) _ _ _)); (first | (k_unfold; (try dsimp only)) | walk1 | (dsimp only; walk1)))
        rename Fr _ _ _ _ => F5
        rename News _ _ _ _ => N5
        rename IsRange _ _ _ _ _ _ _ _ => R5
        have N6 := news_sub (own := (D, listOf (List.toArray vs) c) :: objs) N5 fun p hp => (List.mem_cons.mp hp).elim (fun e => by rw [e]; exact .head _) fun hp => .tail _ (.tail _ (.tail _ hp))
        with_unfolding_all refine iter_rng (n := vs.length) (fun _ m news => news = (D, listOf (List.toArray vs) c) :: objs ∧ ∃ vi vj vl vh vc, m = lawM _ vi vj vl vh vc) rfl R5 (by decide) (by omega) (by omega) F5 N6 ⟨rfl, _, _, _, _, _, (lawM_0 _).symm⟩ ?_ ?_
        · rintro I1 i m news hI1 hi ⟨rfl, vi, vj, vl, vh, vc, rfl⟩ ti h5 tk5 F7 N7
          repeat' ((fail_if_success (with_reducible show wpAny _ _ (pyIter _) _ _ _)); (first | (k_unfold; (try dsimp only)) | walk1 | (dsimp only; walk1)))
          rename Fr _ _ _ _ => F8
          rename News _ _ _ _ => N8
          rename IsRange _ _ _ _ _ _ _ _ => R8
          with_unfolding_all refine iter_rng (n := vs.length - i) (fun _ m news => news = (I1, itR (0 + ((i + 1 : Nat) : Int)) ((vs.length : Int) - ((i + 1 : Nat) : Int))) :: (D, listOf (List.toArray vs) c) :: objs ∧ ∃ vj vl vh vc, m = lawM _ (some (.int (0 + (i : Int)) ti)) vj vl vh vc) rfl R8 (by omega) (by omega) (by omega) F8 N8 ⟨rfl, vj, vl, vh, vc, lawM_i _ _ _ _ _ _ _⟩ ?_ ?_
          · rintro I2 j m news hI2 hj ⟨rfl, vj, vl, vh, vc, rfl⟩ tj h6 tk6 F9 N9
            have hvx := hP2.length
            have hij : i + j < xs.length := by omega
            obtain ⟨cq, ss, Ri, Pi, Rj, Pj, ti', tj', wi', wj', ui, li, uj, lj, a1, a2, a3, a4, b1, b2, b3, b4, hui, hli, huj, hlj, TF, N10⟩ := turn_facts hP2 (fun x hx => hnr _ (hxs _ hx)) (by omega) hpw hij N9
            clear N9 N8 F8 hP2 hpw hP N5 N6 F5 R8 R5 hnr hxs hobj
            repeat' ((fail_if_success (with_reducible show wpAny _ _ (subscriptTail _ _ (Value.ref D) _) _ _ _)); (first | (k_unfold; (try dsimp only)) | walk1 | (dsimp only; walk1)))
            k_dflt (refine' item_listL (l := vs) ?sl1 ?s01 ?sf1 TF.ei ?_)
            (case sl1 => exact News.isList (by k_asm) (by k_mem))
            (case s01 => omega)
            (case sf1 => omega)
            repeat' ((fail_if_success (with_reducible show wpAny _ _ (subscriptTail _ _ (Value.ref D) _) _ _ _)); (first | (k_unfold; (try dsimp only)) | walk1 | (dsimp only; walk1)))
            k_dflt (refine' item_listL (l := vs) ?sl2 ?s02 ?sf2 TF.ej ?_)
            (case sl2 => exact News.isList (by k_asm) (by k_mem))
            (case s02 => omega)
            (case sf2 => omega)
            repeat' ((fail_if_success (with_reducible show wpAny _ _ (subscriptTail _ _ (Value.ref D) _) _ _ _)); (first | (k_unfold; (try dsimp only)) | walk1 | (dsimp only; walk1)))
            k_dflt (refine' item_listL (l := vs) ?sl3 ?s03 ?sf3 TF.ei ?_)
            (case sl3 => exact News.isList (by k_asm) (by k_mem))
            (case s03 => omega)
            (case sf3 => omega)
            repeat' ((fail_if_success (with_reducible show wpAny _ _ (subscriptTail _ _ (Value.ref D) _) _ _ _)); (first | (k_unfold; (try dsimp only)) | walk1 | (dsimp only; walk1)))
            k_dflt (refine' item_listL (l := vs) ?sl4 ?s04 ?sf4 TF.ej ?_)
            (case sl4 => exact News.isList (by k_asm) (by k_mem))
            (case s04 => omega)
            (case sf4 => omega)
            repeat' ((fail_if_success (with_reducible show wpAny _ _ (eval (Expr.ListComp _ _ _ _) _) _ _ _)); (first | (k_unfold; (try dsimp only)) | walk1 | (dsimp only; walk1)))
            · exact absurd ‹(decide (ti'.cps.toList < tj'.cps.toList) != decide (ui * lj < uj * li)) = true› (by rw [TF.ord]; simp)
            · k_dflt (refine' comp_elts (ThirdIs objs) rfl ?ccl ?cce ?cki ?cna ?cx ?cfs ?cit)
              (case ccl => with_unfolding_all rfl)
              (case cce => decide)
              (case cki => rfl)
              (case cna => decide)
              (case cx => rfl)
              (case cfs => intro _; rfl)
              repeat' ((fail_if_success (with_reducible show wpAny _ _ (subscriptTail _ (PySem.Expr.Slice _ _ none _) (Value.ref _) (Value.ref _)) _ _ _)); (first | (k_unfold; (try dsimp only)) | walk1 | (dsimp only; walk1)))
              k_dflt (refine' kmk_slice_lit (its := vs.toArray) ?kqF ?kqN ?kql ?kqp ?kqq TF.pick ?kqQ ?kqs ?kqt ?kqz)
              (case kqF => k_asm)
              (case kqN => k_asm)
              (case kql => exact News.isList (by k_asm) (by k_mem))
              (case kqp => kmk_part)
              (case kqq => kmk_part)
              (case kqs => with_unfolding_all rfl)
              (case kqt => kmk_pure)
              (case kqz => (rw [List.size_toArray, sizeLine_eq]; omega))
              intro D9 h9 F9 N9 _
              refine ⟨D9, ss, rfl, ⟨_, (N9 _ (.head _)).1, rfl, _, rfl⟩, Nat.le_trans TF.few (by rw [sizeLine_eq]; decide), ?_, ?_⟩
              · intro C v s₃ m₃ E' hv hn hx3 st
                obtain ⟨R, tx, t1, P, wv, t2, rfl, hR⟩ := TF.third v hv
                have hR3 : s₃.heap.get? R = some (rowO tx P wv t1 t2) := st _ _ (News.get (a := R) (o := rowO tx P wv t1 t2) N9 (by repeat (first | exact hR | refine List.Mem.tail _ ?_)))
                clear N9 N10
                repeat' ((fail_if_success (with_reducible show wpAny _ _ (eval (Expr.Name _ _) (compEnvC _ _ _ _)) _ _ _)); (first | (k_unfold; (try dsimp only)) | walk1 | (dsimp only; walk1)))
                k_dflt (refine' ldVarK hn hx3 ?_ rfl rfl (by decide))
                repeat' ((fail_if_success (with_reducible show wpAny _ _ (subscriptTail _ _ (Value.ref _) _) _ _ _)); (first | (k_unfold; (try dsimp only)) | walk1 | (dsimp only; walk1)))
                k_dflt (refine' item_tupleT (l := [.str tx t1, .ref P, .str wv t2]) (j := 2) ⟨_, hR3, rfl, _, rfl⟩ (by decide) (by decide) rfl rfl ?_)
                exact ⟨⟨R, tx, t1, P, wv, t2, rfl, hR, rfl⟩, _, _, rfl, fun _ _ e => e⟩
              · intro DL ys nL hL tkL hDn hDL hPys st
                have FL := fr_stays F9 st
                have NL := news_cons F9 (news_stays N9 st) hDn hDL
                clear N9 F9
                dsimp only
                repeat' ((fail_if_success (with_reducible show wpAny _ _ (call (Value.ref 134) _) _ _ _)); (first | (k_unfold; (try dsimp only)) | walk1 | (dsimp only; walk1)))
                k_dflt (refine' Tells.use (TF.cps _ ys DL nL hPys) ?ca1 ?cb1 ?cc1 ?cd1 ?ce1 ?cf1 ?cg1 ?ch1 ?_)
                (case ca1 => k_asm)
                (case cb1 => k_asm)
                (case cc1 => k_asm)
                (case cd1 => (refine news_sub (by k_asm) (fun p hp => ?_); rw [List.mem_singleton.mp hp]; k_mem))
                (case ce1 => k_asm)
                (case cf1 => rfl)
                (case cg1 => ktr_room)
                (case ch1 => ktr_units)
                intro t11 h11 tk11 kp1
                have F11 := fr_stays (by k_asm) kp1
                have N11 := news_stays (by k_asm) kp1
                clear kp1 NL FL
                (try dsimp only)
                repeat' ((fail_if_success (with_reducible show wpAny _ _ (call (Value.ref 197) _) _ _ _)); (first | (k_unfold; (try dsimp only)) | walk1 | (dsimp only; walk1)))
                k_dflt (refine' Tells.use (names_c _ cq (startS b) _ _ TF.len) ?ca2 ?cb2 ?cc2 ?cd2 ?ce2 ?cf2 ?cg2 ?ch2 ?_)
                (case ca2 => k_asm)
                (case cb2 => k_asm)
                (case cc2 => k_asm)
                (case cd2 => exact News.nil)
                (case ce2 => k_asm)
                (case cf2 => rfl)
                (case cg2 => ktr_room)
                (case ch2 => ktr_units)
                intro D12 vs12 h12 tk12 kp2 hDn2 hD12 hS12
                rename Fr _ _ _ _ => F12'
                rename News _ _ _ _ => N12'
                have F12 := fr_stays F12' kp2
                have N12 := news_cons F12' (news_stays N12' kp2) hDn2 hD12
                clear kp2 F12' N12'; (try clear F11); (try clear N11)
                (try dsimp only)
                repeat' ((fail_if_success (with_reducible show wpAny _ _ (call (Value.ref 204) _) _ _ _)); (first | (k_unfold; (try dsimp only)) | walk1 | (dsimp only; walk1)))
                k_dflt (refine' TellsN.use (told_c _ vs12 _ D12 hS12) ?ca3 ?cb3 ?cc3 ?cd3 ?ce3 ?cf3 ?cg3 ?ch3 ?_)
                (case ca3 => k_asm)
                (case cb3 => k_asm)
                (case cc3 => k_asm)
                (case cd3 => (refine news_sub (by k_asm) (fun p hp => ?_); rw [List.mem_singleton.mp hp]; k_mem))
                (case ce3 => k_asm)
                (case cf3 => rfl)
                (case cg3 => ktr_room)
                (case ch3 => ktr_units)
                rename Fr _ _ _ _ => F13'
                rename News _ _ _ _ => N13'
                intro D13 t13 u13 h13 tk13 kp3 ND3
                rw [TF.told] at ND3
                have F13 := fr_stays F13' kp3
                have N13 := News.append ND3 (news_stays N13' kp3)
                clear kp3 F13' N13' ND3; (try clear F12); (try clear N12)
                (try dsimp only [List.cons_append, List.nil_append] at N13)
                (try dsimp only)
                repeat' ((fail_if_success (with_reducible show wpAny _ _ (call (Value.ref 190) _) _ _ _)); (first | (k_unfold; (try dsimp only)) | walk1 | (dsimp only; walk1)))
                k_dflt (refine' TellsN.use (simplest_c _ ui li uj lj _ _ _ _ Pi Pj hui hli huj hlj) ?ca4 ?cb4 ?cc4 ?cd4 ?ce4 ?cf4 ?cg4 ?ch4 ?_)
                (case ca4 => k_asm)
                (case cb4 => k_asm)
                (case cc4 => k_asm)
                (case cd4 => exact news_sub (by k_asm) (fun p hp => (List.mem_cons.mp hp).elim (fun e => by rw [e]; k_mem) (fun hp => by rw [List.mem_singleton.mp hp]; k_mem)))
                (case ce4 => k_asm)
                (case cf4 => rfl)
                (case cg4 => ktr_room)
                (case ch4 => ktr_units)
                rename Fr _ _ _ _ => F14'
                rename News _ _ _ _ => N14'
                intro D14 t14 u14 h14 tk14 kp4 ND4
                have F14 := fr_stays F14' kp4
                have N14 := News.append ND4 (news_stays N14' kp4)
                clear kp4 F14' N14' ND4; (try clear F13); (try clear N13)
                (try dsimp only [List.cons_append, List.nil_append] at N14)
                (try dsimp only)
                generalize simpFrom ui li uj lj 9 1 = qq at N14
                repeat' ((fail_if_success (with_reducible show wpAny _ _ (compareOp CmpOp.NotEq _ _) _ _ _)); (first | (k_unfold; (try dsimp only)) | walk1 | (dsimp only; walk1)))
                repeat' ((fail_if_success (with_reducible show UnrPost _ _ _ _ _ _ _ _ _)); (first | (k_unfold; (try dsimp only)) | walk1 | (dsimp only; walk1)))
                rename Fr _ _ _ _ => FE
                rename News _ _ _ _ => NE
                exact turn_end FE NE (fun p hp => by repeat (first | exact hp | refine List.Mem.tail _ ?_)) hI2 ⟨rfl, _, _, _, _, lawM_1 _ _ _ _ _ _ _ _ _ _⟩
          · rintro m news ⟨rfl, vj, vl, vh, vc, rfl⟩ h6 tk6 F9 N9
            dsimp only
            walk1
            exact turn_end F9 N9 (fun p hp => hp) hI1 ⟨rfl, _, _, _, _, _, rfl⟩
        · rintro m news ⟨rfl, vi, vj, vl, vh, vc, rfl⟩ h5 tk5 F7 N7
          dsimp only
          k_steps)

end Mine
theorem PySem.Challenge.cw_pd0131_01_holds : PySem.Challenge.rw_pd0131_01.Holds := by
  exact Mine.law_test
