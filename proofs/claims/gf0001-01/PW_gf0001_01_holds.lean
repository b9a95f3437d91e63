import PyProof.Rows.All
import Wide.All
import OpenK.AllK
import Wide.FinOn
import Lean
import PySem.Challenge.RW_gf0001_01
set_option Elab.async false
set_option maxRecDepth 100000
set_option linter.unusedVariables false
/-! Qu -/
section
open PySem PySem.W PyProof.Rows PySem.Calls
open Sem (wp)
namespace Mine
local macro_rules | `(tactic| walk_at "no such key") => `(tactic| fail)
theorem words_Qu : True := by (k_with_none; w_top off; trivial)
/-! wpAny, of those contexts alone in which no codec's builtin is at work: `bytearray.__init__` looks at the stack for them -/
def exportIds : List String := ["bytearray.__contains__", "bytearray.__mod__", "bytearray.__rmod__", "_struct.pack_into.held", "bytearray.find.held"] ++ Builtin.Bytes.decodersThatHold
def decFree : Code → Bool
  | .builtin id _ => !exportIds.contains id
  | _ => true
def CK (Γ : Ctx) : Prop := decFree Γ.code = true ∧ ∀ x ∈ Γ.below, decFree x.1 = true
theorem CK.enter {Γ : Ctx} (x : CK Γ) {c : Code} (hc : decFree c = true) (h : Option Value) (p : Pos) : CK (Γ.enter c h p) := ⟨hc, fun y hy => by
  rcases List.mem_cons.mp hy with rfl | hy
  · exact x.1
  · exact x.2 y hy⟩
theorem CK.goto {Γ : Ctx} (x : CK Γ) {c : Code} (hc : decFree c = true) : CK (Γ.goto c) := ⟨hc, x.2⟩
def wpG {α : Type} (M : Model) (A : Around) (t : Sem α) (Q : α → Shared → Prop) (E : Value → Shared → Prop) (s : Shared) : Prop :=
  ∀ Γ p, Γ.In A → CK Γ → wp M Γ t (fun a _ s' => Q a s') (fun e _ s' => E e s') p s
def codeG (M : Model) (A : Around) (c : Code) (R : Result → Shared → Prop) (s : Shared) : Prop :=
  ∀ Γ p, Γ.code = c → Γ.Below A → CK Γ → wpCode M Γ R p s
section
variable {α β : Type} {M : Model} {A : Around} {E : Value → Shared → Prop} {s : Shared}
theorem wpG_of {t : Sem α} {Q : α → Shared → Prop} (h : wpAny M A t Q E s) : wpG M A t Q E s := fun Γ p hΓ _ => h Γ p hΓ
theorem codeG_of {c : Code} {R : Result → Shared → Prop} (h : codeAny M A c R s) : codeG M A c R s := fun Γ p hc hΓ _ => h Γ p hc hΓ
theorem wpG_pure {a : α} {Q : α → Shared → Prop} (h : Q a s) : wpG M A (pure a) Q E s := fun _ _ _ _ => h
theorem wpG_mono {t : Sem α} {Q Q' : α → Shared → Prop} {E' : Value → Shared → Prop} (h : wpG M A t Q E s)
    (hQ : ∀ a s, Q a s → Q' a s) (hE : ∀ e s, E e s → E' e s) : wpG M A t Q' E' s :=
  fun Γ p hΓ hk => Sem.wp_mono M Γ t (fun a _ s => hQ a s) (fun e _ s => hE e s) p s (h Γ p hΓ hk)
theorem wpG_bind {m : Sem α} {f : α → Sem β} {Q : β → Shared → Prop} (h : wpG M A m (fun a s' => wpG M A (f a) Q E s') E s) :
    wpG M A (m >>= f) Q E s := fun Γ p hΓ hk => by
  rw [Sem.wp_bind']
  exact Sem.wp_mono M Γ m (fun a p' s' h' => h' Γ p' hΓ hk) (fun _ _ _ h' => h') p s (h Γ p hΓ hk)
/-- a step that is walked in any context, then the rest -/
theorem wpG_step {m : Sem α} {f : α → Sem β} {Q : β → Shared → Prop} (h : wpAny M A m (fun a s' => wpG M A (f a) Q E s') E s) :
    wpG M A (m >>= f) Q E s := wpG_bind (wpG_of h)
theorem wpG_onRaise {m : Sem α} {k : Value → Sem Unit} {Q : α → Shared → Prop}
    (h : wpG M A m Q (fun e s' => wpG M A (k e) (fun _ s'' => E e s'') E s') s) : wpG M A (m.onRaise k) Q E s := fun Γ p hΓ hk => by
  rw [Sem.wp_onRaise]
  exact Sem.wp_mono M Γ m (fun _ _ _ h' => h') (fun e p' s' h' => h' Γ p' hΓ hk) p s (h Γ p hΓ hk)
theorem wpG_holding {vs : List Value} {m : Sem α} {Q : α → Shared → Prop} (h : wpG M A m Q E s) : wpG M A (holding vs m) Q E s :=
  fun Γ p hΓ hk => by rw [Sem.wp_holding]; exact h Γ p hΓ hk
theorem wpG_stack {Q : List (Code × Pos) → Shared → Prop} (h : ∀ st : List (Code × Pos), (∀ x ∈ st, decFree x.1 = true) → Q st s) : wpG M A stack Q E s := fun Γ p hΓ hk => by
  show Q ((Γ.code, p) :: Γ.below) s
  refine h _ fun x hx => ?_
  rcases List.mem_cons.mp hx with rfl | hx
  · exact hk.1
  · exact hk.2 x hx
theorem codeG_mono {c : Code} {R R' : Result → Shared → Prop} (h : codeG M A c R s) (hR : ∀ r s, R r s → R' r s) : codeG M A c R' s :=
  fun Γ p hc hΓ hk => wpCode_mono hR (h Γ p hc hΓ hk)
theorem wpG_run {c : Code} {h : Option Value} {Q : Flow → Shared → Prop}
    (hc : codeG M (A.mark h) c (fun r s' => match r with | .ok f => Q f s' | .error e => E e s') s) (hd : decFree c = true) (hnb : h ≠ some byPass := by intro x; cases x) :
    wpG M A (run c h) Q E s :=
  fun Γ p hΓ hk => by rw [Sem.wp_run]; exact hc _ p rfl (hΓ.enter c h p hnb) (hk.enter hd h p)
theorem wpG_runValue {c : Code} {Q : Value → Shared → Prop}
    (hc : codeG M A c (fun r s' => match r with | .ok (.ret v) => Q v s' | .ok _ => False | .error e => E e s') s) (hd : decFree c = true) :
    wpG M A (runValue c) Q E s := fun Γ p hΓ hk => by rw [Sem.wp_runValue]; exact hc _ p rfl (hΓ.enter c none p (by intro x; cases x)) (hk.enter hd none p)
theorem wpG_call {f : Value} {pos : List Value} {kw : List (Str × Value)} {Q : Value → Shared → Prop}
    (hc : codeG M A (.call f ⟨pos, kw⟩) (fun r s' => match r with | .ok (.ret v) => Q v s' | .ok _ => False | .error e => E e s') s) :
    wpG M A (call f pos kw) Q E s := wpG_runValue hc rfl
theorem codeG_of_tree {c : Code} {R : Result → Shared → Prop}
    (h : wpG M (A.under c) (M.den c) (fun fin s' => match fin with | .done f => R (.ok f) s' | .again c' => c'.quiet = true ∧ decFree c' = true ∧ codeG M A c' R s')
      (fun e s' => R (.error e) s') s) : codeG M A c R s := fun Γ p hc hΓ hk => by
  rw [wpCode_iff_wp, hc]
  refine Sem.wp_mono M Γ _ (fun fin p' s' h' => ?_) (fun _ _ _ h' => h') p s (h Γ p (hc ▸ hΓ.in) hk)
  cases fin with
  | done f => exact h'
  | again c' => exact ⟨h'.1, h'.2.2 (Γ.goto c') p' rfl (hΓ.goto c') (hk.goto h'.2.1)⟩
end
section
variable {prog : Program} {w : World} {A : Around} {R : Result → Shared → Prop} {E : Value → Shared → Prop} {s : Shared}
theorem codeG_func {body : List Stmt} {env : Env}
    (h : wpG (model prog w) (A.deeper env) (execs body env) (fun f s' => R (.ok (.ret (match f with | .ret v => v | _ => .none))) s')
      (fun e s' => wpG (model prog w) (A.deeper env) (leaving env e) (fun _ s'' => R (.error e) s'') (fun e' s'' => R (.error e') s'') s') s) :
    codeG (model prog w) A (.func body env) R s := by
  refine codeG_of_tree ?_
  show wpG _ (A.deeper env) (do point; match ← (execs body env).onRaise (leaving env) with | .ret v => ret v | _ => ret .none) _ _ s
  refine wpG_step (wpAny_point (wpG_bind (wpG_onRaise (wpG_mono h (fun f s' h' => ?_) fun _ _ h' => h'))))
  cases f <;> exact wpG_pure h'
theorem codeG_call_function {a : Addr} {args : Args} {o : Obj} {fd : FuncData} {body : List Stmt} (hroom : A.depth < recursionLimit)
    (ho : s.heap.get? a = some o)
    (hd' : o.data = .func fd) (hco : fd.scope.isCoroutine = false) (hgen : fd.scope.isGenerator = false) (hbody : fd.body = .stmts body) (hcd : s.heap.CodeRec fd.code fd.qualname)
    (h : wpAny (model prog w) A.in1 (bindArgs fd args) (fun binds s₁ =>
      wpAny (model prog w) A.in1 (newFunctionEnv fd.scope fd.globals fd.closure binds (fd.qualname ++ ".<locals>.") (some a) fd.code none fd.builtins)
        (fun env s₂ => s₂.heap.NoLimit ∧ codeG (model prog w) A (.func body env) R s₂) (fun e s' => R (.error e) s') s₁) (fun e s' => R (.error e) s') s) :
    codeG (model prog w) A (.call (.ref a) args) R s := by
  refine codeG_of_tree (wpG_of ?_)
  show wpAny _ A.in1 (callAny (.ref a) args) _ _ s
  simp only [callAny]
  refine wpAny_bind (wpAny_load ho ?_)
  obtain ⟨c, oc, vs, tq, hc, hoc, hdc, hq⟩ := hcd
  simp only [hd', callFunction, hco, hgen, hbody, hc]
  rw [hc] at h
  refine wpAny_bind (m := field (.ref c) 1) (wpAny_field hoc hdc hq (wpAny_bind (wpAny_pure ?_)))
  exact wpAny_bind (wpAny_mono h (fun binds s₁ h₁ => wpAny_bind (wpAny_mono h₁ (fun env s₂ h₂ => wpAny_bind (wpAny_enterFrame h₂.1 hroom
    (wpAny_pure ⟨rfl, rfl, h₂.2⟩))) fun _ _ h' => h')) fun _ _ h' => h')
theorem wpG_execs_cons {st : Stmt} {rest : List Stmt} {env : Env} {Q : Flow → Shared → Prop}
    (h : wpG (model prog w) A (exec st env) (fun f s' => match f with | .next => wpG (model prog w) A (execs rest env) Q E s' | f => Q f s') E s) : wpG (model prog w) A (execs (st :: rest) env) Q E s := by
  rw [execs_cons]
  refine wpG_bind (wpG_mono h (fun f s' h' => ?_) fun _ _ h' => h')
  cases f <;> first | exact h' | exact wpG_pure h'
theorem exported_no {self : Value} {Q : Bool → Shared → Prop} (h : Q false s) : wpG (model prog w) A (Builtin.Bytes.exported self) Q E s := by
  unfold Builtin.Bytes.exported
  refine wpG_bind (wpG_stack fun st hst => wpG_pure ?_)
  rw [List.any_eq_false.mpr fun x hx => ?_]
  · exact h
  · have hf := hst x hx
    obtain ⟨c, p⟩ := x
    intro hc
    split at hc
    case h_6 =>
      rename_i heq
      cases heq
      replace hf : (!exportIds.contains _) = true := hf
      have hd := (Bool.and_eq_true_iff.mp hc).2
      rw [Bool.not_eq_true'] at hf
      rw [List.contains_iff_mem] at hd
      have : exportIds.contains _ = true := List.contains_iff_mem.mpr (List.mem_append_right _ hd)
      rw [this] at hf
      cases hf
    case h_7 => cases hc
    all_goals
      rename_i heq
      cases heq
      revert hf
      simp only [decFree]
      decide +kernel
end
end Mine
end
/-! Hd -/
section
open PySem PySem.W PyProof.Rows PySem.Calls
namespace Mine
theorem words_Hd : True := by (k_with_none; w_top off; trivial)
open Sem (wp)
/-! the head for a walk in wpG: as the library's, with the one context of the claim's caller -/
theorem ck_caller : CK (⟨.builtin "claim.caller" {}, none, none, [], none⟩ : Ctx) := ⟨by decide +kernel, fun _ h => nomatch h⟩
theorem thread_endsG {prog : Program} {w : World} {t : Sem Fin} {s : Shared} {R : Result → Shared → Prop} (hreg : s.asleep)
    (h : wpG (model prog w) callerA t (fun fin s' => ∃ f, fin = .done f ∧ (R (.ok f) s' ∧ leftWithCleanup s'.gens = false)) (fun e s' => R (.error e) s' ∧ leftWithCleanup s'.gens = false) s) :
    ∃ n r s' s'', runN (denote table) prog w n s ⟨t, .builtin "claim.caller" {}, default, []⟩ = .halted (outcomeOf r) s' ∧
      schedN (denote table) prog w n (.single s ⟨t, .builtin "claim.caller" {}, default, []⟩) = .halted (outcomeOf r) s' ∧ s'.forget = s''.forget ∧ R r s'' := by
  obtain ⟨n, r, s₁, s₂, hs, hn, hfo, hR⟩ := wp_halts_full (M := model prog w) (R := R) hreg (Sem.wp_mono _ _ t (fun fin p' s' h' => by
    obtain ⟨f, rfl, hf⟩ := h'
    exact hf) (fun _ _ _ h' => h') default s (h _ default caller_in ck_caller))
  exact ⟨n, r, s₂, s₁, hn, hs, hfo, hR⟩
theorem callFromG {c : ClaimW} {tree : List Value → Sem Fin} {w : World} {s : Shared} {free : Addr → Prop} {gens : Prop} {kept : Heap → Prop} (hz : s.asleep) (hgens : s.gens = #[])
    (hspec : ∀ args, c.pre args = true → WData.layableAll args = true →
      ∀ ord : List DictEntry → List DictEntry, (∀ l, (ord l).Perm l) →
      ∃ vs s₁, layAllW c.records (classAt s.heap) w.params ord args s = some (vs, s₁) ∧
        wpG (model c.prog w) callerA (tree vs) (fun fin s' => ∃ f, fin = .done f ∧ (c.Ends s args vs s₁ (.ok f) s' ∧ s'.os = s.os ∧ AllBare s'.gens ∧ kept s'.heap))
          (fun e s' => c.Ends s args vs s₁ (.error e) s' ∧ s'.os = s.os ∧ AllBare s'.gens ∧ kept s'.heap) s₁) :
    c.CallFrom (fun vs => ⟨tree vs, .builtin "claim.caller" {}, default, []⟩) w free gens kept s := by
  intro args hpre hlay ord hord
  obtain ⟨vs, s₁, hlaid, hcode⟩ := hspec args hpre hlay ord hord
  have hal := layAllW_rest _ _ _ hlaid
  obtain ⟨k, r, s', s'', hrun, hsched, hfo, hcase, hos, hkp⟩ := thread_endsG (prog := c.prog) (w := w) (t := tree vs) (s := s₁)
    (R := fun r s' => c.Ends s args vs s₁ r s' ∧ s'.os = s.os ∧ kept s'.heap)
    (Shared.asleep_of_life hal.2.2.2 hz)
    (wpG_mono hcode (by
      rintro fin s' ⟨f, e, h1, h2, h3, h4⟩
      exact ⟨f, e, ⟨h1, h2, h4⟩, leftWithCleanup_false_of_bare h3⟩) (by
      rintro e s' ⟨h1, h2, h3, h4⟩
      exact ⟨⟨h1, h2, h4⟩, leftWithCleanup_false_of_bare h3⟩))
  obtain ⟨eh, _, _, eo, _⟩ := Shared.forget_eq hfo
  have hcase := hcase.congr eh
  have hkp : kept s'.heap := by first | exact eh ▸ hkp | (rw [eh] at hkp; exact hkp) | (rw [← eh] at hkp; exact hkp)
  rw [← eo] at hos
  have hlife : s'.heap.life = s.heap.life := (runN_life _ _ _ hrun).trans hal.2.2.2
  refine ⟨vs, s₁, hlaid, k, _, s', hsched, ?_, (fun _ i x hx => by rw [hgens] at hx; simp at hx), hkp, by rw [hlife], Shared.rest_eq hos⟩
  rcases hcase with ⟨v, rfl, d1, d2, d3, d4, d5⟩ | ⟨e, ob, cls, rfl, d1, d2, d3, d4, d5⟩
  · exact .inl ⟨v, rfl, d1, d2, d3, fun b o y _ => d4 b o y, d5⟩
  · exact .inr ⟨e, ob, cls, rfl, d1, d2, d3, d4, fun b o y _ => d5 b o y⟩
theorem open_anyG {r : RowW} {run : Value → List Value → Sem Value} {tree : List Value → Sem Fin} {q : Program} {loose defs kps : List Str} {writes : Bool} {Xt : Shared → Bool} {XP : (Str → Option Value) → Heap → Prop} {α : Type} {Yf : Shared → α} {Ya : World → α} {YP : World → Heap → Prop} {N : Nat}
    (left : LeftO r.prog q loose Xt Yf Ya N) (hY : ∀ w s, Yf s = Ya w → YP w s.heap) (hYk : ∀ w h h', YP w h → (∀ b o, h.get? b = some o → h'.get? b = some o) → YP w h') (hX : ∀ s, Xt s = true → XP (s.heap.nsMap mainGlobals) s.heap) (hXk : ∀ mg h h', XP mg h → (∀ b o, h.get? b = some o → h'.get? b = some o) → XP mg h')
    (hRf : ∀ s, Xt s = true → RecFacts r.records s.heap) (hwr : (!writes || r.records.isEmpty) = true) (ok : (chainsOk q && opensWell r.prog && (frees r && r.within.isEmpty)) = true) (hb : r.prog.bare) (hw : r.promised)
    (ht : ∀ vs (w : World) (s : Shared) mg f (Q : Fin → Shared → Prop) (E : Value → Shared → Prop), s.heap.Ns mainGlobals mg → mg r.name = some f → wpG (model r.prog w) callerA (run f vs) (fun v s' => Q (.done (.ret v)) s') E s → wpG (model r.prog w) callerA (tree vs) Q E s)
    (pin : ∀ w s, s.heap.isNs mainGlobals = true → Ground q loose [] XP w s (s.heap.nsMap mainGlobals) (s.heap.nsMap builtinsNs) s.heap → ∀ n ∈ defs, isTheDefsW r.prog s.heap n)
    (call : ∀ (w : World) (s₀ s₁ : Shared) (mg mb : Str → Option Value), Ground q loose r.records XP w s₀ mg mb s₁.heap → YP w s₁.heap → ∀ (args : List WData) (vs : List Value) (as : List Addr),
      r.claim.pre args = true → WData.layableAll args = true → Laid r.records w s₀ s₁ args vs as → sysModules < s₀.heap.objs.size → ∃ f, mg r.name = some f ∧
        wpG (model r.prog w) callerA (run f vs) (fun v s' => GoodWG r.claim (classAt s₀.heap) (ExcName.means s₀.heap) args s₁ (.ok (.ret v)) s')
          (fun e s' => GoodWG r.claim (classAt s₀.heap) (ExcName.means s₀.heap) args s₁ (.error e) s') s₁) : r.claim.HoldsOpenBy (fun vs => ⟨tree vs, .builtin "claim.caller" {}, default, []⟩) defs kps writes := by
  obtain ⟨ok, k5⟩ := Bool.and_eq_true_iff.mp ok
  obtain ⟨hch, o1⟩ := Bool.and_eq_true_iff.mp ok
  obtain ⟨k5, k6⟩ := Bool.and_eq_true_iff.mp k5
  obtain ⟨hsame, hu, ha, hap, hm⟩ := frees_parts k5
  refine ⟨⟨hb, o1, by show r.makers.map _ = []; rw [hm]; rfl⟩, hw.witness, fun w => ⟨(left.behind hX hch w).1, fun s' hs' => ?_⟩⟩
  obtain ⟨s₀, hf, hg0, s, hT, hz, hgens, hg, G00, y⟩ := (left.behind (XP := fun mg h => XP mg h ∧ RecFacts r.records h) (fun s hs => ⟨hX s hs, hRf s hs⟩) hch w).2 s' hs'
  have G0 : Ground q loose [] XP w s (s.heap.nsMap mainGlobals) (s.heap.nsMap builtinsNs) s.heap := ⟨G00.T, G00.B, G00.D, G00.TE, G00.TD, G00.W, G00.X.1, G00.cls, G00.has, G00.apart, G00.once, G00.K⟩
  have RF := G00.X.2
  have hT' := hT
  refine ⟨s₀, hf, hg0, s, hT, pin w s hg G0, RF.1, RF.2.1, ?_⟩
  have hgens : s.gens = #[] := Array.eq_empty_of_size_eq_zero (beq_iff_eq.mp hgens)
  have G : Ground q loose r.records XP w s _ _ s.heap := RF.ground G0
  refine callFromG (c := r.claim) hz hgens fun args hpre hlay ord hord => ?_
  obtain ⟨⟨vs, s₁⟩, hlaid⟩ := Option.isSome_iff_exists.mp (layAllW_isSome (P := w.params) (ord := ord) G.has args r.args s (pre_splitW hpre).1)
  have keeps := layAllW_keeps _ _ _ hlaid
  have hal := layAllW_rest _ _ _ hlaid
  obtain ⟨as, hrd, hin, hold⟩ := reads_layAllW hord _ _ _ hlaid hlay s₁.heap (fun _ _ e => e)
  have L : Laid r.records w s s₁ args vs as := ⟨⟨ord, hord, hlaid⟩, hrd, hin, hold, keeps, hal.1.trans hgens, hal.2.2.1⟩
  have G₁ := G.keeps hXk keeps
  obtain ⟨f, hf, h⟩ := call w s s₁ _ _ G₁ (hYk _ _ _ (hY w s y) keeps) args vs as hpre hlay L G.low
  have hi := ident_freeW hu ha hap
  have hwi : r.claim.within = [] := List.isEmpty_iff.mp k6
  exact ⟨vs, s₁, hlaid, ht vs w s₁ _ f _ _ G₁.T.g hf (wpG_mono h (fun v s' g => ⟨_, rfl, have z := g.laid (c := r.claim) hsame hwi hi L; ⟨z.1, z.2.1, z.2.2, fun q => ⟨namesKept_of hT' hg kps keeps g.2.1.old, noTable hwr q⟩⟩⟩) fun e s' g => have z := g.laid (c := r.claim) hsame hwi hi L; ⟨z.1, z.2.1, z.2.2, fun q => ⟨namesKept_of hT' hg kps keeps g.2.1.old, noTable hwr q⟩⟩)⟩
abbrev WalkG (q : Program) (loose : List Str) (XP : (Str → Option Value) → Heap → Prop) (YP : World → Heap → Prop) (r : RowW) (d : DefRec) (kwd : List (Str × Expr)) (run : Value → List Value → Sem Value) : Prop :=
  ∀ (w : World) (s₀ s₁ : Shared) (mg mb : Str → Option Value), Ground q loose r.records XP w s₀ mg mb s₁.heap → YP w s₁.heap → ∀ (a : Addr) (o : Obj) (pm cd doc dV kV : Value), s₁.heap.get? a = some o →
    o.data = .func { docDef d.name d.params d.body d.scope pm cd doc with defaults := dV, kwdefaults := kV } → s₁.heap.CodeRec cd d.name → Dflts mg s₁.heap d.params kwd dV kV → mg d.name = some (.ref a) → s₁.gens = #[] →
    ∀ (args : List WData) (vals : List Value) (as : List Addr), r.claim.pre args = true → WData.layableAll args = true → ReadsAllW r.records (classAt s₀.heap) s₁.heap vals args as → WellAll w.params s₁.heap vals args → (∀ a ∈ as, (a == sysModules) = false) →
      wpG (model r.prog w) callerA (run (.ref a) vals) (fun v s' => GoodWG r.claim (classAt s₀.heap) (ExcName.means s₀.heap) args s₁ (.ok (.ret v)) s')
        (fun e s' => GoodWG r.claim (classAt s₀.heap) (ExcName.means s₀.heap) args s₁ (.error e) s') s₁
/-! `open_top` in namespace Mine takes this head in the library's stead: its full name is Mine.PySem.W.holds_open -/
namespace PySem.W
theorem holds_open {r : OpenRow} {q : Program} {loose : List Str} {Xt : Shared → Bool} {XP : (Str → Option Value) → Heap → Prop} {α : Type} {Yf : Shared → α} {Ya : World → α} {YP : World → Heap → Prop} {d : DefRec} {kwd : List (Str × Expr)} {N : Nat}
    (left : LeftO r.prog q loose Xt Yf Ya N) (hY : ∀ w s, Yf s = Ya w → YP w s.heap) (hYk : ∀ w h h', YP w h → (∀ b o, h.get? b = some o → h'.get? b = some o) → YP w h')
    (hX : ∀ s, Xt s = true → XP (s.heap.nsMap mainGlobals) s.heap) (hXk : ∀ mg h h', XP mg h → (∀ b o, h.get? b = some o → h'.get? b = some o) → XP mg h')
    (hdef : defOf q r.name = some (d, kwd)) (hp : r.prog.theDef r.name = some (d.params, d.body, d.scope)) (hk : kwWritten? d.params.kwonlyargs d.params.kw_defaults = some kwd) (hRf : ∀ s, Xt s = true → RecFacts r.records s.heap) (hwr : (!r.writes || r.records.isEmpty) = true)
    (k1 : r.wellSaid = true) (ok : (chainsOk q && opensWell r.prog && (frees r.toRowW && r.within.isEmpty)) = true) (hb : r.prog.bare) (hw : r.toRowW.promised)
    (call : WalkG q loose XP YP r.toRowW d kwd fun f vs => PySem.call f vs) : r.Holds := by
  refine ⟨k1, hw, open_anyG (r := r.toRowW) (run := fun f vs => PySem.call f vs) (tree := fun vs => do match ← nsGet mainNs r.name with
      | some f => do ret (← PySem.call f vs)
      | none => unsupported "claim.caller:no-such-global") left hY hYk hX hXk hRf hwr ok hb hw
    (fun vs w s mg f Q E hg hf h => wpG_step (wpAny_nsGet hg (by rw [hf]; exact wpG_bind (wpG_mono h (fun _ _ x => wpG_pure x) fun _ _ x => x))))
    (fun w s hg G n hn => ?_) fun w s₀ s₁ mg mb G Y args vs as hpre hlay L low => ?_⟩
  · obtain rfl : n = r.name := by split at hn <;> simp_all
    exact pinned_of_view hg G hdef hp hk
  · obtain ⟨a, o, pm, cd, doc, dV, kV, h1, h2, h3, h4, h5⟩ := G.fn hdef
    exact ⟨.ref a, h1, call w s₀ s₁ mg mb G Y a o pm cd doc dV kV h2 h3 h4 h5 (defOf_name hdef ▸ h1) L.gens args vs as hpre hlay L.reads L.well (L.low low)⟩
end PySem.W
set_option maxHeartbeats 8000000 in
open_top hd for PySem.Challenge.rw_gf0001_01
end Mine
end
/-! M0 -/
section
open PySem PySem.W PyProof.Rows PySem.Calls
namespace Mine
local macro_rules | `(tactic| walk_at "no such key") => `(tactic| fail)
theorem words_M0 : True := by (k_with_none; w_top off; trivial)
abbrev PR : Program := PySem.Challenge.rw_gf0001_01.row.prog
theorem kf : ∀ P h, (hd.heap_39 P).In h → PySem.Challenge.rw_gf0001_01 = PySem.Challenge.rw_gf0001_01 := by k_fill; intros; rfl
/-- surroundings of which only the rooms are known -/
@[reducible] def AA : Around := { depth := 500, units := 1100 }
@[reducible] def AB : Around := { depth := 600, units := 2100 }
theorem weaken {M : Model} {A B : Around} {α : Type} {t : Sem α} {Q : α → Shared → Prop} {E : Value → Shared → Prop} {s : Shared} (h : wpAny M B t Q E s)
    (h1 : A.handled = B.handled) (h2 : A.depth ≤ B.depth) (h3 : A.units ≤ B.units) (h4 : B.frames = none) (h5 : B.guards = none) : wpAny M A t Q E s :=
  fun Γ p hΓ => h Γ p ⟨hΓ.1.trans h1, Nat.le_trans hΓ.2.1 h2, fun _ hl => absurd (h4.symm.trans hl) (fun q => nomatch q), fun _ hg => absurd (h5.symm.trans hg) (fun q => nomatch q), Nat.le_trans hΓ.2.2.2.2 h3⟩
/-- what stood stands -/
def Kp (h h' : Heap) : Prop := ∀ b o, h.get? b = some o → h'.get? b = some o
section
variable {w : World} {A : Around} {s : Shared} {K : Frag}
theorem enter {R : Result → Shared → Prop} {name qual : Str} {params : Arguments} {body : List Stmt} {scope : Scope} {dV kV doc pm cdv ct oc : Value} {an od : Option Addr} {osl : Array (Option Value)} {f : Addr} {args : List Value} {binds : List (Str × Value)} (m : Str → Option Value)
    (X : K.In s.heap) (hlim : s.heap.NoLimit)
    (ho : K.lookup f = some ⟨oc, od, .func (fnOf name qual params body scope dV kV doc pm an cdv ct), osl⟩) (hcd : codeIn K cdv qual = true) (hroom : A.depth < recursionLimit)
    (hbind : BindsTo s (fnOf name qual params body scope dV kV doc pm an cdv ct) ⟨args, []⟩ binds) (hloc : ∀ y ∈ binds, scope.names.lookup y.1 = some .local)
    (hm : ∀ y, binds.reverse.lookup y = m y)
    (hco : scope.isCoroutine = false) (hgen : scope.isGenerator = false) (hk : scope.kind = .function)
    (hcell : ∀ x ∈ scope.names, x.2 ≠ .cell)
    (h : ∀ h₁ tk, Fr s.heap s.heap.objs.size h₁ m →
      wpAny (model PR w) (A.deeper (envOf qual scope s.heap.objs.size f cdv)) (execs body (envOf qual scope s.heap.objs.size f cdv))
        (fun fl s' => R (.ok (.ret (match fl with | .ret v => v | _ => .none))) s')
        (fun e s' => wpAny (model PR w) (A.deeper (envOf qual scope s.heap.objs.size f cdv)) (leaving (envOf qual scope s.heap.objs.size f cdv) e) (fun _ s'' => R (.error e) s'') (fun e' s'' => R (.error e') s'') s')
        { s with heap := h₁, toks := tk }) : codeAny (model PR w) A (.call (.ref f) ⟨args, []⟩) R s := by
  refine codeAny_call_def (fd := fnOf name qual params body scope dV kV doc pm an cdv ct) (body := body) (binds := binds) hroom (X _ _ ho) rfl hlim (codeRec_of X hcd) rfl hbind hcell hloc (fun h₁ hns hk₁ => ?_) hco hgen hk
  have e : (fun y => binds.reverse.lookup y) = m := funext hm
  rw [e] at hns
  exact h h₁ _ ⟨hns, hk₁, Nat.le_refl _⟩
end
/-- the map of a frame's names, written out -/
theorem lk_nil {y : Str} : List.lookup y ([] : List (Str × Value)) = none := rfl
theorem lk_cons {y x : Str} {v : Value} {r : List (Str × Value)} : List.lookup y ((x, v) :: r) = if y = x then some v else List.lookup y r := by
  rw [List.lookup_cons]
  by_cases h : y = x
  · subst h; simp
  · have : (y == x) = false := by simpa using h
    rw [this, if_neg h]
theorem snocInd {P : List Int → Prop} (h0 : P []) (h1 : ∀ l c, P l → P (l ++ [c])) (l : List Int) : P l := by
  have : ∀ r : List Int, P r.reverse := by
    intro r
    induction r with
    | nil => exact h0
    | cons c r ih => rw [List.reverse_cons]; exact h1 _ _ ih
  simpa using this l.reverse
end Mine
end
/-! M1 -/
section
open PySem PySem.W PyProof.Rows PySem.Calls
namespace Mine
theorem words_M1 : True := by (k_with_none; w_top off; trivial)
/-- the map of a frame: what is known (ps), what the body stores and is forgotten (stored), the rest as it was -/
def MapIs (x : Str) (stored : List Str) (m₀ : Str → Option Value) (ps : List (Str × Value)) (m : Str → Option Value) : Prop :=
  (∀ p ∈ ps, m p.1 = some p.2) ∧ ∀ z, z ≠ x → (∀ p ∈ ps, z ≠ p.1) → stored.contains z = false → m z = m₀ z
def XEnd {σ : Type} (h₀ : Heap) (L I : Addr) (oI : Obj) (x : Str) (stored : List Str) (m₀ : Str → Option Value) (Led : σ → List (Addr × Obj)) (ps : σ → List (Str × Value)) (Inv : σ → Prop) (s₁ s₂ : Shared) : Prop :=
  ∃ (c : σ) (h' : Heap) (tk : Nat) (m' : Str → Option Value) (news' : List (Addr × Obj)), s₂ = { s₁ with heap := h', toks := tk } ∧ Fr h₀ L h' m' ∧ News h₀ L h' news' ∧ (I, oI) ∈ news' ∧ (∀ p ∈ Led c, p ∈ news') ∧ (∀ p ∈ Led c, p.1 ≠ I) ∧ MapIs x stored m₀ (ps c) m' ∧ Inv c
def XPost {σ : Type} (h₀ : Heap) (L I : Addr) (oI : Obj) (x : Str) (stored : List Str) (m₀ : Str → Option Value) (Led : σ → List (Addr × Obj)) (ps : σ → List (Str × Value)) (Inv : σ → Prop) (s₁ : Shared) (Q : Flow → Shared → Prop) (f : Flow) (s₂ : Shared) : Prop :=
  match f with
  | .ret v => Q (.ret v) s₂
  | .brk => Q .next s₂
  | _ => XEnd h₀ L I oI x stored m₀ Led ps Inv s₁ s₂
theorem xEnd {σ : Type} {h₀ : Heap} {L I : Addr} {oI : Obj} {x : Str} {stored : List Str} {m₀ m' : Str → Option Value} {Led : σ → List (Addr × Obj)} {ps : σ → List (Str × Value)} {Inv : σ → Prop} {s₁ : Shared} {h' : Heap} {tk : Nat} {news' : List (Addr × Obj)} (c : σ)
    (F : Fr h₀ L h' m') (N : News h₀ L h' news') (hI : (I, oI) ∈ news') (hn : ∀ p ∈ Led c, p ∈ news') (hne : ∀ p ∈ Led c, p.1 ≠ I) (hm : MapIs x stored m₀ (ps c) m') (hi : Inv c) :
    XPost h₀ L I oI x stored m₀ Led ps Inv s₁ Q .next { s₁ with heap := h', toks := tk } := ⟨c, h', tk, m', news', rfl, F, N, hI, hn, hne, hm, hi⟩
section
variable {prog : Program} {w : World} {A : Around} {E : Value → Shared → Prop} {s : Shared} {env : Env} {h₀ : Heap} {x : Str} {body : List Stmt} {Q : Flow → Shared → Prop}
theorem mapIs_fr {L : Addr} {h : Heap} {ps : List (Str × Value)} {stored : List Str} {m₀ m₁ : Str → Option Value} {v : Value} (hm : MapIs x stored m₀ ps m₁)
    (F : Fr h₀ L h (fun y => if y = x then some v else m₁ y)) : Fr h₀ L h (fun y => if y = x then some v else kstB (fun z => if stored.contains z then m₁ z else m₀ z) ps y) := kst_fr hm.1 hm.2 F
theorem mapIs_frOut {L : Addr} {h : Heap} {ps : List (Str × Value)} {stored : List Str} {m₀ m₁ : Str → Option Value} (hm : MapIs x stored m₀ ps m₁)
    (F : Fr h₀ L h m₁) : Fr h₀ L h (fun y => if y = x then m₁ y else kstB (fun z => if stored.contains z then m₁ z else m₀ z) ps y) := kst_frOut hm.1 hm.2 F
theorem loopX {σ : Type} {I : Addr} {fp : List Addr} {n : Nat} {P : Nat → Value → Prop} {St : Nat → Heap → Prop} {m₀ : Str → Option Value} (Led : σ → List (Addr × Obj)) (ps : σ → List (Str × Value)) (stored : List Str) (Inv : Nat → σ → Prop) (c₀ : σ)
    (W : Walks prog w A I fp [I] n P St) (hIo : ∀ i h, St i h → ∃ o, h.get? I = some o) (hfp : ∀ b ∈ fp, b = I ∨ ∃ o, h₀.get? b = some o)
    (hI : h₀.get? I = none) (hst : St 0 s.heap) (F : Fr h₀ env.locals s.heap m₀) (hLI : env.locals ≠ I) (N : News h₀ env.locals s.heap (Led c₀)) (hn : ∀ p ∈ Led c₀, p.1 ≠ I) (hk : ∀ p ∈ ps c₀, m₀ p.1 = some p.2) (hp : Inv 0 c₀)
    (turn : ∀ i c v oI (u : Str → Option Value) h tk, i < n → P i v → (∀ p ∈ Led c, p.1 ≠ I) → Inv i c →
      Fr h₀ env.locals h (fun y => if y = x then some v else kstB (fun z => if stored.contains z then u z else m₀ z) (ps c) y) → News h₀ env.locals h ((I, oI) :: Led c) →
      wpAny (model prog w) A (execs body env) (XPost h₀ env.locals I oI x stored m₀ Led ps (Inv (i + 1)) { s with heap := h, toks := tk } Q) E { s with heap := h, toks := tk })
    (done : ∀ c (u : Str → Option Value) h tk, Inv n c → Fr h₀ env.locals h (fun y => if y = x then u y else kstB (fun z => if stored.contains z then u z else m₀ z) (ps c) y) → News h₀ env.locals h (Led c) → Q .next { s with heap := h, toks := tk }) :
    LoopAtV prog w A h₀ env x body Q E (.ref I) s := by
  have hLf : env.locals ∉ fp := fun hm => by
    rcases hfp _ hm with e | ⟨o, e⟩
    · exact hLI e
    · have := Heap.lt_size e; have := F.above; exact absurd (Heap.lt_size e) (Nat.not_lt.mpr F.above)
  let J : Nat → (Str → Option Value) → List (Addr × Obj) → Prop := fun i m nx => ∃ c, nx = Led c ∧ (∀ p ∈ Led c, p.1 ≠ I) ∧ MapIs x stored m₀ (ps c) m ∧ Inv i c
  refine ⟨I, fp, [I], n, P, St, m₀, Led c₀, J, rfl, W, hLf, fun b hb => by rw [List.mem_singleton.mp hb]; exact hI, fun p hp hq => hn p hp (List.mem_singleton.mp hq), hst, F, N, ⟨c₀, rfl, hn, ⟨hk, fun _ _ _ _ => rfl⟩, hp⟩, ?_, ?_⟩
  · rintro i v m₁ news₁ s₁ own ⟨hh', tk', rfl⟩ hin hP ⟨c, rfl, hne, hm, hi⟩ hoff hown hget hall hst₁ F₁ N₁
    obtain ⟨oI, hoI⟩ := hIo _ _ hst₁
    have hIfp : I ∈ fp := W.sub I (List.mem_singleton.mpr rfl)
    have hmem : (I, oI) ∈ own := hall I hIfp hI oI hoI
    have hone : ∀ p ∈ own, p = (I, oI) := fun p hp => by
      have h1 : p.1 = I := by
        rcases hfp _ (hown p hp) with e | ⟨o, e⟩
        · exact e
        · have := (N₁ p (List.mem_append_left _ hp)).2.2; rw [this] at e; cases e
      have h2 := hget p hp
      obtain ⟨a, o⟩ := p
      dsimp only at h1 h2
      subst h1
      have h3 : (some oI : Option Obj) = some o := hoI.symm.trans h2
      cases h3; rfl
    have N₂ : News h₀ env.locals hh' ((I, oI) :: Led c) := fun p hp => by
      rcases List.mem_cons.mp hp with rfl | hp
      · exact N₁ _ (List.mem_append_left _ hmem)
      · exact N₁ p (List.mem_append_right _ hp)
    refine wpAny_mono (turn i c v oI m₁ hh' tk' hin hP hne hi (mapIs_fr hm F₁) N₂) (fun f s₂ p => ?_) fun _ _ e => e
    have fin : XEnd h₀ env.locals I oI x stored m₀ Led ps (Inv (i + 1)) { s with heap := hh', toks := tk' } s₂ → LoopStepU h₀ env.locals [I] own (J (i + 1)) { s with heap := hh', toks := tk' } .next s₂ := by
      rintro ⟨c', h', tk, m', news', e, F', N', hI', hn', hne', hm', hi'⟩
      refine ⟨rfl, h', tk, m', Led c', e, F', fun p hp => ?_, fun p hp hq => hne' p hp (List.mem_singleton.mp hq), c', rfl, hne', hm', hi'⟩
      rcases List.mem_append.mp hp with hp | hp
      · rw [hone p hp]; exact N' _ hI'
      · exact N' p (hn' p hp)
    cases f with
    | ret v => exact .ret p
    | brk => exact .brk p
    | next => exact .next (fin p)
    | cont => exact .cont (fin p)
  · rintro h' tk m' news' F' N' _ ⟨c, rfl, hne, hm, hi⟩
    exact done c m' h' tk hi (mapIs_frOut hm F') N'
/-- over bytes -/
theorem loopBytes {σ : Type} {b : Array UInt8} {ks : List Int} {tb : Tok} {m₀ : Str → Option Value} (Led : σ → List (Addr × Obj)) (ps : σ → List (Str × Value)) (stored : List Str) (P : List Int → σ → Prop) (c₀ : σ)
    (hb : KBw.bInts b = ks) (hh : A.handled = none) (F : Fr h₀ env.locals s.heap m₀) (N : News h₀ env.locals s.heap (Led c₀)) (hk : ∀ p ∈ ps c₀, m₀ p.1 = some p.2) (hp : P [] c₀)
    (turn : ∀ (c : σ) (pre post : List Int) (n : Int) t I oI (u : Str → Option Value) h tk, ks = pre ++ n :: post → 0 ≤ n → n < 256 → (∀ p ∈ Led c, p.1 ≠ I) → P pre c →
      Fr h₀ env.locals h (fun y => if y = x then some (.int n t) else kstB (fun z => if stored.contains z then u z else m₀ z) (ps c) y) → News h₀ env.locals h ((I, oI) :: Led c) →
      wpAny (model prog w) A (execs body env) (XPost h₀ env.locals I oI x stored m₀ Led ps (P (pre ++ [n])) { s with heap := h, toks := tk } Q) E { s with heap := h, toks := tk })
    (done : ∀ c (u : Str → Option Value) h tk, P ks c → Fr h₀ env.locals h (fun y => if y = x then u y else kstB (fun z => if stored.contains z then u z else m₀ z) (ps c) y) → News h₀ env.locals h (Led c) → Q .next { s with heap := h, toks := tk }) :
    wpAny (model prog w) A (pyIter (.bytes b tb)) (fun it s₂ => LoopAtV prog w A h₀ env x body Q E it s₂) E s := by
  subst hb
  refine KBw.pyIter_bytes ?_
  have W := KBw.walks (prog := prog) (w := w) hh s.heap.objs.size b tb
  refine loopX Led ps stored (fun i c => P ((KBw.bInts b).take i) c) c₀ W (fun i h st => by obtain ⟨o, e, _⟩ := st; exact ⟨o, e⟩) (fun b hb => .inl (List.mem_singleton.mp hb)) (next_is_new F) ⟨_, Heap.get?_push_size _ rfl, rfl, rfl⟩ (F.push _) (fun e => absurd F.ns.lt (e ▸ Nat.lt_irrefl _))
    (fun p hp => ⟨Heap.get?_push_of_some _ (N p hp).1, (N p hp).2⟩) (fun p hp e => absurd (Heap.lt_size (N p hp).1) (e ▸ Nat.lt_irrefl _)) hk (by simpa using hp) ?_ ?_
  · rintro i c v oI u h tk hi ⟨n, t, hn, rfl⟩ hne hp' F₁ N₁
    have hn' := KBw.ints_get hn
    have hs : (KBw.bInts b).take (i + 1) = (KBw.bInts b).take i ++ [(n.toNat : Int)] := by simp [List.take_add_one, hn']
    have e : KBw.bInts b = (KBw.bInts b).take i ++ (n.toNat : Int) :: (KBw.bInts b).drop (i + 1) := by
      have ht := List.take_append_drop (i + 1) (KBw.bInts b)
      rw [hs, List.append_assoc] at ht
      exact ht.symm
    have hb := KBw.ints_in (List.mem_of_getElem? hn')
    rw [hs]
    exact turn c _ _ (n.toNat : Int) t _ oI u h tk e hb.1 hb.2 hne hp' F₁ N₁
  · rintro c u h tk hi F₁ N₁
    have h8 : b.size = (KBw.bInts b).length := (KBw.ints_length b).symm
    rw [h8, List.take_length] at hi
    exact done c u h tk hi F₁ N₁
end
section
variable {w : World} {A : Around} {s : Shared} {K : Frag}
/-- entering a def that has cells -/
theorem enterC {R : Result → Shared → Prop} {name qual : Str} {params : Arguments} {body : List Stmt} {scope : Scope} {dV kV doc pm cdv ct oc : Value} {an od : Option Addr} {osl : Array (Option Value)} {f : Addr} {args : List Value} {binds : List (Str × Value)} (m cm : Str → Option Value)
    (X : K.In s.heap) (hlim : s.heap.NoLimit)
    (ho : K.lookup f = some ⟨oc, od, .func (fnOf name qual params body scope dV kV doc pm an cdv ct), osl⟩) (hcd : codeIn K cdv qual = true) (hroom : A.depth < recursionLimit)
    (hbind : BindsTo s (fnOf name qual params body scope dV kV doc pm an cdv ct) ⟨args, []⟩ binds) (hkind : (binds.all fun y => scope.names.lookup y.1 == some .local || scope.names.lookup y.1 == some .cell) = true)
    (hnd : ((cellsFrom 0 scope.names []).map (·.1)).Nodup)
    (hm : bindL (envOfC qual scope s.heap.objs.size f cdv).kindOf binds (fun _ => none) = m) (hcm : bindC (envOfC qual scope s.heap.objs.size f cdv).kindOf binds (fun _ => none) = cm)
    (hco : scope.isCoroutine = false) (hgen : scope.isGenerator = false) (hk : scope.kind = .function)
    (h : ∀ h₁ tk cells, Fr s.heap s.heap.objs.size h₁ m → News s.heap s.heap.objs.size h₁ cells → CellsAre cm (cellsFrom (s.heap.objs.size + 1) scope.names []) cells →
      wpAny (model PR w) (A.deeper (envOfC qual scope s.heap.objs.size f cdv)) (execs body (envOfC qual scope s.heap.objs.size f cdv))
        (fun fl s' => R (.ok (.ret (match fl with | .ret v => v | _ => .none))) s')
        (fun e s' => wpAny (model PR w) (A.deeper (envOfC qual scope s.heap.objs.size f cdv)) (leaving (envOfC qual scope s.heap.objs.size f cdv) e) (fun _ s'' => R (.error e) s'') (fun e' s'' => R (.error e') s'') s')
        { s with heap := h₁, toks := tk }) : codeAny (model PR w) A (.call (.ref f) ⟨args, []⟩) R s := by
  refine codeAny_call_function (fd := fnOf name qual params body scope dV kV doc pm an cdv ct) hroom (X _ _ ho) rfl hco hgen rfl (codeRec_of X hcd) (hbind _ _ _ _ ?_)
  refine wpAny_newFunctionEnv_cells hk (kindsX hkind _) fun env' he s' x => ?_
  subst he
  refine ⟨hlim.keeps x.toInCall.keep, codeAny_func ?_⟩
  obtain ⟨h₁, tk, rfl, _⟩ := x.done
  have hk₁ := x.toInCall.keep
  obtain ⟨cells, NC, Y⟩ := Cl.news (h₀ := s.heap) (Nat.le_refl _) fun n c hm => ⟨x.cell n c (lookup_of_mem_nodup (cellsFrom_names scope.names 0 (s.heap.objs.size + 1) [] [] rfl ▸ hnd) hm), x.above n c hm⟩
  have F : Fr s.heap s.heap.objs.size h₁ m := hm ▸ ⟨x.toInCall.ns, hk₁, Nat.le_refl _⟩
  exact h h₁ tk cells F NC (hcm ▸ Y)
end
end Mine
end
/-! M2 -/
section
open PySem PySem.W PyProof.Rows PySem.Calls LCg
namespace Mine
local macro_rules | `(tactic| walk_at "no such key") => `(tactic| fail)
theorem words_M2 : True := by (k_with_none; w_top off; trivial)
/-- the end of one evaluation within a list comprehension's turn -/
def CEnd (GI : Shared → Prop) (h₀ : Heap) (L : Addr) (m : Str → Option Value) (s₁ : Shared) (I : Addr) (oI : Obj) (C : Addr) (oC : Obj) (D : Addr) (oD : Obj) (news : List (Addr × Obj)) {α : Type} (rest : α → Prop) (y : α) (s₂ : Shared) : Prop :=
  ∃ (h' : Heap) (s' : Shared) (tk : Nat), s₂ = { s' with heap := h', toks := tk } ∧ (∃ g, s' = { s₁ with gens := g }) ∧ GI s' ∧ Fr h₀ L h' m ∧ News h₀ L h' ((I, oI) :: (C, oC) :: (D, oD) :: news) ∧ rest y
theorem cEnd {GI : Shared → Prop} {h₀ : Heap} {L I C D : Addr} {m : Str → Option Value} {s₁ : Shared} {oI oC oD : Obj} {news : List (Addr × Obj)} {α : Type} {rest : α → Prop} {y : α} {h' : Heap} {tk : Nat} {all : List (Addr × Obj)}
    (hg : GI s₁) (F : Fr h₀ L h' m) (N : News h₀ L h' all) (sub : ∀ p ∈ (I, oI) :: (C, oC) :: (D, oD) :: news, p ∈ all) (r : rest y) :
    CEnd GI h₀ L m s₁ I oI C oC D oD news rest y { s₁ with heap := h', toks := tk } := ⟨h', s₁, tk, rfl, ⟨s₁.gens, rfl⟩, hg, F, fun p hp => N p (sub p hp), r⟩
/-- a turn's tests and its element -/
def TurnG (prog : Program) (w : World) (A : Around) (GI : Shared → Prop) (h₀ : Heap) (L : Addr) (m : Str → Option Value) (env : Env) (elt : Expr) (x : Str) (ifs : List Expr) (scope : Scope) (cl : List (Str × Addr)) (news : List (Addr × Obj)) (P : Nat → Value → Prop) (Inv : Nat → List Value → Prop) (n : Nat) (s₂ : Shared) : Prop :=
  ∀ i v ys I oI C oC D m₂ h tk s₃ (E' : Value → Shared → Prop), i < n → P i v → Inv i ys → (∃ g, s₃ = { s₂ with gens := g }) → GI s₃ → NsObj oC m₂ → m₂ x = some v → Fr h₀ L h m → News h₀ L h ((I, oI) :: (C, oC) :: (D, lst ys) :: news) → Off3 I C D news → ((@Ne Nat I C) ∧ (@Ne Nat I D) ∧ (@Ne Nat C D)) →
    wpAny (model prog w) A (forIn ifs true fun c r => if r = true then do let ok ← isTrue c (compEnvC scope cl C env) (eval c (compEnvC scope cl C env)); pure (ForInStep.yield ok) else pure (ForInStep.yield r))
      (fun ok s₄ => if ok = true then wpAny (model prog w) A (eval elt (compEnvC scope cl C env)) (CEnd GI h₀ L m s₃ I oI C oC D (lst ys) news (fun y => Inv (i + 1) (ys ++ [y]))) E' s₄
        else CEnd GI h₀ L m s₃ I oI C oC D (lst ys) news (fun _ => Inv (i + 1) ys) () s₄) E' { s₃ with heap := h, toks := tk }
section
variable {prog : Program} {w : World} {A : Around} {E : Value → Shared → Prop} {s : Shared} {h₀ : Heap} {L : Addr} {m : Str → Option Value} {env : Env} {GI : Shared → Prop}
theorem blockG {elt iter : Expr} {x : Str} {px : Pos} {ifs : List Expr} {scope : Scope} {cl : List (Str × Addr)} {pos : Pos} {s₂ : Shared} {I : Addr} {fp : List Addr} {n : Nat} {P : Nat → Value → Prop} {St : Nat → Heap → Prop} {news : List (Addr × Obj)}
    {Inv : Nat → List Value → Prop} {RR : Value → Addr → Result → Shared → Prop}
    (W : Walks prog w A I fp [I] n P St) (hsz : n ≤ sizeLine) (hIo : ∀ i h, St i h → ∃ o, h.get? I = some o)
    (hSt : ∀ i h h' o, St i h → h.get? I = some o → h'.get? I = some o → (∀ b o, h₀.get? b = some o → h'.get? b = some o) → News h₀ L h' news → St i h')
    (hcell : ∀ y ∈ scope.names, y.2 ≠ .cell) (hkind : scope.kind = .function) (hx : scope.names.lookup x = some .local) (hst : St 0 s₂.heap) (hfp : ∀ b ∈ fp, b < s₂.heap.objs.size)
    (F : Fr h₀ L s₂.heap m) (N : News h₀ L s₂.heap news) (hIL : L ≠ I) (hI₀ : h₀.get? I = none) (off : ∀ p ∈ news, p.1 ≠ I) (hG : GI s₂) (hGI : ∀ s h tk, GI s → GI { s with heap := h, toks := tk }) (hInv : Inv 0 []) (hle : ∀ i ys, Inv i ys → ys.length ≤ i)
    (turn : TurnG prog w A GI h₀ L m env elt x ifs scope cl news P Inv n s₂)
    (hRR : ∀ D C h tk m' ys s', (∃ g, s' = { s₂ with gens := g }) → GI s' → Fr h₀ L h m → News h₀ L h ((D, lst ys) :: news) → Off1 D news → h.Ns C m' → h₀.get? C = none → h₀.get? D = none → C ≠ L → D ≠ L → C ≠ D → (∀ p ∈ news, p.1 ≠ C) → Inv n ys → RR (.ref D) C (.ok .next) { s' with heap := h, toks := tk }) :
    wpAny (model prog w) A (newList []) (fun acc s₃ => wpAny (model prog w) A (newFunctionEnv scope env.globals cl [] env.qual none .none (some env)) (fun cenv s₄ =>
      codeAny (model prog w) A (.compStart (.ListComp elt [⟨.Name x px, iter, ifs, 0⟩] scope pos) 0 (.ref I) acc { cenv with scope := relabel scope env }) (RR acc cenv.locals) s₄) E s₃) E s₂ := by
  refine wpAny_newObj_type (wpAny_newFunctionEnv hcell (by intro y hy; simp at hy) (fun h₁ hns₁ hsb₁ => ?_) hkind)
  dsimp only at hns₁ hsb₁ ⊢
  generalize hH2 : s₂.heap.push { cls := .type "list", dict := none, data := .seq ([] : List Value).toArray } = H2 at hns₁ hsb₁ ⊢
  have hC : H2.objs.size = s₂.heap.objs.size + 1 := by rw [← hH2, Heap.size_push]
  have hDC : s₂.heap.objs.size ≠ H2.objs.size := by rw [hC]; exact Nat.ne_of_lt (Nat.lt_succ_self _)
  have below : ∀ b, b < s₂.heap.objs.size → b ≠ H2.objs.size ∧ b ≠ s₂.heap.objs.size := fun b hb => ⟨by rw [hC]; exact Nat.ne_of_lt (Nat.lt_succ_of_lt hb), Nat.ne_of_lt hb⟩
  have hDf : s₂.heap.objs.size ∉ fp := fun hm => Nat.lt_irrefl _ (hfp _ hm)
  have hCf : H2.objs.size ∉ fp := fun hm => by have := hfp _ hm; rw [hC] at this; exact Nat.lt_irrefl _ (Nat.lt_of_succ_lt this)
  have hIf : I ∈ fp := W.sub I (List.mem_singleton.mpr rfl)
  have hIlt : I < s₂.heap.objs.size := hfp I hIf
  have old : ∀ b o, s₂.heap.get? b = some o → h₁.get? b = some o := fun b o e => hsb₁.extBut b o (below b (Heap.lt_size e)).1 (Heap.get?_push_of_some _ (hH2 ▸ Heap.get?_push_of_some _ e))
  have hacc : h₁.get? s₂.heap.objs.size = some (lst []) := hsb₁.extBut _ _ hDC (Heap.get?_push_of_some _ (hH2 ▸ Heap.get?_push_size _ rfl))
  have hst₁ : St 0 h₁ := W.frame _ _ _ hst fun b _ o e => old b o e
  have fresh : ∀ a, s₂.heap.objs.size ≤ a → s₂.heap.get? a = none := fun a ha => by
    cases e : s₂.heap.get? a with
    | none => rfl
    | some o' => exact absurd (Heap.lt_size e) (Nat.not_lt.mpr ha)
  have fresh₀ : ∀ a, s₂.heap.objs.size ≤ a → h₀.get? a = none := fun a ha => by
    cases e : h₀.get? a with
    | none => rfl
    | some o' => have := F.keep a o' e; rw [fresh a ha] at this; cases this
  have hD₀ : h₀.get? s₂.heap.objs.size = none := fresh₀ _ (Nat.le_refl _)
  have hC₀ : h₀.get? H2.objs.size = none := fresh₀ _ (by rw [hC]; exact Nat.le_succ _)
  have hLlt : L < s₂.heap.objs.size := F.ns.lt
  have hDL : s₂.heap.objs.size ≠ L := Ne.symm (below L hLlt).2
  have hCL : H2.objs.size ≠ L := Ne.symm (below L hLlt).1
  have hCI : I ≠ H2.objs.size := (below I hIlt).1
  have hDI : I ≠ s₂.heap.objs.size := (below I hIlt).2
  have off₀ : Off3 I H2.objs.size s₂.heap.objs.size news := Off3.of fun p hp => ⟨off p hp, (below _ (Heap.lt_size (N p hp).1)).1, (below _ (Heap.lt_size (N p hp).1)).2⟩
  have off3 := off₀.mem
  have loop : ∀ s₃ : Shared, s₃ = { s₂ with heap := h₁, toks := s₂.toks + ([] : List (Str × Value)).length } →
      codeAny (model prog w) A (.compLoop (.ListComp elt [⟨.Name x px, iter, ifs, 0⟩] scope pos) 0 (.ref I) (.ref s₂.heap.objs.size) (compEnvC scope cl H2.objs.size env))
        (RR (.ref s₂.heap.objs.size) H2.objs.size) s₃ := by
    rintro s₃ rfl
    refine codeAny_compLoop_tests
      (fun k s' => ∃ h' tk i ys m' s₀, s' = { s₀ with heap := h', toks := tk } ∧ (∃ g, s₀ = { s₂ with gens := g }) ∧ GI s₀ ∧ i ≤ n ∧ k = n + 1 - i ∧ St i h' ∧ Fr h₀ L h' m ∧ h'.Ns H2.objs.size m' ∧ News h₀ L h' ((s₂.heap.objs.size, lst ys) :: news) ∧ Inv i ys) ?_ (n + 1)
      ⟨h₁, _, 0, [], _, s₂, rfl, ⟨_, rfl⟩, hG, Nat.zero_le _, rfl, hst₁, F.keeps old, hns₁, fun p hp => ?_, hInv⟩
    · rintro k s' ⟨h', tk, i, ys, m', s₀, rfl, hs₀, hG₀, hi, rfl, hst', F', hn', N', hI'⟩
      by_cases hlt : i < n
      · refine W.item i _ _ _ hlt hst' fun v h₂ tk₂ hPv hst₂ hk₂ => ?_
        refine wpAny_assign_Name (wpAny_storeName_local (lookup_relabel_local hx) (hn'.at' fun o e => hk₂ _ o (by simpa using Ne.symm hCI) e) (fun h₃ hn₃ hs₃ => ?_) (by simp [compEnvC, relabel, hkind]))
        have hst₃ : St (i + 1) h₃ := W.frame _ _ _ hst₂ fun b hb o e => hs₃.extBut b o (fun q => hCf (by have q' : b = H2.objs.size := q; rw [← q']; exact hb)) e
        obtain ⟨oI, heI⟩ := hIo _ _ hst₃
        obtain ⟨oC, heC, hoC⟩ := ns_obj hn₃
        have F₃ : Fr h₀ L h₃ m := (fr_but F' hk₂ hIL hI₀).change hs₃ hCL hC₀
        have N₂ : News h₀ L h₂ ((s₂.heap.objs.size, lst ys) :: news) := news_but N' hk₂ fun p hp => by
          rcases List.mem_cons.mp hp with rfl | hp
          · exact Ne.symm hDI
          · exact (off3 p hp).1
        have N₃ : News h₀ L h₃ ((I, oI) :: (H2.objs.size, oC) :: (s₂.heap.objs.size, lst ys) :: news) := fun p hp => by
          rcases List.mem_cons.mp hp with rfl | hp
          · exact ⟨heI, Ne.symm hIL, hI₀⟩
          · rcases List.mem_cons.mp hp with rfl | hp
            · exact ⟨heC, hCL, hC₀⟩
            · have z := N₂ p hp
              refine ⟨hs₃.extBut _ _ ?_ z.1, z.2⟩
              rcases List.mem_cons.mp hp with rfl | hp
              · exact hDC
              · exact (off3 p hp).2.1
        refine wpAny_mono (turn i v ys I oI H2.objs.size oC s₂.heap.objs.size _ h₃ _ s₀ _ hlt hPv hI' hs₀ hG₀ hoC (by simp) F₃ N₃ off₀ ⟨hCI, hDI, Ne.symm hDC⟩) (fun ok s₄ h₄ => ?_) fun _ _ e => e
        cases ok with
        | false =>
          rw [if_neg (by simp)] at h₄ ⊢
          obtain ⟨h₄, s₅, tk₄, rfl, ⟨g, rfl⟩, hG₅, F₄, N₄, hI₄⟩ := h₄
          obtain ⟨g₀, rfl⟩ := hs₀
          have zI := (N₄ (I, oI) List.mem_cons_self).1
          have zC := (N₄ (H2.objs.size, oC) (List.mem_cons_of_mem _ List.mem_cons_self)).1
          have N₄' : News h₀ L h₄ ((s₂.heap.objs.size, lst ys) :: news) := fun p hp => N₄ p (List.mem_cons_of_mem _ (List.mem_cons_of_mem _ hp))
          have hst₄ : St (i + 1) h₄ := hSt _ _ _ _ hst₃ heI zI F₄.keep (fun p hp => N₄' p (List.mem_cons_of_mem _ hp))
          exact ⟨n + 1 - (i + 1), by omega, h₄, tk₄, i + 1, ys, _, { s₂ with gens := g }, rfl, ⟨g, rfl⟩, hG₅, hlt, rfl, hst₄, F₄, hoC.ns zC, N₄', hI₄⟩
        | true =>
          rw [if_pos rfl] at h₄ ⊢
          refine wpAny_mono h₄ (fun y s₅ hh₅ => ?_) fun _ _ e => e
          clear h₄
          obtain ⟨h₄, s₅, tk₄, rfl, ⟨g, rfl⟩, hG₅, F₄, N₄, hI₄⟩ := hh₅
          obtain ⟨g₀, rfl⟩ := hs₀
          have zI := (N₄ (I, oI) List.mem_cons_self).1
          have zC := (N₄ (H2.objs.size, oC) (List.mem_cons_of_mem _ List.mem_cons_self)).1
          have N₄' : News h₀ L h₄ ((s₂.heap.objs.size, lst ys) :: news) := fun p hp => N₄ p (List.mem_cons_of_mem _ (List.mem_cons_of_mem _ hp))
          have zD := (N₄' (s₂.heap.objs.size, lst ys) List.mem_cons_self).1
          have hst₄ : St (i + 1) h₄ := hSt _ _ _ _ hst₃ heI zI F₄.keep (fun p hp => N₄' p (List.mem_cons_of_mem _ hp))
          have hyl := hle _ _ hI'
          refine append_at (hsz := by show ys.toArray.size ≤ sizeLine; rw [List.size_toArray]; omega) zD fun h₅ hs₅ hD₅ => ?_
          refine ⟨n + 1 - (i + 1), by omega, h₅, tk₄, i + 1, ys ++ [y], _, { s₂ with gens := g }, rfl, ⟨g, rfl⟩, hG₅, hlt, rfl, W.frame _ _ _ hst₄ fun b hb o e => hs₅.extBut b o (fun q => hDf (q ▸ hb)) e, F₄.change hs₅ hDL hD₀,
            (hoC.ns zC).sameBut hs₅ (Ne.symm hDC), fun p hp => ?_, hI₄⟩
          rcases List.mem_cons.mp hp with rfl | hp
          · exact ⟨hD₅.trans (congrArg some (lst_snoc ys y)), hDL, hD₀⟩
          · exact ⟨hs₅.extBut _ _ (off3 p hp).2.2 (N₄' p (List.mem_cons_of_mem _ hp)).1, (N₄' p (List.mem_cons_of_mem _ hp)).2⟩
      · obtain rfl : i = n := Nat.le_antisymm hi (Nat.not_lt.mp hlt)
        refine W.done _ _ _ hst' fun h₂ tk₂ hk₂ => ?_
        exact hRR _ _ h₂ tk₂ _ ys s₀ hs₀ hG₀ (fr_but F' hk₂ hIL hI₀) (news_but N' hk₂ fun p hp => by
          rcases List.mem_cons.mp hp with rfl | hp
          · exact Ne.symm hDI
          · exact (off3 p hp).1) off₀.one (hn'.at' fun o e => hk₂ _ o (by simpa using Ne.symm hCI) e) hC₀ hD₀ hCL hDL (Ne.symm hDC) (fun p hp => (off3 p hp).2.1) hI'
    · rcases List.mem_cons.mp hp with rfl | hp
      · exact ⟨hacc, hDL, hD₀⟩
      · exact ⟨old _ _ (N p hp).1, (N p hp).2⟩
  exact codeAny_compStart_list (loop _ rfl) (W.self 0 _ _ _ hst₁ (loop _ rfl))

/-- the source of a comprehension: a list of the ledger or the base, or a range -/
def SrcG (prog : Program) (w : World) (A : Around) (GI : Shared → Prop) (h₀ : Heap) (L : Addr) (m : Str → Option Value) (env : Env) (elt : Expr) (x : Str) (ifs : List Expr) (scope : Scope) (cl : List (Str × Addr)) (Fin : Shared → (Nat → List Value → Prop) → Nat → List (Addr × Obj) → Prop) (xv : Value) (s₁ : Shared) : Prop :=
  ∃ (n : Nat) (P : Nat → Value → Prop) (Inv : Nat → List Value → Prop) (news : List (Addr × Obj)),
    ((∃ ax its, xv = .ref ax ∧ SrcAt h₀ ax its news ∧ n = its.size ∧ P = fun i v => its[i]? = some v) ∨
     (∃ r a b t u v, xv = .ref r ∧ IsRange s₁.heap r a b 1 t u v ∧ Builtin.Range.small a b 1 = true ∧ Builtin.Range.rangeSize a b 1 = ((n : Nat) : Int) ∧ P = fun i v => ∃ t, v = .int (a + (i : Int)) t)) ∧
    A.handled = none ∧ Fr h₀ L s₁.heap m ∧ News h₀ L s₁.heap news ∧ n ≤ sizeLine ∧ GI s₁ ∧ (∀ s h tk, GI s → GI { s with heap := h, toks := tk }) ∧ Inv 0 [] ∧ (∀ i ys, Inv i ys → ys.length ≤ i) ∧
    (∀ hp, TurnG prog w A GI h₀ L m env elt x ifs scope cl news P Inv n { s₁ with heap := hp }) ∧ ∀ hp, Fin { s₁ with heap := hp } Inv n news
def FinG (GI : Shared → Prop) (h₀ : Heap) (L : Addr) (m : Str → Option Value) (Q : Value → Shared → Prop) (s : Shared) (Inv : Nat → List Value → Prop) (n : Nat) (news : List (Addr × Obj)) : Prop :=
  ∀ D h tk ys s', (∃ g, s' = { s with gens := g }) → GI s' → Fr h₀ L h m → News h₀ L h ((D, lst ys) :: news) → Off1 D news → Inv n ys → Q (.ref D) { s' with heap := h, toks := tk }
def FinGA (GI : Shared → Prop) (h₀ : Heap) (L : Addr) (m : Str → Option Value) (y : Str) (Q : Flow → Shared → Prop) (s : Shared) (Inv : Nat → List Value → Prop) (n : Nat) (news : List (Addr × Obj)) : Prop :=
  ∀ D h tk ys s', (∃ g, s' = { s with gens := g }) → GI s' → Fr h₀ L h (fun z => if z = y then some (.ref D) else m z) → News h₀ L h ((D, lst ys) :: news) → Off1 D news → Inv n ys → Q .next { s' with heap := h, toks := tk }
theorem srcBlock {elt iter : Expr} {x : Str} {px : Pos} {ifs : List Expr} {scope : Scope} {cl : List (Str × Addr)} {pos : Pos} {Fin : Shared → (Nat → List Value → Prop) → Nat → List (Addr × Obj) → Prop} {RR : Value → Addr → Result → Shared → Prop} {xv : Value} {s₁ : Shared}
    (hcell : ∀ y ∈ scope.names, y.2 ≠ .cell) (hkind : scope.kind = .function) (hx : scope.names.lookup x = some .local)
    (h : SrcG prog w A GI h₀ L m env elt x ifs scope cl Fin xv s₁)
    (hRR : ∀ hp Inv n news, Fin { s₁ with heap := hp } Inv n news → ∀ D C h tk m' ys s', (∃ g, s' = { s₁ with heap := hp, gens := g }) → GI s' → Fr h₀ L h m → News h₀ L h ((D, lst ys) :: news) → Off1 D news → h.Ns C m' → h₀.get? C = none → h₀.get? D = none → C ≠ L → D ≠ L → C ≠ D → (∀ p ∈ news, p.1 ≠ C) → Inv n ys → RR (.ref D) C (.ok .next) { s' with heap := h, toks := tk }) :
    wpAny (model prog w) A (pyIter xv) (fun it s₂ => wpAny (model prog w) A (newList []) (fun acc s₃ => wpAny (model prog w) A (newFunctionEnv scope env.globals cl [] env.qual none .none (some env)) (fun cenv s₄ =>
      codeAny (model prog w) A (.compStart (.ListComp elt [⟨.Name x px, iter, ifs, 0⟩] scope pos) 0 it acc { cenv with scope := relabel scope env }) (RR acc cenv.locals) s₄) E s₃) E s₂) E s₁ := by
  obtain ⟨n, P, Inv, news, hsrc, hh, F, N, hsz, hG, hGI, hI0, hle, turn, fin⟩ := h
  rcases hsrc with ⟨ax, its, rfl, S, rfl, rfl⟩ | ⟨r, a, b, t, u, v, rfl, hr, hsm, hn, rfl⟩
  · have hl := S.list F.keep N
    have hlt : ax < s₁.heap.objs.size := by obtain ⟨_, e, _⟩ := hl; exact Heap.lt_size e
    refine wpAny_pyIter_list hl ?_
    have up : ∀ b o, s₁.heap.get? b = some o → (s₁.heap.push { cls := .type "list_iterator", data := .fields #[.ref ax, .int 0 0] }).get? b = some o := fun b o e => Heap.get?_push_of_some _ e
    refine blockG (GI := GI) (Inv := Inv) (Walks.list hh s₁.heap.objs.size ax (Nat.ne_of_lt hlt) its) hsz (fun i h st => by obtain ⟨o, e, _⟩ := st.1; exact ⟨o, e⟩)
      (fun i h h' o st e e' k N' => list_st i h h' o news st e e' k N' S) hcell hkind hx ⟨⟨_, Heap.get?_push_size _ rfl, rfl, rfl⟩, hl.push _⟩ (fun b hb => ?_)
      (F.keeps up) (N.grown up) (Nat.ne_of_lt F.ns.lt) (next_is_new F) (fun p hp => Nat.ne_of_lt (Heap.lt_size (N p hp).1)) (hGI _ _ s₁.toks hG) hGI hI0 hle (turn _) (fun D C h tk m' ys s' hs' => hRR _ _ _ _ (fin _) D C h tk m' ys s' hs')
    show b < (s₁.heap.push _).objs.size
    rw [Heap.size_push]
    rcases List.mem_cons.mp hb with rfl | hb
    · exact Nat.lt_succ_self _
    · rw [List.mem_singleton.mp hb]; exact Nat.lt_succ_of_lt hlt
  · refine wpAny_pyIter_range hr hsm ?_
    refine blockG (GI := GI) (Inv := Inv) (range_walks hh a n) hsz (fun i h st => ⟨_, st⟩) (fun i h h' o st e e' k N' => range_st i h h' o news st e e' k N' trivial) hcell hkind hx (by show IsRangeIter _ _ _ _ _; rw [hn]; simpa using Heap.get?_push_size _ rfl) (fun b hb => ?_)
      (F.keeps fun _ _ e => Heap.get?_push_of_some _ e) (N.grown fun _ _ e => Heap.get?_push_of_some _ e) (Nat.ne_of_lt F.ns.lt) (next_is_new F) (fun p hp => Nat.ne_of_lt (Heap.lt_size (N p hp).1)) (hGI _ _ s₁.toks hG) hGI hI0 hle (turn _) (fun D C h tk m' ys s' hs' => hRR _ _ _ _ (fin _) D C h tk m' ys s' hs')
    rw [List.mem_singleton.mp hb]
    show s₁.heap.objs.size < (s₁.heap.push _).objs.size
    rw [Heap.size_push]; exact Nat.lt_succ_self _
theorem compG {elt iter : Expr} {x : Str} {px : Pos} {ifs : List Expr} {scope : Scope} {cl : List (Str × Addr)} {pos : Pos} {Q : Value → Shared → Prop} (GI : Shared → Prop) (F₀ : Fr h₀ L s.heap m)
    (hclos : closureFor scope env = pure cl) (hcell : ∀ y ∈ scope.names, y.2 ≠ .cell) (hkind : scope.kind = .function)
    (hnames : ∀ y ∈ scope.names, y.2 = .local → scope.names.lookup y.1 = some .local) (hx : scope.names.lookup x = some .local)
    (h : wpAny (model prog w) A (eval iter env) (SrcG prog w A GI h₀ L m env elt x ifs scope cl (FinG GI h₀ L m Q)) E s)
    (hs : ∀ x, foldedSetIterable iter env x = pure x := by intro _; rfl) :
    wpAny (model prog w) A (eval (.ListComp elt [⟨.Name x px, iter, ifs, 0⟩] scope pos) env) Q E s := by
  rw [eval_ListComp]
  refine wpAny_comprehension_free (use := none) rfl hs hclos hkind hnames (wpAny_mono h (fun xv s₁ h₁ => srcBlock (RR := fun acc C => compPost (model prog w) A E none Q acc C) hcell hkind hx h₁ ?_) fun _ _ e => e)
  intro hp Inv n news fin D C h tk m' ys s' hs' hG F' N' o1 hn hC₀ hD₀ hCL hDL hCD offC hi
  refine ⟨m', hn, fun h'' hs'' => fin D h'' tk ys s' hs' hG (F'.change hs'' hCL hC₀) (fun p hp => ?_) o1 hi⟩
  refine ⟨hs''.extBut _ _ ?_ (N' p hp).1, (N' p hp).2⟩
  rcases List.mem_cons.mp hp with rfl | hp
  · exact Ne.symm hCD
  · exact offC p hp
theorem compGA {elt iter : Expr} {x y : Str} {px py : Pos} {ifs : List Expr} {scope : Scope} {cl : List (Str × Addr)} {pos spos : Pos} {Q : Flow → Shared → Prop} (GI : Shared → Prop) (F₀ : Fr h₀ L s.heap m) (hLe : env.locals = L)
    (hsw : swapsWith (.ListComp elt [⟨.Name x px, iter, ifs, 0⟩] scope pos) (some (.Name y py)) spos.line env = pure true)
    (hclos : closureFor scope env = pure cl) (hcell : ∀ z ∈ scope.names, z.2 ≠ .cell) (hkind : scope.kind = .function)
    (hnames : ∀ z ∈ scope.names, z.2 = .local → scope.names.lookup z.1 = some .local) (hx : scope.names.lookup x = some .local)
    (hy : env.kindOf y = some .local) (hp : (env.scope.kind == .class || (env.scope.kind == .module && env.locals != env.globals)) = false)
    (h : wpAny (model prog w) A (eval iter env) (SrcG prog w A GI h₀ L m env elt x ifs scope cl (FinGA GI h₀ L m y Q)) E s)
    (hs : ∀ x, foldedSetIterable iter env x = pure x := by intro _; rfl) :
    wpAny (model prog w) A (exec (.Assign [.Name y py] (.ListComp elt [⟨.Name x px, iter, ifs, 0⟩] scope pos) spos) env) Q E s := by
  subst hLe
  rw [exec_Assign_Name_used _ _ _ _ hsw]
  refine wpAny_bind (wpAny_standAt (wpAny_bind ?_))
  show wpAny _ A (do let _ ← comprehension (.ListComp elt [⟨.Name x px, iter, ifs, 0⟩] scope pos) scope env _ (newList []) false (eval iter env) (some (assign (.Name y py) env))) _ _ s
  refine wpAny_bind (wpAny_mono (wpAny_comprehension_free (use := some (assign (.Name y py) env)) (Q := fun _ s' => Q .next s') rfl hs hclos hkind hnames
    (wpAny_mono h (fun xv s₁ h₁ => srcBlock (RR := fun acc C => compPost (model prog w) A E (some (assign (.Name y py) env)) (fun _ s' => Q .next s') acc C) hcell hkind hx h₁ ?_) fun _ _ e => e)) (fun _ s' hq => wpAny_pure (wpAny_pure hq)) fun _ _ e => e)
  intro hp' Inv n news fin D C h' tk m' ys s' hs' hG F' N' o1 hn hC₀ hD₀ hCL hDL hCD offC hi
  show wpAny _ A (assign (.Name y py) env (.ref D)) _ _ _
  refine wpAny_assign_Name (wpAny_storeName_local hy F'.ns (fun h₂ hn₂ hs₂ => ?_) hp)
  have hL₀ : h₀.get? env.locals = none := Heap.get?_none_of_le F'.above
  have F₂ : Fr h₀ env.locals h₂ (fun z => if z = y then some (.ref D) else m z) := ⟨hn₂, fun b o e => hs₂.extBut b o (fun q => by rw [q, hL₀] at e; cases e) (F'.keep b o e), F'.above⟩
  refine ⟨m', hn.sameBut hs₂ hCL, fun h'' hs'' => fin D h'' _ ys s' hs' hG (F₂.change hs'' hCL hC₀) (fun p hp => ?_) o1 hi⟩
  have z : h₂.get? p.1 = some p.2 := hs₂.extBut _ _ (N' p hp).2.1 (N' p hp).1
  refine ⟨hs''.extBut _ _ ?_ z, (N' p hp).2⟩
  rcases List.mem_cons.mp hp with rfl | hp
  · exact Ne.symm hCD
  · exact offC p hp
end
end Mine
end
/-! M3 -/
section
open PySem PySem.W PyProof.Rows PySem.Calls LCg
namespace Mine
theorem words_M3 : True := by (k_with_none; w_top off; trivial)
/-- a turn's tests and its element; the loop's name is a cell -/
def TurnC (prog : Program) (w : World) (A : Around) (GI : Shared → Prop) (h₀ : Heap) (L : Addr) (m : Str → Option Value) (env : Env) (elt : Expr) (x : Str) (ifs : List Expr) (scope : Scope) (cl : List (Str × Addr)) (news : List (Addr × Obj)) (P : Nat → Value → Prop) (Inv : Nat → List Value → Prop) (n : Nat) (s₂ : Shared) : Prop :=
  ∀ i v ys I oI C oC D Cc oc m₂ h tk s₃ (E' : Value → Shared → Prop), i < n → P i v → Inv i ys → (∃ g, s₃ = { s₂ with gens := g }) → GI s₃ → NsObj oC m₂ → oc.data = .cell (some v) → Fr h₀ L h m → News h₀ L h ((I, oI) :: (C, oC) :: (D, lst ys) :: (Cc, oc) :: news) → Off3 I C D ((Cc, oc) :: news) → ((@Ne Nat I C) ∧ (@Ne Nat I D) ∧ (@Ne Nat C D)) → Off1 Cc news →
    wpAny (model prog w) A (forIn ifs true fun c r => if r = true then do let ok ← isTrue c (compEnvC scope ((x, Cc) :: cl) C env) (eval c (compEnvC scope ((x, Cc) :: cl) C env)); pure (ForInStep.yield ok) else pure (ForInStep.yield r))
      (fun ok s₄ => if ok = true then wpAny (model prog w) A (eval elt (compEnvC scope ((x, Cc) :: cl) C env)) (CEnd GI h₀ L m s₃ I oI C oC D (lst ys) ((Cc, oc) :: news) (fun y => Inv (i + 1) (ys ++ [y]))) E' s₄
        else CEnd GI h₀ L m s₃ I oI C oC D (lst ys) ((Cc, oc) :: news) (fun _ => Inv (i + 1) ys) () s₄) E' { s₃ with heap := h, toks := tk }
theorem off1_of {D : Addr} : ∀ {l : List (Addr × Obj)}, (∀ p ∈ l, p.1 ≠ D) → Off1 D l
  | [], _ => trivial
  | _ :: _, h => ⟨h _ List.mem_cons_self, off1_of fun p hp => h p (List.mem_cons_of_mem _ hp)⟩
theorem off1_mem {D : Addr} : ∀ {l : List (Addr × Obj)}, Off1 D l → ∀ p ∈ l, p.1 ≠ D
  | [], _, _, h => nomatch h
  | _ :: _, x, p, h => by
    rcases List.mem_cons.mp h with rfl | h
    · exact x.1
    · exact off1_mem x.2 p h
section
variable {prog : Program} {w : World} {A : Around} {E : Value → Shared → Prop} {s : Shared} {h₀ : Heap} {L : Addr} {m : Str → Option Value} {env : Env} {GI : Shared → Prop}
theorem newEnvC {M : Model} {scope : Scope} {cl : List (Str × Addr)} {globals : Addr} {qual x : Str} {Q : Env → Shared → Prop}
    (hcell : ∀ C, cellsFrom (C + 1) scope.names cl = (x, C + 1) :: cl) (hpush : ∀ h : Heap, pushCells h scope.names = h.push { cls := .type "cell", data := .cell none })
    (h : Q { scope := scope, locals := s.heap.objs.size, globals := globals, cells := (x, s.heap.objs.size + 1) :: cl, qual := qual, func := none, code := env.code, frame := env.frame, builtins := env.builtins }
      { s with heap := (s.heap.push { cls := .type "dict", data := .dict #[] }).push { cls := .type "cell", data := .cell none } }) :
    wpAny M A (newFunctionEnv scope globals cl [] qual none .none (some env)) Q E s := by
  simp only [newFunctionEnv, Option.isSome_some, if_true]
  refine wpAny_bind (wpAny_alloc ?_)
  refine wpAny_bind (wpAny_layCells _ (fun name kind cells => by cases hkc : kind == NameKind.cell <;> simp [hkc]) _ _ _ _ ?_)
  rw [show ({ s with heap := s.heap.push { cls := .type "dict", data := .dict #[] } } : Shared).heap.objs.size = s.heap.objs.size + 1 from Heap.size_push ..]
  rw [hcell, hpush]
  exact wpAny_bind (by rw [List.forIn_nil]; exact wpAny_pure (wpAny_pure h))
theorem blockC {elt iter : Expr} {x : Str} {px : Pos} {ifs : List Expr} {scope : Scope} {cl : List (Str × Addr)} {pos : Pos} {s₂ : Shared} {I : Addr} {fp : List Addr} {n : Nat} {P : Nat → Value → Prop} {St : Nat → Heap → Prop} {news : List (Addr × Obj)}
    {Inv : Nat → List Value → Prop} {RR : Value → Addr → Result → Shared → Prop}
    (W : Walks prog w A I fp [I] n P St) (hsz : n ≤ sizeLine) (hIo : ∀ i h, St i h → ∃ o, h.get? I = some o)
    (hSt : ∀ i h h' o, St i h → h.get? I = some o → h'.get? I = some o → (∀ b o, h₀.get? b = some o → h'.get? b = some o) → News h₀ L h' news → St i h')
    (hcell : ∀ C, cellsFrom (C + 1) scope.names cl = (x, C + 1) :: cl) (hpush : ∀ h : Heap, pushCells h scope.names = h.push { cls := .type "cell", data := .cell none }) (hkind : scope.kind = .function) (hx : (relabel scope env).names.lookup x = some .cell)
    (hst : St 0 s₂.heap) (hfp : ∀ b ∈ fp, b < s₂.heap.objs.size)
    (F : Fr h₀ L s₂.heap m) (N : News h₀ L s₂.heap news) (hIL : L ≠ I) (hI₀ : h₀.get? I = none) (off : ∀ p ∈ news, p.1 ≠ I) (hG : GI s₂) (hInv : Inv 0 []) (hle : ∀ i ys, Inv i ys → ys.length ≤ i)
    (turn : TurnC prog w A GI h₀ L m env elt x ifs scope cl news P Inv n s₂)
    (hRR : ∀ D C h tk m' ys s', (∃ g, s' = { s₂ with gens := g }) → GI s' → Fr h₀ L h m → News h₀ L h ((D, lst ys) :: news) → Off1 D news → h.Ns C m' → h₀.get? C = none → h₀.get? D = none → C ≠ L → D ≠ L → C ≠ D → (∀ p ∈ news, p.1 ≠ C) → Inv n ys → RR (.ref D) C (.ok .next) { s' with heap := h, toks := tk }) :
    wpAny (model prog w) A (newList []) (fun acc s₃ => wpAny (model prog w) A (newFunctionEnv scope env.globals cl [] env.qual none .none (some env)) (fun cenv s₄ =>
      codeAny (model prog w) A (.compStart (.ListComp elt [⟨.Name x px, iter, ifs, 0⟩] scope pos) 0 (.ref I) acc { cenv with scope := relabel scope env }) (RR acc cenv.locals) s₄) E s₃) E s₂ := by
  refine wpAny_newObj_type (newEnvC hcell hpush ?_)
  dsimp only
  generalize hH2 : s₂.heap.push { cls := .type "list", dict := none, data := .seq ([] : List Value).toArray } = H2
  have hC : H2.objs.size = s₂.heap.objs.size + 1 := by rw [← hH2, Heap.size_push]
  have hDC : s₂.heap.objs.size ≠ H2.objs.size := by rw [hC]; exact Nat.ne_of_lt (Nat.lt_succ_self _)
  generalize hh₁ : (H2.push { cls := .type "dict", data := .dict #[] }).push { cls := .type "cell", data := .cell none } = h₁
  have upH : ∀ b o, H2.get? b = some o → h₁.get? b = some o := fun b o e => by rw [← hh₁]; exact Heap.get?_push_of_some _ (Heap.get?_push_of_some _ e)
  have hns₁ : h₁.Ns H2.objs.size (fun _ => none) := by rw [← hh₁]; exact (Heap.Ns.new H2 (.type "dict")).push _
  have hsz1 : (H2.push { cls := .type "dict", data := .dict #[] }).objs.size = H2.objs.size + 1 := Heap.size_push ..
  have hcl₁ : h₁.IsCell (H2.objs.size + 1) none := by
    have := Heap.get?_push_size (H2.push { cls := .type "dict", data := .dict #[] }) (o := { cls := .type "cell", data := .cell none }) rfl
    rw [hsz1, hh₁] at this
    exact ⟨_, this, rfl⟩
  clear hh₁ hsz1
  generalize hCc : H2.objs.size + 1 = Cc at hcl₁
  have hCcC : H2.objs.size ≠ Cc := by rw [← hCc]; exact Nat.ne_of_lt (Nat.lt_succ_self _)
  have hCcD : s₂.heap.objs.size ≠ Cc := by rw [← hCc, hC]; exact Nat.ne_of_lt (Nat.lt_succ_of_lt (Nat.lt_succ_self _))
  have below : ∀ b, b < s₂.heap.objs.size → b ≠ H2.objs.size ∧ b ≠ s₂.heap.objs.size ∧ b ≠ Cc := fun b hb => ⟨by rw [hC]; exact Nat.ne_of_lt (Nat.lt_succ_of_lt hb), Nat.ne_of_lt hb, by rw [← hCc, hC]; exact Nat.ne_of_lt (Nat.lt_succ_of_lt (Nat.lt_succ_of_lt hb))⟩
  have hDf : s₂.heap.objs.size ∉ fp := fun hm => Nat.lt_irrefl _ (hfp _ hm)
  have hCcf : Cc ∉ fp := fun hm => (below _ (hfp _ hm)).2.2 rfl
  have hIf : I ∈ fp := W.sub I (List.mem_singleton.mpr rfl)
  have hIlt : I < s₂.heap.objs.size := hfp I hIf
  have old : ∀ b o, s₂.heap.get? b = some o → h₁.get? b = some o := fun b o e => upH _ _ (hH2 ▸ Heap.get?_push_of_some _ e)
  have hacc : h₁.get? s₂.heap.objs.size = some (lst []) := upH _ _ (hH2 ▸ Heap.get?_push_size _ rfl)
  have hst₁ : St 0 h₁ := W.frame _ _ _ hst fun b _ o e => old b o e
  have fresh : ∀ a, s₂.heap.objs.size ≤ a → s₂.heap.get? a = none := fun a ha => by
    cases e : s₂.heap.get? a with
    | none => rfl
    | some o' => exact absurd (Heap.lt_size e) (Nat.not_lt.mpr ha)
  have fresh₀ : ∀ a, s₂.heap.objs.size ≤ a → h₀.get? a = none := fun a ha => by
    cases e : h₀.get? a with
    | none => rfl
    | some o' => have := F.keep a o' e; rw [fresh a ha] at this; cases this
  have hD₀ : h₀.get? s₂.heap.objs.size = none := fresh₀ _ (Nat.le_refl _)
  have hC₀ : h₀.get? H2.objs.size = none := fresh₀ _ (by rw [hC]; exact Nat.le_succ _)
  have hCc₀ : h₀.get? Cc = none := fresh₀ _ (by rw [← hCc, hC]; exact Nat.le_succ_of_le (Nat.le_succ _))
  have hLlt : L < s₂.heap.objs.size := F.ns.lt
  have hDL : s₂.heap.objs.size ≠ L := Ne.symm (below L hLlt).2.1
  have hCL : H2.objs.size ≠ L := Ne.symm (below L hLlt).1
  have hCcL : Cc ≠ L := Ne.symm (below L hLlt).2.2
  have hCI : I ≠ H2.objs.size := (below I hIlt).1
  have hDI : I ≠ s₂.heap.objs.size := (below I hIlt).2.1
  have hCcI : I ≠ Cc := (below I hIlt).2.2
  have off₀ : Off3 I H2.objs.size s₂.heap.objs.size news := Off3.of fun p hp => ⟨off p hp, (below _ (Heap.lt_size (N p hp).1)).1, (below _ (Heap.lt_size (N p hp).1)).2.1⟩
  have offCc : Off1 Cc news := off1_of fun p hp => (below _ (Heap.lt_size (N p hp).1)).2.2
  have off3 := off₀.mem
  have offc := off1_mem offCc
  have loop : ∀ s₃ : Shared, s₃ = { s₂ with heap := h₁ } →
      codeAny (model prog w) A (.compLoop (.ListComp elt [⟨.Name x px, iter, ifs, 0⟩] scope pos) 0 (.ref I) (.ref s₂.heap.objs.size) (compEnvC scope ((x, Cc) :: cl) H2.objs.size env))
        (RR (.ref s₂.heap.objs.size) H2.objs.size) s₃ := by
    rintro s₃ rfl
    refine codeAny_compLoop_tests
      (fun k s' => ∃ h' tk i ys m' s₀ v₀, s' = { s₀ with heap := h', toks := tk } ∧ (∃ g, s₀ = { s₂ with gens := g }) ∧ GI s₀ ∧ i ≤ n ∧ k = n + 1 - i ∧ St i h' ∧ Fr h₀ L h' m ∧ h'.Ns H2.objs.size m' ∧ h'.IsCell Cc v₀ ∧ News h₀ L h' ((s₂.heap.objs.size, lst ys) :: news) ∧ Inv i ys) ?_ (n + 1)
      ⟨h₁, _, 0, [], _, s₂, none, rfl, ⟨_, rfl⟩, hG, Nat.zero_le _, rfl, hst₁, F.keeps old, hns₁, hcl₁, fun p hp => ?_, hInv⟩
    · rintro k s' ⟨h', tk, i, ys, m', s₀, v₀, rfl, hs₀, hG₀, hi, rfl, hst', F', hn', hcl', N', hI'⟩
      by_cases hlt : i < n
      · refine W.item i _ _ _ hlt hst' fun v h₂ tk₂ hPv hst₂ hk₂ => ?_
        have hcl₂ : h₂.IsCell Cc v₀ := let ⟨o, e, r⟩ := hcl'; ⟨o, hk₂ _ o (by simpa using Ne.symm hCcI) e, r⟩
        have hn₂ := hn'.at' fun o e => hk₂ _ o (by simpa using Ne.symm hCI) e
        refine wpAny_assign_Name (wpAny_storeName_cell (c := Cc) hkind hx (by simp [compEnvC]) hcl₂ (fun h₃ hcl₃ hs₃ => ?_))
        have hst₃ : St (i + 1) h₃ := W.frame _ _ _ hst₂ fun b hb o e => hs₃.extBut b o (fun q => hCcf (by rw [← q]; exact hb)) e
        obtain ⟨oI, heI⟩ := hIo _ _ hst₃
        have hn₃ : h₃.Ns H2.objs.size m' := hn₂.sameBut hs₃ hCcC
        obtain ⟨oC, heC, hoC⟩ := ns_obj hn₃
        obtain ⟨oc, hoc, hcd⟩ := id hcl₃
        have F₃ : Fr h₀ L h₃ m := (fr_but F' hk₂ hIL hI₀).change hs₃ hCcL hCc₀
        have N₂ : News h₀ L h₂ ((s₂.heap.objs.size, lst ys) :: news) := news_but N' hk₂ fun p hp => by
          rcases List.mem_cons.mp hp with rfl | hp
          · exact Ne.symm hDI
          · exact (off3 p hp).1
        have N₃ : News h₀ L h₃ ((I, oI) :: (H2.objs.size, oC) :: (s₂.heap.objs.size, lst ys) :: (Cc, oc) :: news) := fun p hp => by
          rcases List.mem_cons.mp hp with rfl | hp
          · exact ⟨heI, Ne.symm hIL, hI₀⟩
          · rcases List.mem_cons.mp hp with rfl | hp
            · exact ⟨heC, hCL, hC₀⟩
            · rcases List.mem_cons.mp hp with rfl | hp
              · have z := N₂ (s₂.heap.objs.size, lst ys) List.mem_cons_self
                exact ⟨hs₃.extBut _ _ hCcD z.1, z.2⟩
              · rcases List.mem_cons.mp hp with rfl | hp
                · exact ⟨hoc, hCcL, hCc₀⟩
                · have z := N₂ p (List.mem_cons_of_mem _ hp)
                  exact ⟨hs₃.extBut _ _ (offc p hp) z.1, z.2⟩
        have off₀' : Off3 I H2.objs.size s₂.heap.objs.size ((Cc, oc) :: news) := ⟨⟨Ne.symm hCcI, Ne.symm hCcC, Ne.symm hCcD⟩, off₀⟩
        refine wpAny_mono (turn i v ys I oI H2.objs.size oC s₂.heap.objs.size Cc oc _ h₃ _ s₀ _ hlt hPv hI' hs₀ hG₀ hoC hcd F₃ N₃ off₀' ⟨hCI, hDI, Ne.symm hDC⟩ offCc) (fun ok s₄ h₄ => ?_) fun _ _ e => e
        cases ok with
        | false =>
          rw [if_neg (by simp)] at h₄ ⊢
          obtain ⟨h₄, s₅, tk₄, rfl, ⟨g, rfl⟩, hG₅, F₄, N₄, hI₄⟩ := h₄
          obtain ⟨g₀, rfl⟩ := hs₀
          have zI := (N₄ (I, oI) List.mem_cons_self).1
          have zC := (N₄ (H2.objs.size, oC) (List.mem_cons_of_mem _ List.mem_cons_self)).1
          have zD := N₄ (s₂.heap.objs.size, lst ys) (List.mem_cons_of_mem _ (List.mem_cons_of_mem _ List.mem_cons_self))
          have zc := (N₄ (Cc, oc) (List.mem_cons_of_mem _ (List.mem_cons_of_mem _ (List.mem_cons_of_mem _ List.mem_cons_self)))).1
          have Nn : News h₀ L h₄ news := fun p hp => N₄ p (List.mem_cons_of_mem _ (List.mem_cons_of_mem _ (List.mem_cons_of_mem _ (List.mem_cons_of_mem _ hp))))
          have hst₄ : St (i + 1) h₄ := hSt _ _ _ _ hst₃ heI zI F₄.keep Nn
          exact ⟨n + 1 - (i + 1), by omega, h₄, tk₄, i + 1, ys, _, { s₂ with gens := g }, _, rfl, ⟨g, rfl⟩, hG₅, hlt, rfl, hst₄, F₄, hoC.ns zC, ⟨_, zc, hcd⟩, fun p hp => by
            rcases List.mem_cons.mp hp with rfl | hp
            · exact zD
            · exact Nn p hp, hI₄⟩
        | true =>
          rw [if_pos rfl] at h₄ ⊢
          refine wpAny_mono h₄ (fun y s₅ hh₅ => ?_) fun _ _ e => e
          clear h₄
          obtain ⟨h₄, s₅, tk₄, rfl, ⟨g, rfl⟩, hG₅, F₄, N₄, hI₄⟩ := hh₅
          obtain ⟨g₀, rfl⟩ := hs₀
          have zI := (N₄ (I, oI) List.mem_cons_self).1
          have zC := (N₄ (H2.objs.size, oC) (List.mem_cons_of_mem _ List.mem_cons_self)).1
          have zD := N₄ (s₂.heap.objs.size, lst ys) (List.mem_cons_of_mem _ (List.mem_cons_of_mem _ List.mem_cons_self))
          have zc := (N₄ (Cc, oc) (List.mem_cons_of_mem _ (List.mem_cons_of_mem _ (List.mem_cons_of_mem _ List.mem_cons_self)))).1
          have Nn : News h₀ L h₄ news := fun p hp => N₄ p (List.mem_cons_of_mem _ (List.mem_cons_of_mem _ (List.mem_cons_of_mem _ (List.mem_cons_of_mem _ hp))))
          have hst₄ : St (i + 1) h₄ := hSt _ _ _ _ hst₃ heI zI F₄.keep Nn
          have hyl := hle _ _ hI'
          refine append_at (hsz := by show ys.toArray.size ≤ sizeLine; rw [List.size_toArray]; omega) zD.1 fun h₅ hs₅ hD₅ => ?_
          refine ⟨n + 1 - (i + 1), by omega, h₅, tk₄, i + 1, ys ++ [y], _, { s₂ with gens := g }, some v, rfl, ⟨g, rfl⟩, hG₅, hlt, rfl, W.frame _ _ _ hst₄ fun b hb o e => hs₅.extBut b o (fun q => hDf (q ▸ hb)) e, F₄.change hs₅ hDL hD₀,
            (hoC.ns zC).sameBut hs₅ (Ne.symm hDC), ⟨_, hs₅.extBut _ _ (Ne.symm hCcD) zc, hcd⟩, fun p hp => ?_, hI₄⟩
          rcases List.mem_cons.mp hp with rfl | hp
          · exact ⟨hD₅.trans (congrArg some (lst_snoc ys y)), hDL, hD₀⟩
          · exact ⟨hs₅.extBut _ _ (off3 p hp).2.2 (Nn p hp).1, (Nn p hp).2⟩
      · obtain rfl : i = n := Nat.le_antisymm hi (Nat.not_lt.mp hlt)
        refine W.done _ _ _ hst' fun h₂ tk₂ hk₂ => ?_
        exact hRR _ _ h₂ tk₂ _ ys s₀ hs₀ hG₀ (fr_but F' hk₂ hIL hI₀) (news_but N' hk₂ fun p hp => by
          rcases List.mem_cons.mp hp with rfl | hp
          · exact Ne.symm hDI
          · exact (off3 p hp).1) off₀.one (hn'.at' fun o e => hk₂ _ o (by simpa using Ne.symm hCI) e) hC₀ hD₀ hCL hDL (Ne.symm hDC) (fun p hp => (off3 p hp).2.1) hI'
    · rcases List.mem_cons.mp hp with rfl | hp
      · exact ⟨hacc, hDL, hD₀⟩
      · exact ⟨old _ _ (N p hp).1, (N p hp).2⟩
  subst hCc
  exact codeAny_compStart_list (loop _ rfl) (W.self 0 _ _ _ hst₁ (loop _ rfl))
/-- the source of a comprehension whose name is a cell: a range -/
def SrcC (prog : Program) (w : World) (A : Around) (GI : Shared → Prop) (h₀ : Heap) (L : Addr) (m : Str → Option Value) (env : Env) (elt : Expr) (x : Str) (ifs : List Expr) (scope : Scope) (cl : List (Str × Addr)) (Fin : Shared → (Nat → List Value → Prop) → Nat → List (Addr × Obj) → Prop) (xv : Value) (s₁ : Shared) : Prop :=
  ∃ (n : Nat) (Inv : Nat → List Value → Prop) (news : List (Addr × Obj)) (r : Addr) (a b : Int) (t u v : Tok), xv = .ref r ∧ IsRange s₁.heap r a b 1 t u v ∧ Builtin.Range.small a b 1 = true ∧ Builtin.Range.rangeSize a b 1 = ((n : Nat) : Int) ∧
    A.handled = none ∧ Fr h₀ L s₁.heap m ∧ News h₀ L s₁.heap news ∧ n ≤ sizeLine ∧ GI s₁ ∧ (∀ s h tk, GI s → GI { s with heap := h, toks := tk }) ∧ Inv 0 [] ∧ (∀ i ys, Inv i ys → ys.length ≤ i) ∧
    (∀ hp, TurnC prog w A GI h₀ L m env elt x ifs scope cl news (fun i v => ∃ t, v = .int (a + (i : Int)) t) Inv n { s₁ with heap := hp }) ∧ ∀ hp, Fin { s₁ with heap := hp } Inv n news
theorem compCA {elt iter : Expr} {x y : Str} {px py : Pos} {ifs : List Expr} {scope : Scope} {cl : List (Str × Addr)} {pos spos : Pos} {Q : Flow → Shared → Prop} (GI : Shared → Prop) (hLe : env.locals = L)
    (hsw : swapsWith (.ListComp elt [⟨.Name x px, iter, ifs, 0⟩] scope pos) (some (.Name y py)) spos.line env = pure true)
    (hclos : closureFor scope env = pure cl) (hcell : ∀ C, cellsFrom (C + 1) scope.names cl = (x, C + 1) :: cl) (hpush : ∀ h : Heap, pushCells h scope.names = h.push { cls := .type "cell", data := .cell none }) (hkind : scope.kind = .function)
    (hnames : ∀ z ∈ scope.names, z.2 = .local → scope.names.lookup z.1 = some .local) (hx : (relabel scope env).names.lookup x = some .cell)
    (hy : env.kindOf y = some .local) (hp : (env.scope.kind == .class || (env.scope.kind == .module && env.locals != env.globals)) = false)
    (h : wpAny (model prog w) A (eval iter env) (SrcC prog w A GI h₀ L m env elt x ifs scope cl (FinGA GI h₀ L m y Q)) E s)
    (hs : ∀ x, foldedSetIterable iter env x = pure x := by intro _; rfl) :
    wpAny (model prog w) A (exec (.Assign [.Name y py] (.ListComp elt [⟨.Name x px, iter, ifs, 0⟩] scope pos) spos) env) Q E s := by
  subst hLe
  rw [exec_Assign_Name_used _ _ _ _ hsw]
  refine wpAny_bind (wpAny_standAt (wpAny_bind ?_))
  show wpAny _ A (do let _ ← comprehension (.ListComp elt [⟨.Name x px, iter, ifs, 0⟩] scope pos) scope env _ (newList []) false (eval iter env) (some (assign (.Name y py) env))) _ _ s
  refine wpAny_bind (wpAny_mono (wpAny_comprehension_free (use := some (assign (.Name y py) env)) (Q := fun _ s' => Q .next s') rfl hs hclos hkind hnames
    (wpAny_mono h (fun xv s₁ h₁ => ?_) fun _ _ e => e)) (fun _ s' hq => wpAny_pure (wpAny_pure hq)) fun _ _ e => e)
  obtain ⟨n, Inv, news, r, a, b, t, u, v, rfl, hr, hsm, hn, hh, F, N, hsz, hG, hGI, hI0, hle, turn, fin⟩ := h₁
  refine wpAny_pyIter_range hr hsm ?_
  refine blockC (RR := fun acc C => compPost (model prog w) A E (some (assign (.Name y py) env)) (fun _ s' => Q .next s') acc C) (GI := GI) (Inv := Inv) (range_walks hh a n) hsz (fun i h st => ⟨_, st⟩) (fun i h h' o st e e' k N' => range_st i h h' o news st e e' k N' trivial) hcell hpush hkind hx (by show IsRangeIter _ _ _ _ _; rw [hn]; simpa using Heap.get?_push_size _ rfl) (fun b hb => ?_)
      (F.keeps fun _ _ e => Heap.get?_push_of_some _ e) (N.grown fun _ _ e => Heap.get?_push_of_some _ e) (Nat.ne_of_lt F.ns.lt) (next_is_new F) (fun p hp => Nat.ne_of_lt (Heap.lt_size (N p hp).1)) (hGI _ _ s₁.toks hG) hI0 hle (turn _) ?_
  · rw [List.mem_singleton.mp hb]
    show s₁.heap.objs.size < (s₁.heap.push _).objs.size
    rw [Heap.size_push]; exact Nat.lt_succ_self _
  intro D C h' tk m' ys s' hs' hG F' N' o1 hn hC₀ hD₀ hCL hDL hCD offC hi
  show wpAny _ A (assign (.Name y py) env (.ref D)) _ _ _
  refine wpAny_assign_Name (wpAny_storeName_local hy F'.ns (fun h₂ hn₂ hs₂ => ?_) hp)
  have hL₀ : h₀.get? env.locals = none := Heap.get?_none_of_le F'.above
  have F₂ : Fr h₀ env.locals h₂ (fun z => if z = y then some (.ref D) else m z) := ⟨hn₂, fun b o e => hs₂.extBut b o (fun q => by rw [q, hL₀] at e; cases e) (F'.keep b o e), F'.above⟩
  refine ⟨m', hn.sameBut hs₂ hCL, fun h'' hs'' => fin _ D h'' _ ys s' hs' hG (F₂.change hs'' hCL hC₀) (fun p hp => ?_) o1 hi⟩
  have z : h₂.get? p.1 = some p.2 := hs₂.extBut _ _ (N' p hp).2.1 (N' p hp).1
  refine ⟨hs''.extBut _ _ ?_ z, (N' p hp).2⟩
  rcases List.mem_cons.mp hp with rfl | hp
  · exact Ne.symm hCD
  · exact offC p hp
end
end Mine
end
/-! M4 -/
section
open PySem PySem.W PyProof.Rows PySem.Calls LCg
namespace Mine
local macro_rules | `(tactic| walk_at "no such key") => `(tactic| fail)
theorem words_M4 : True := by (k_with_none; w_top off; trivial)
/-- the end of one evaluation within a list comprehension's turn -/
def CEndH (GI : Shared → Prop) (h₀ : Heap) (L : Addr) (m : Str → Option Value) (s₁ : Shared) (I : Addr) (oI : Obj) (C : Addr) (oC : Obj) (D : Addr) (oD : Obj) (news : List (Addr × Obj)) {α : Type} (rest : α → Heap → Prop) (y : α) (s₂ : Shared) : Prop :=
  ∃ (h' : Heap) (s' : Shared) (tk : Nat), s₂ = { s' with heap := h', toks := tk } ∧ (∃ g, s' = { s₁ with gens := g }) ∧ GI s' ∧ Fr h₀ L h' m ∧ News h₀ L h' ((I, oI) :: (C, oC) :: (D, oD) :: news) ∧ rest y h'
theorem cEndH {GI : Shared → Prop} {h₀ : Heap} {L I C D : Addr} {m : Str → Option Value} {s₁ : Shared} {oI oC oD : Obj} {news : List (Addr × Obj)} {α : Type} {rest : α → Heap → Prop} {y : α} {h' : Heap} {tk : Nat} {all : List (Addr × Obj)}
    (hg : GI s₁) (F : Fr h₀ L h' m) (N : News h₀ L h' all) (sub : ∀ p ∈ (I, oI) :: (C, oC) :: (D, oD) :: news, p ∈ all) (r : rest y h') :
    CEndH GI h₀ L m s₁ I oI C oC D oD news rest y { s₁ with heap := h', toks := tk } := ⟨h', s₁, tk, rfl, ⟨s₁.gens, rfl⟩, hg, F, fun p hp => N p (sub p hp), r⟩
/-- a turn's tests and its element -/
def TurnH (prog : Program) (w : World) (A : Around) (GI : Shared → Prop) (h₀ : Heap) (L : Addr) (m : Str → Option Value) (env : Env) (elt : Expr) (x : Str) (ifs : List Expr) (scope : Scope) (cl : List (Str × Addr)) (news : List (Addr × Obj)) (P : Nat → Value → Prop) (Inv : Addr → Heap → Nat → List Value → Prop) (n : Nat) (s₂ : Shared) : Prop :=
  ∀ i v ys I oI C oC D m₂ h tk s₃ (E' : Value → Shared → Prop), i < n → P i v → Inv C h i ys → (∃ g, s₃ = { s₂ with gens := g }) → GI s₃ → NsObj oC m₂ → m₂ x = some v → Fr h₀ L h m → News h₀ L h ((I, oI) :: (C, oC) :: (D, lst ys) :: news) → Off3 I C D news → ((@Ne Nat I C) ∧ (@Ne Nat I D) ∧ (@Ne Nat C D)) →
    wpAny (model prog w) A (forIn ifs true fun c r => if r = true then do let ok ← isTrue c (compEnvC scope cl C env) (eval c (compEnvC scope cl C env)); pure (ForInStep.yield ok) else pure (ForInStep.yield r))
      (fun ok s₄ => if ok = true then wpAny (model prog w) A (eval elt (compEnvC scope cl C env)) (CEndH GI h₀ L m s₃ I oI C oC D (lst ys) news (fun y h' => Inv C h' (i + 1) (ys ++ [y]))) E' s₄
        else CEndH GI h₀ L m s₃ I oI C oC D (lst ys) news (fun _ h' => Inv C h' (i + 1) ys) () s₄) E' { s₃ with heap := h, toks := tk }
section
variable {prog : Program} {w : World} {A : Around} {E : Value → Shared → Prop} {s : Shared} {h₀ : Heap} {L : Addr} {m : Str → Option Value} {env : Env} {GI : Shared → Prop}
theorem blockH {elt iter : Expr} {x : Str} {px : Pos} {ifs : List Expr} {scope : Scope} {cl : List (Str × Addr)} {pos : Pos} {s₂ : Shared} {I : Addr} {fp : List Addr} {n : Nat} {P : Nat → Value → Prop} {St : Nat → Heap → Prop} {news : List (Addr × Obj)}
    {Inv : Addr → Heap → Nat → List Value → Prop} {RR : Value → Addr → Result → Shared → Prop}
    (W : Walks prog w A I fp [I] n P St) (hsz : n ≤ sizeLine) (hIo : ∀ i h, St i h → ∃ o, h.get? I = some o)
    (hSt : ∀ i h h' o, St i h → h.get? I = some o → h'.get? I = some o → (∀ b o, h₀.get? b = some o → h'.get? b = some o) → News h₀ L h' news → St i h')
    (hcell : ∀ y ∈ scope.names, y.2 ≠ .cell) (hkind : scope.kind = .function) (hx : scope.names.lookup x = some .local) (hst : St 0 s₂.heap) (hfp : ∀ b ∈ fp, b < s₂.heap.objs.size)
    (F : Fr h₀ L s₂.heap m) (N : News h₀ L s₂.heap news) (hIL : L ≠ I) (hI₀ : h₀.get? I = none) (off : ∀ p ∈ news, p.1 ≠ I) (hG : GI s₂) (hGI : ∀ s h tk, GI s → GI { s with heap := h, toks := tk }) (hInv : ∀ C h, Inv C h 0 []) (hle : ∀ C h i ys, Inv C h i ys → ys.length ≤ i) (hstab : ∀ C h h' i ys, Inv C h i ys → (∀ a o, C < a → h.get? a = some o → h'.get? a = some o) → Inv C h' i ys)
    (turn : TurnH prog w A GI h₀ L m env elt x ifs scope cl news P Inv n s₂)
    (hRR : ∀ D C h tk m' ys s', (∃ g, s' = { s₂ with gens := g }) → GI s' → Fr h₀ L h m → News h₀ L h ((D, lst ys) :: news) → Off1 D news → h.Ns C m' → h₀.get? C = none → h₀.get? D = none → C ≠ L → D ≠ L → C ≠ D → (∀ p ∈ news, p.1 ≠ C) → Inv C h n ys → RR (.ref D) C (.ok .next) { s' with heap := h, toks := tk }) :
    wpAny (model prog w) A (newList []) (fun acc s₃ => wpAny (model prog w) A (newFunctionEnv scope env.globals cl [] env.qual none .none (some env)) (fun cenv s₄ =>
      codeAny (model prog w) A (.compStart (.ListComp elt [⟨.Name x px, iter, ifs, 0⟩] scope pos) 0 (.ref I) acc { cenv with scope := relabel scope env }) (RR acc cenv.locals) s₄) E s₃) E s₂ := by
  refine wpAny_newObj_type (wpAny_newFunctionEnv hcell (by intro y hy; simp at hy) (fun h₁ hns₁ hsb₁ => ?_) hkind)
  dsimp only at hns₁ hsb₁ ⊢
  generalize hH2 : s₂.heap.push { cls := .type "list", dict := none, data := .seq ([] : List Value).toArray } = H2 at hns₁ hsb₁ ⊢
  have hC : H2.objs.size = s₂.heap.objs.size + 1 := by rw [← hH2, Heap.size_push]
  have hDC : s₂.heap.objs.size ≠ H2.objs.size := by rw [hC]; exact Nat.ne_of_lt (Nat.lt_succ_self _)
  have offC_lt : ∀ a, H2.objs.size < a → s₂.heap.objs.size < a := fun a ha => by rw [hC] at ha; exact Nat.lt_of_succ_lt ha
  have below : ∀ b, b < s₂.heap.objs.size → b ≠ H2.objs.size ∧ b ≠ s₂.heap.objs.size := fun b hb => ⟨by rw [hC]; exact Nat.ne_of_lt (Nat.lt_succ_of_lt hb), Nat.ne_of_lt hb⟩
  have hDf : s₂.heap.objs.size ∉ fp := fun hm => Nat.lt_irrefl _ (hfp _ hm)
  have hCf : H2.objs.size ∉ fp := fun hm => by have := hfp _ hm; rw [hC] at this; exact Nat.lt_irrefl _ (Nat.lt_of_succ_lt this)
  have hIf : I ∈ fp := W.sub I (List.mem_singleton.mpr rfl)
  have hIlt : I < s₂.heap.objs.size := hfp I hIf
  have old : ∀ b o, s₂.heap.get? b = some o → h₁.get? b = some o := fun b o e => hsb₁.extBut b o (below b (Heap.lt_size e)).1 (Heap.get?_push_of_some _ (hH2 ▸ Heap.get?_push_of_some _ e))
  have hacc : h₁.get? s₂.heap.objs.size = some (lst []) := hsb₁.extBut _ _ hDC (Heap.get?_push_of_some _ (hH2 ▸ Heap.get?_push_size _ rfl))
  have hst₁ : St 0 h₁ := W.frame _ _ _ hst fun b _ o e => old b o e
  have fresh : ∀ a, s₂.heap.objs.size ≤ a → s₂.heap.get? a = none := fun a ha => by
    cases e : s₂.heap.get? a with
    | none => rfl
    | some o' => exact absurd (Heap.lt_size e) (Nat.not_lt.mpr ha)
  have fresh₀ : ∀ a, s₂.heap.objs.size ≤ a → h₀.get? a = none := fun a ha => by
    cases e : h₀.get? a with
    | none => rfl
    | some o' => have := F.keep a o' e; rw [fresh a ha] at this; cases this
  have hD₀ : h₀.get? s₂.heap.objs.size = none := fresh₀ _ (Nat.le_refl _)
  have hC₀ : h₀.get? H2.objs.size = none := fresh₀ _ (by rw [hC]; exact Nat.le_succ _)
  have hLlt : L < s₂.heap.objs.size := F.ns.lt
  have hDL : s₂.heap.objs.size ≠ L := Ne.symm (below L hLlt).2
  have hCL : H2.objs.size ≠ L := Ne.symm (below L hLlt).1
  have hCI : I ≠ H2.objs.size := (below I hIlt).1
  have hDI : I ≠ s₂.heap.objs.size := (below I hIlt).2
  have off₀ : Off3 I H2.objs.size s₂.heap.objs.size news := Off3.of fun p hp => ⟨off p hp, (below _ (Heap.lt_size (N p hp).1)).1, (below _ (Heap.lt_size (N p hp).1)).2⟩
  have off3 := off₀.mem
  have loop : ∀ s₃ : Shared, s₃ = { s₂ with heap := h₁, toks := s₂.toks + ([] : List (Str × Value)).length } →
      codeAny (model prog w) A (.compLoop (.ListComp elt [⟨.Name x px, iter, ifs, 0⟩] scope pos) 0 (.ref I) (.ref s₂.heap.objs.size) (compEnvC scope cl H2.objs.size env))
        (RR (.ref s₂.heap.objs.size) H2.objs.size) s₃ := by
    rintro s₃ rfl
    refine codeAny_compLoop_tests
      (fun k s' => ∃ h' tk i ys m' s₀, s' = { s₀ with heap := h', toks := tk } ∧ (∃ g, s₀ = { s₂ with gens := g }) ∧ GI s₀ ∧ i ≤ n ∧ k = n + 1 - i ∧ St i h' ∧ Fr h₀ L h' m ∧ h'.Ns H2.objs.size m' ∧ News h₀ L h' ((s₂.heap.objs.size, lst ys) :: news) ∧ Inv H2.objs.size h' i ys) ?_ (n + 1)
      ⟨h₁, _, 0, [], _, s₂, rfl, ⟨_, rfl⟩, hG, Nat.zero_le _, rfl, hst₁, F.keeps old, hns₁, fun p hp => ?_, hInv _ _⟩
    · rintro k s' ⟨h', tk, i, ys, m', s₀, rfl, hs₀, hG₀, hi, rfl, hst', F', hn', N', hI'⟩
      by_cases hlt : i < n
      · refine W.item i _ _ _ hlt hst' fun v h₂ tk₂ hPv hst₂ hk₂ => ?_
        refine wpAny_assign_Name (wpAny_storeName_local (lookup_relabel_local hx) (hn'.at' fun o e => hk₂ _ o (by simpa using Ne.symm hCI) e) (fun h₃ hn₃ hs₃ => ?_) (by simp [compEnvC, relabel, hkind]))
        have hst₃ : St (i + 1) h₃ := W.frame _ _ _ hst₂ fun b hb o e => hs₃.extBut b o (fun q => hCf (by have q' : b = H2.objs.size := q; rw [← q']; exact hb)) e
        obtain ⟨oI, heI⟩ := hIo _ _ hst₃
        obtain ⟨oC, heC, hoC⟩ := ns_obj hn₃
        have F₃ : Fr h₀ L h₃ m := (fr_but F' hk₂ hIL hI₀).change hs₃ hCL hC₀
        have N₂ : News h₀ L h₂ ((s₂.heap.objs.size, lst ys) :: news) := news_but N' hk₂ fun p hp => by
          rcases List.mem_cons.mp hp with rfl | hp
          · exact Ne.symm hDI
          · exact (off3 p hp).1
        have N₃ : News h₀ L h₃ ((I, oI) :: (H2.objs.size, oC) :: (s₂.heap.objs.size, lst ys) :: news) := fun p hp => by
          rcases List.mem_cons.mp hp with rfl | hp
          · exact ⟨heI, Ne.symm hIL, hI₀⟩
          · rcases List.mem_cons.mp hp with rfl | hp
            · exact ⟨heC, hCL, hC₀⟩
            · have z := N₂ p hp
              refine ⟨hs₃.extBut _ _ ?_ z.1, z.2⟩
              rcases List.mem_cons.mp hp with rfl | hp
              · exact hDC
              · exact (off3 p hp).2.1
        refine wpAny_mono (turn i v ys I oI H2.objs.size oC s₂.heap.objs.size _ h₃ _ s₀ _ hlt hPv (hstab _ _ _ _ _ hI' fun a o ha e => hs₃.extBut a o (Ne.symm (Nat.ne_of_lt ha)) (hk₂ a o (fun q => Nat.lt_asymm (offC_lt a ha) ((List.mem_singleton.mp q).symm ▸ hIlt)) e)) hs₀ hG₀ hoC (by simp) F₃ N₃ off₀ ⟨hCI, hDI, Ne.symm hDC⟩) (fun ok s₄ h₄ => ?_) fun _ _ e => e
        cases ok with
        | false =>
          rw [if_neg (by simp)] at h₄ ⊢
          obtain ⟨h₄, s₅, tk₄, rfl, ⟨g, rfl⟩, hG₅, F₄, N₄, hI₄⟩ := h₄
          obtain ⟨g₀, rfl⟩ := hs₀
          have zI := (N₄ (I, oI) List.mem_cons_self).1
          have zC := (N₄ (H2.objs.size, oC) (List.mem_cons_of_mem _ List.mem_cons_self)).1
          have N₄' : News h₀ L h₄ ((s₂.heap.objs.size, lst ys) :: news) := fun p hp => N₄ p (List.mem_cons_of_mem _ (List.mem_cons_of_mem _ hp))
          have hst₄ : St (i + 1) h₄ := hSt _ _ _ _ hst₃ heI zI F₄.keep (fun p hp => N₄' p (List.mem_cons_of_mem _ hp))
          exact ⟨n + 1 - (i + 1), by omega, h₄, tk₄, i + 1, ys, _, { s₂ with gens := g }, rfl, ⟨g, rfl⟩, hG₅, hlt, rfl, hst₄, F₄, hoC.ns zC, N₄', hI₄⟩
        | true =>
          rw [if_pos rfl] at h₄ ⊢
          refine wpAny_mono h₄ (fun y s₅ hh₅ => ?_) fun _ _ e => e
          clear h₄
          obtain ⟨h₄, s₅, tk₄, rfl, ⟨g, rfl⟩, hG₅, F₄, N₄, hI₄⟩ := hh₅
          obtain ⟨g₀, rfl⟩ := hs₀
          have zI := (N₄ (I, oI) List.mem_cons_self).1
          have zC := (N₄ (H2.objs.size, oC) (List.mem_cons_of_mem _ List.mem_cons_self)).1
          have N₄' : News h₀ L h₄ ((s₂.heap.objs.size, lst ys) :: news) := fun p hp => N₄ p (List.mem_cons_of_mem _ (List.mem_cons_of_mem _ hp))
          have zD := (N₄' (s₂.heap.objs.size, lst ys) List.mem_cons_self).1
          have hst₄ : St (i + 1) h₄ := hSt _ _ _ _ hst₃ heI zI F₄.keep (fun p hp => N₄' p (List.mem_cons_of_mem _ hp))
          have hyl := hle _ _ _ _ hI'
          refine append_at (hsz := by show ys.toArray.size ≤ sizeLine; rw [List.size_toArray]; omega) zD fun h₅ hs₅ hD₅ => ?_
          refine ⟨n + 1 - (i + 1), by omega, h₅, tk₄, i + 1, ys ++ [y], _, { s₂ with gens := g }, rfl, ⟨g, rfl⟩, hG₅, hlt, rfl, W.frame _ _ _ hst₄ fun b hb o e => hs₅.extBut b o (fun q => hDf (q ▸ hb)) e, F₄.change hs₅ hDL hD₀,
            (hoC.ns zC).sameBut hs₅ (Ne.symm hDC), fun p hp => ?_, hstab _ _ _ _ _ hI₄ fun a o ha e => hs₅.extBut a o (fun q => Nat.lt_irrefl _ (q ▸ offC_lt a ha)) e⟩
          rcases List.mem_cons.mp hp with rfl | hp
          · exact ⟨hD₅.trans (congrArg some (lst_snoc ys y)), hDL, hD₀⟩
          · exact ⟨hs₅.extBut _ _ (off3 p hp).2.2 (N₄' p (List.mem_cons_of_mem _ hp)).1, (N₄' p (List.mem_cons_of_mem _ hp)).2⟩
      · obtain rfl : i = n := Nat.le_antisymm hi (Nat.not_lt.mp hlt)
        refine W.done _ _ _ hst' fun h₂ tk₂ hk₂ => ?_
        exact hRR _ _ h₂ tk₂ _ ys s₀ hs₀ hG₀ (fr_but F' hk₂ hIL hI₀) (news_but N' hk₂ fun p hp => by
          rcases List.mem_cons.mp hp with rfl | hp
          · exact Ne.symm hDI
          · exact (off3 p hp).1) off₀.one (hn'.at' fun o e => hk₂ _ o (by simpa using Ne.symm hCI) e) hC₀ hD₀ hCL hDL (Ne.symm hDC) (fun p hp => (off3 p hp).2.1) (hstab _ _ _ _ _ hI' fun a o ha e => hk₂ a o (fun q => Nat.lt_asymm (offC_lt a ha) ((List.mem_singleton.mp q).symm ▸ hIlt)) e)
    · rcases List.mem_cons.mp hp with rfl | hp
      · exact ⟨hacc, hDL, hD₀⟩
      · exact ⟨old _ _ (N p hp).1, (N p hp).2⟩
  exact codeAny_compStart_list (loop _ rfl) (W.self 0 _ _ _ hst₁ (loop _ rfl))


def SrcH (prog : Program) (w : World) (A : Around) (GI : Shared → Prop) (h₀ : Heap) (L : Addr) (m : Str → Option Value) (env : Env) (elt : Expr) (x : Str) (ifs : List Expr) (scope : Scope) (cl : List (Str × Addr)) (Q : Value → Shared → Prop) (xv : Value) (s₁ : Shared) : Prop :=
  ∃ (Inv : Addr → Heap → Nat → List Value → Prop) (news : List (Addr × Obj)) (ax : Addr) (its : Array Value), xv = .ref ax ∧ SrcAt h₀ ax its news ∧
    A.handled = none ∧ Fr h₀ L s₁.heap m ∧ News h₀ L s₁.heap news ∧ its.size ≤ sizeLine ∧ GI s₁ ∧ (∀ s h tk, GI s → GI { s with heap := h, toks := tk }) ∧ (∀ C h, Inv C h 0 []) ∧ (∀ C h i ys, Inv C h i ys → ys.length ≤ i) ∧
    (∀ C h h' i ys, Inv C h i ys → (∀ a o, C < a → h.get? a = some o → h'.get? a = some o) → Inv C h' i ys) ∧
    (∀ hp, TurnH prog w A GI h₀ L m env elt x ifs scope cl news (fun i v => its[i]? = some v) Inv its.size { s₁ with heap := hp }) ∧
    ∀ hp D C h tk ys s', (∃ g, s' = { s₁ with heap := hp, gens := g }) → GI s' → Fr h₀ L h m → News h₀ L h ((D, lst ys) :: news) → Off1 D news → Inv C h its.size ys → Q (.ref D) { s' with heap := h, toks := tk }
theorem compH {elt iter : Expr} {x : Str} {px : Pos} {ifs : List Expr} {scope : Scope} {cl : List (Str × Addr)} {pos : Pos} {Q : Value → Shared → Prop} (GI : Shared → Prop) (F₀ : Fr h₀ L s.heap m)
    (hclos : closureFor scope env = pure cl) (hcell : ∀ y ∈ scope.names, y.2 ≠ .cell) (hkind : scope.kind = .function)
    (hnames : ∀ y ∈ scope.names, y.2 = .local → scope.names.lookup y.1 = some .local) (hx : scope.names.lookup x = some .local)
    (h : wpAny (model prog w) A (eval iter env) (SrcH prog w A GI h₀ L m env elt x ifs scope cl Q) E s)
    (hs : ∀ x, foldedSetIterable iter env x = pure x := by intro _; rfl) :
    wpAny (model prog w) A (eval (.ListComp elt [⟨.Name x px, iter, ifs, 0⟩] scope pos) env) Q E s := by
  rw [eval_ListComp]
  refine wpAny_comprehension_free (use := none) rfl hs hclos hkind hnames (wpAny_mono h (fun xv s₁ h₁ => ?_) fun _ _ e => e)
  obtain ⟨Inv, news, ax, its, rfl, S, hh, F, N, hsz, hG, hGI, hI0, hle, hstab, turn, fin⟩ := h₁
  have hl := S.list F.keep N
  have hlt : ax < s₁.heap.objs.size := by obtain ⟨_, e, _⟩ := hl; exact Heap.lt_size e
  refine wpAny_pyIter_list hl ?_
  have up : ∀ b o, s₁.heap.get? b = some o → (s₁.heap.push { cls := .type "list_iterator", data := .fields #[.ref ax, .int 0 0] }).get? b = some o := fun b o e => Heap.get?_push_of_some _ e
  refine blockH (RR := fun acc C => compPost (model prog w) A E none Q acc C) (GI := GI) (Inv := Inv) (Walks.list hh s₁.heap.objs.size ax (Nat.ne_of_lt hlt) its) hsz (fun i h st => by obtain ⟨o, e, _⟩ := st.1; exact ⟨o, e⟩)
    (fun i h h' o st e e' k N' => list_st i h h' o news st e e' k N' S) hcell hkind hx ⟨⟨_, Heap.get?_push_size _ rfl, rfl, rfl⟩, hl.push _⟩ (fun b hb => ?_)
    (F.keeps up) (N.grown up) (Nat.ne_of_lt F.ns.lt) (next_is_new F) (fun p hp => Nat.ne_of_lt (Heap.lt_size (N p hp).1)) (hGI _ _ s₁.toks hG) hGI hI0 hle hstab (turn _) ?_
  · show b < (s₁.heap.push _).objs.size
    rw [Heap.size_push]
    rcases List.mem_cons.mp hb with rfl | hb
    · exact Nat.lt_succ_self _
    · rw [List.mem_singleton.mp hb]; exact Nat.lt_succ_of_lt hlt
  intro D C h tk m' ys s' hs' hG F' N' o1 hn hC₀ hD₀ hCL hDL hCD offC hi
  refine ⟨m', hn, fun h'' hs'' => fin _ D C h'' tk ys s' hs' hG (F'.change hs'' hCL hC₀) (fun p hp => ?_) o1 (hstab _ _ _ _ _ hi fun a o ha e => hs''.extBut a o (Ne.symm (Nat.ne_of_lt ha)) e)⟩
  refine ⟨hs''.extBut _ _ ?_ (N' p hp).1, (N' p hp).2⟩
  rcases List.mem_cons.mp hp with rfl | hp
  · exact Ne.symm hCD
  · exact offC p hp
end
end Mine
end
/-! Sg -/
section
open PySem PySem.W PyProof.Rows PySem.Calls
namespace Mine
theorem words_Sg : True := by (k_with_none; w_top off; trivial)
section
variable {M : Model} {A : Around} {R : GenEnd} {Y : Protocol} {n : Nat} {s₀ : Shared} {c : Code} {fs : List Frame} {s : Shared} {env : Env}
  {K : Flow → Sem Fin} {H : Value → Sem Fin} {gd : Bool → Bool} {lv : List Value → List Value}
/-- a statement that is walked as a whole -/
theorem seg_stmt {st : Stmt} {rest : List Stmt} (h : wpAny M (A.over c fs) (exec st env) (fun f s' => f = .next ∧ Seg M A R Y n s₀ c ((execs rest env).wrap K H gd lv) fs s') (fun _ _ => False) s) :
    Seg M A R Y n s₀ c ((execs (st :: rest) env).wrap K H gd lv) fs s := by
  refine seg_execs_cons (seg_wrap (wpAny_mono h (fun f s' h' => ?_) fun _ _ h' => h'.elim))
  obtain ⟨rfl, h'⟩ := h'
  exact h'
theorem seg_If {test : Expr} {body orelse : List Stmt} {pos : Pos} (h : wpAny M (A.over c fs) (isTrue test env (eval test env)) (fun b s' => Seg M A R Y n s₀ c ((if b = true then execs body env else execs orelse env).wrap K H gd lv) fs s') (fun _ _ => False) s) :
    Seg M A R Y n s₀ c ((exec (.If test body orelse pos) env).wrap K H gd lv) fs s := by
  rw [exec_If]
  exact seg_bind_wrap (wpAny_standAt (seg_bind_wrap (wpAny_mono h (fun _ _ h' => h') fun _ _ h' => h'.elim)))
/-- where a for loop of a generator comes back to -/
def forBack (env : Env) (K : Flow → Sem Fin) (H : Value → Sem Fin) (gd : Bool → Bool) (lv : List Value → List Value) (c : Code) (p : Pos) : Frame :=
  .ret (fun r => ((match r with | .ok f => (.pure f : Sem Flow) | .error e => .raise e).onRaise fun (x : Value) => do
        if (← field x 1) == Value.none then unsupported "frame.own-activation:exception-without-traceback"
        setFlight x env.frame).wrap K H gd lv) none (gd false) (lv []) c p []
theorem seg_For {target iter : Expr} {body orelse : List Stmt} {pos : Pos}
    (h : wpAny M (A.over c fs) (eval iter env) (fun x s₁ => wpAny M (A.over c fs) (pyIter x) (fun it s₂ => ∀ p, Seg M A R Y n s₀ (.forLoop target it body orelse env) (M.den (.forLoop target it body orelse env)) (forBack env K H gd lv c p :: fs) s₂) (fun _ _ => False) s₁) (fun _ _ => False) s)
    (hs : ∀ x, foldedSetIterable iter env x = pure x := by intro _; rfl) :
    Seg M A R Y n s₀ c ((exec (.For target iter body orelse pos) env).wrap K H gd lv) fs s := by
  rw [exec_For]
  refine seg_bind_wrap (wpAny_standAt (seg_bind_wrap (wpAny_mono h (fun x s₁ h₁ => seg_bind_wrap (wpAny_of_eq (hs x) (seg_bind_wrap (wpAny_standAt (seg_bind_wrap (wpAny_holding (wpAny_mono h₁ (fun it s₂ h₂ => ?_) fun _ _ h' => h'.elim))))))) fun _ _ h' => h'.elim)))
  exact seg_call h₂
theorem seg_forBack {p : Pos} {f : Flow} {c' : Code} (h : Seg M A R Y n s₀ c (K f) fs s) : Seg M A R Y n s₀ c' (.pure (.done f)) (forBack env K H gd lv c p :: fs) s :=
  seg_leaf (r := .ok f) h
end
section
variable {prog : Program} {w : World} {A : Around} {R : GenEnd} {Y : Protocol} {n : Nat} {s₀ : Shared} {fs : List Frame} {s : Shared} {env : Env}
def forK (target : Expr) (it : Value) (body orelse : List Stmt) (env : Env) (f : Flow) : Sem Fin :=
  match f with
  | .next | .cont => .pure (.again (.forLoop target it body orelse env))
  | .brk => .pure (.done .next)
  | .ret v => .pure (.done (.ret v))
def forH (env : Env) (e : Value) : Sem Fin := (do noteFrame e env; theTreesLotGoes e : Sem Unit).wrap (fun _ => .raise e) .raise id id
theorem seg_forLoop {target : Expr} {it : Value} {body : List Stmt}
    (h : wpAny (model prog w) (A.over (.forLoop target it body [] env) fs) (pyNext it) (fun r s' => match r with
      | none => Seg (model prog w) A R Y n s₀ (.block [] env) (.pure (.done .next)) fs s'
      | some v => wpAny (model prog w) (A.over (.forLoop target it body [] env) fs) (letOwnedTupleGo target it v) (fun _ s₁ => wpAny (model prog w) (A.over (.forLoop target it body [] env) fs) (assign target env v) (fun _ s₂ =>
          Seg (model prog w) A R Y n s₀ (.forLoop target it body [] env) ((execs body env).wrap (forK target it body [] env) (forH env) id id) fs s₂) (fun _ _ => False) s₁) (fun _ _ => False) s') (fun _ _ => False) s) :
    Seg (model prog w) A R Y n s₀ (.forLoop target it body [] env) ((model prog w).den (.forLoop target it body [] env)) fs s := by
  show Seg _ A R Y n s₀ _ ((forTurn target it body [] env).onRaise (fun x => do noteFrame x env; theTreesLotGoes x)) fs s
  rw [Sem.onRaise_eq_wrap]
  simp only [forTurn]
  refine seg_bind_wrap (wpAny_standAt (seg_bind_wrap (wpAny_onRaise (wpAny_mono h (fun r s₁ h₁ => ?_) fun _ _ h' => h'.elim))))
  cases r with
  | none =>
    exact seg_again rfl h₁
  | some v =>
    refine seg_bind_wrap (wpAny_mono h₁ (fun _ s₂ h₂ => ?_) fun _ _ h' => h'.elim)
    refine seg_bind_wrap (wpAny_mono h₂ (fun _ s₃ h₃ => ?_) fun _ _ h' => h'.elim)
    rw [Sem.bind_eq_wrap', Sem.wrap_wrap]
    rw [Sem.wrap_congr (execs body env) _ _ (K' := forK target it body [] env) (H' := forH env) (fun f => by cases f <;> rfl) (fun e => by first | rfl | exact Sem.bind_eq_wrap _ _ | (unfold forH; rw [← Sem.bind_eq_wrap]; rfl))]
    exact h₃
end
end Mine
end
/-! Gn -/
section
open PySem PySem.W PyProof.Rows PySem.Calls
namespace Mine
local macro_rules | `(tactic| walk_at "no such key") => `(tactic| fail)
theorem words_Gn : True := by (k_with_none; w_top off; trivial)
section
variable {w : World} {A : Around} {s : Shared} {K : Frag}
theorem enterG {R : Result → Shared → Prop} {name qual : Str} {params : Arguments} {body : List Stmt} {scope : Scope} {dV kV doc pm cdv ct oc : Value} {an od : Option Addr} {osl : Array (Option Value)} {f : Addr} {args : List Value} {binds : List (Str × Value)} (m : Str → Option Value)
    (X : K.In s.heap) (hlim : s.heap.NoLimit)
    (ho : K.lookup f = some ⟨oc, od, .func (fnOf name qual params body scope dV kV doc pm an cdv ct), osl⟩) (hcd : codeIn K cdv qual = true) (hroom : A.depth < recursionLimit)
    (hbind : BindsTo s (fnOf name qual params body scope dV kV doc pm an cdv ct) ⟨args, []⟩ binds) (hloc : ∀ y ∈ binds, scope.names.lookup y.1 = some .local)
    (hm : ∀ y, binds.reverse.lookup y = m y)
    (hco : scope.isCoroutine = false) (hgen : scope.isGenerator = true) (hk : scope.kind = .function)
    (hcell : ∀ x ∈ scope.names, x.2 ≠ .cell)
    (h : ∀ h₁ tk, Fr s.heap s.heap.objs.size h₁ m → h₁.IsGen (s.heap.objs.size + 1) s.gens.size → h₁.objs.size = s.heap.objs.size + 2 →
      R (.ok (.ret (.ref (s.heap.objs.size + 1)))) { s with heap := h₁, gens := s.gens.push (.fresh (.func body (envOf qual scope s.heap.objs.size f cdv))), toks := tk }) : codeAny (model PR w) A (.call (.ref f) ⟨args, []⟩) R s := by
  refine codeAny_call_generator (fd := fnOf name qual params body scope dV kV doc pm an cdv ct) (body := body) hroom (X _ _ ho) rfl hco hgen rfl (codeRec_of X hcd) (hbind _ _ _ _ ?_)
  refine wpAny_newFunctionEnv hcell hloc (fun h₁ hns hsb => ⟨hlim.fresh _ hsb, ?_⟩) hk
  have hz : h₁.objs.size = s.heap.objs.size + 1 := by rw [hsb.1, Heap.size_push]
  have e : (fun y => binds.reverse.lookup y) = m := funext hm
  rw [e] at hns
  have key := h (h₁.push { cls := .type "generator", data := .fields #[.int s.gens.size 0, .str name (s.toks + binds.length), .str qual (s.toks + binds.length + 1)] }) (s.toks + binds.length + 1 + 1) ⟨hns.push _, fun b o eo => Heap.get?_push_of_some _ (hsb.extBut b o (Nat.ne_of_lt (Heap.lt_size eo)) (Heap.get?_push_of_some _ eo)), Nat.le_refl _⟩
    ⟨_, _, _, by have := Heap.get?_push_size h₁ (o := { cls := .type "generator", data := .fields #[.int s.gens.size 0, .str name (s.toks + binds.length), .str qual (s.toks + binds.length + 1)] }) rfl; rw [hz] at this; exact this, rfl, rfl, rfl⟩
    (by rw [Heap.size_push, hz])
  show R (.ok (.ret (.ref h₁.objs.size))) _
  rw [hz]
  exact key
end
/-- what the generator leaves alone: all that stands below it but its own frame -/
def GKeep (Lg : Addr) (h h' : Heap) : Prop := ∀ b o, b ≠ Lg → b ≤ Lg + 1 → h.get? b = some o → h'.get? b = some o
def Since (Lg : Addr) (s₀ s : Shared) : Prop := ∃ h₁ tk₁, s = { s₀ with heap := h₁, toks := tk₁ } ∧ GKeep Lg s₀.heap h₁
def GY (x : Str) (L Lg : Addr) : Protocol := fun n s₀ v s' kap =>
  ∃ T h₁ tk₁ tp tc c, v = .ref T ∧ h₁.IsTuple T #[.int ((x.cps.size - 1 - n : Nat) : Int) tp, .str ⟨#[c]⟩ tc] ∧ x.cps[x.cps.size - 1 - n]? = some c ∧ s' = { s₀ with heap := h₁, toks := tk₁ } ∧ GKeep Lg s₀.heap h₁ ∧
    ∀ s'' : Shared, (∀ b o, b ≠ L → h₁.get? b = some o → s''.heap.get? b = some o) → kap (.send .none) s''
def GR (Lg : Addr) : Nat → Shared → Shared → Prop := fun n s₀ s₁ => n = 0 ∧ Since Lg s₀ s₁
theorem Since.refl {Lg : Addr} {s : Shared} : Since Lg s s := ⟨s.heap, s.toks, rfl, fun _ _ _ _ e => e⟩
theorem Since.step {Lg : Addr} {s₀ s : Shared} {h : Heap} {tk : Nat} (x : Since Lg s₀ s) (k : ∀ b o, b ≠ Lg → b ≤ Lg + 1 → s.heap.get? b = some o → h.get? b = some o) : Since Lg s₀ { s with heap := h, toks := tk } := by
  obtain ⟨h₁, tk₁, rfl, k₁⟩ := x
  exact ⟨h, tk, rfl, fun b o h1 h2 e => k b o h1 h2 (k₁ b o h1 h2 e)⟩
/-- the heap as far as n -/
def cutH (h : Heap) (n : Nat) : Heap := { h with objs := h.objs.extract 0 n }
theorem cutH_get {h : Heap} {n b : Nat} {o : Obj} : (cutH h n).get? b = some o ↔ b < n ∧ h.get? b = some o := by
  unfold Heap.get? cutH
  dsimp only
  rw [Array.getElem?_extract]
  by_cases hb : b < n
  · by_cases hs : b < h.objs.size
    · simp [hb, hs, Nat.lt_min]
    · have e : h.objs[b]? = none := Array.getElem?_eq_none (by omega)
      simp [e]
  · simp [hb, Nat.lt_min]
theorem cutH_size {h : Heap} {n : Nat} : (cutH h n).objs.size ≤ n := by
  unfold cutH
  dsimp only
  rw [Array.size_extract]
  omega
theorem cutH_fr {h : Heap} {n : Nat} {m : Str → Option Value} (x : h.Ns n m) : Fr (cutH h n) n h m := ⟨x, fun _ _ e => (cutH_get.mp e).2, cutH_size⟩
theorem cutH_none {h : Heap} {n b : Nat} (hb : n ≤ b) : (cutH h n).get? b = none := Heap.get?_none_of_le (Nat.le_trans cutH_size hb)
theorem cutH_keep {Lg : Nat} {h h' : Heap} {m : Str → Option Value} {oG : Obj} {news : List (Addr × Obj)} (F : Fr (cutH h Lg) Lg h' m) (N : News (cutH h Lg) Lg h' news) (hG : h.get? (Lg + 1) = some oG) (hm : (Lg + 1, oG) ∈ news) :
    ∀ b o, b ≠ Lg → b ≤ Lg + 1 → h.get? b = some o → h'.get? b = some o := fun b o h1 h2 e => by
  by_cases hb : b < Lg
  · exact F.keep b o (cutH_get.mpr ⟨hb, e⟩)
  · obtain rfl : b = Lg + 1 := by omega
    rw [hG] at e; cases e
    exact (N _ hm).1
theorem seg_ind {M : Model} {A : Around} {R : GenEnd} {Y : Protocol} {c : Code} {D : Sem Fin} {fs : List Frame} (Iv : Nat → Shared → Shared → Prop) (h0 : ∀ s₀ s, Iv 0 s₀ s → Seg M A R Y 0 s₀ c D fs s)
    (h1 : ∀ k, (∀ s₀ s, Iv k s₀ s → Seg M A R Y k s₀ c D fs s) → ∀ s₀ s, Iv (k + 1) s₀ s → Seg M A R Y (k + 1) s₀ c D fs s) : ∀ k s₀ s, Iv k s₀ s → Seg M A R Y k s₀ c D fs s := by
  intro k
  induction k with
  | zero => exact h0
  | succ k ih => exact h1 k ih
theorem WE {w : World} {A : Around} (hA : A.handled = none) (x : Str) (tx : Tok) (it : Addr) : WalksT PR w A (it + 1) [it + 1, it] [it + 1, it] x.cps.size (fun i vals => ∃ t v, (∃ c u, x.cps[i]? = some c ∧ v = .str ⟨#[c]⟩ u) ∧ vals = #[.int i t, v])
    (fun i h => (∃ old, IsEnum h (it + 1) it i old) ∧ h.IsStrIter it "str_ascii_iterator" x tx i) (fun i T h => (∃ v, IsEnumOut h (it + 1) it ((i : Int) + 1) v T) ∧ h.IsStrIter it "str_ascii_iterator" x tx (i + 1) ∧ T ≠ it + 1 ∧ T ≠ it) :=
  WalksT.enumerateD (Draws.strAscii (A := A.in1) hA it x tx) (it + 1) (Nat.succ_ne_self _) (by rw [List.mem_singleton]; exact Nat.succ_ne_self _) (List.mem_singleton.mpr rfl)
def GIv (x : Str) (tx : Tok) (hb : Heap) (Lg e it : Addr) (k : Nat) (s₀ s : Shared) : Prop :=
  ∃ i m old oG, x.cps.size - i = k ∧ i ≤ x.cps.size ∧ IsEnum s.heap e it i old ∧ s.heap.IsStrIter it "str_ascii_iterator" x tx i ∧ s.heap.Ns Lg m ∧ m (Str.ofString "escape") = some (.bool false) ∧ Since Lg s₀ s ∧ s.heap.get? (Lg + 1) = some oG ∧ ∀ b o, hb.get? b = some o → s.heap.get? b = some o
theorem kfg : ∀ P h, (hd.heap_39 P).In h → PySem.Challenge.rw_gf0001_01 = PySem.Challenge.rw_gf0001_01 := by k_fill; intros; rfl
set_option maxHeartbeats 1000000 in
theorem gen_ok (w : World) {loose : List Str} {mean : ExcName → Option Value} {mg mb : Str → Option Value} (x : Str) (tx : Tok) (hx : ∀ c ∈ x.cps, c = 40 ∨ c = 41)
   {A : Around} (hA : A.handled = none) (hd1 : A.depth < recursionLimit - 50) (Q E : Value → Shared → Prop) (s : Shared) {hb : Heap} {L : Addr} {m : Str → Option Value} (F₀ : Fr hb L s.heap m) (X : (hd.heap_39 w.params).In hb) (T : Top hd.view_39 loose mean mg mb hb)
   (hret : ∀ h₁ tk gs, gs.bare = true → (∀ b o, s.heap.get? b = some o → h₁.get? b = some o) → h₁.IsGen (s.heap.objs.size + 1) s.gens.size → s.heap.objs.size + 2 ≤ h₁.objs.size →
     (∀ (s'' : Shared), (∀ b o, b ≠ L → h₁.get? b = some o → s''.heap.get? b = some o) →
       gs.Goes (model PR w) A.in1 (fun n s₀ r s₁ => r = .ok (.ret .none) ∧ GR s.heap.objs.size n s₀ s₁) (GY x L s.heap.objs.size) x.cps.size (.send .none) s'') →
     Q (.ref (s.heap.objs.size + 1)) { s with heap := h₁, gens := s.gens.push gs, toks := tk }) :
   wpAny (model PR w) A (call (.ref 21) [.str x tx]) Q E s := by
  have X₁ : (hd.heap_39 w.params).In s.heap := fun a o e => F₀.keep _ _ (X a o e)
  have T₁ := T.keeps F₀.keep
  refine wpAny_call ?_
  refine' enterG (fun y => if y = Str.ofString "addr" then some (.str x tx) else none) X₁ T₁.nolimit ?k1 ?k2 ?k3 ?k4 ?k5 ?k6 ?c1 ?c2 ?c3 ?c4 ?k7
  case k1 => k_is
  case k2 => k_is
  case k3 => omega
  case k4 => exact BindsTo.of_eq rfl
  case k5 => exact locs rfl
  case c1 => rfl
  case c2 => rfl
  case c3 => rfl
  case c4 => decide
  case k6 => intro y; exact lk_cons.trans (congrArg _ lk_nil)
  intro h₁ tk F G hz
  refine hret h₁ tk _ rfl F.keep G (by omega) fun s'' al => ⟨rfl, ?_⟩
  have hLs : L < s.heap.objs.size := F₀.ns.lt
  have hbl : hb.objs.size ≤ L := F₀.above
  obtain ⟨oG, eG⟩ : ∃ oG, s''.heap.get? (s.heap.objs.size + 1) = some oG := by
    obtain ⟨o, _, _, e, _⟩ := G
    exact ⟨o, al _ o (Nat.ne_of_gt (Nat.lt_succ_of_lt hLs)) e⟩
  have hk0 : ∀ b o, hb.get? b = some o → s''.heap.get? b = some o := fun b o e => al b o (fun q => by rw [q, Heap.get?_none_of_le hbl] at e; cases e) (F.keep b o (F₀.keep b o e))
  have ns1 := F.ns.at' fun o e => al _ o (Nat.ne_of_gt hLs) e
  have asc : x.cps.all (· < 128) = true := by
    rw [Array.all_eq_true']
    intro c hc
    rcases hx c hc with rfl | rfl <;> rfl
  generalize hLg : s.heap.objs.size = Lg at *
  clear G F T₁ X₁ hret al hz F₀
  clear h₁ tk
  have kc : ∀ b o, hb.get? b = some o → (cutH s''.heap Lg).get? b = some o := fun b o e => cutH_get.mpr ⟨Nat.lt_of_lt_of_le (Heap.lt_size e) (Nat.le_of_lt (Nat.lt_of_le_of_lt hbl hLs)), hk0 b o e⟩
  have F₁ := cutH_fr ns1
  have X₁ : (hd.heap_39 w.params).In (cutH s''.heap Lg) := fun a o e => kc _ _ (X a o e)
  have T₁ := T.keeps kc
  have N₁ : News (cutH s''.heap Lg) Lg s''.heap [(Lg + 1, oG)] := fun p hp => by
    rw [List.mem_singleton.mp hp]
    exact ⟨eG, Nat.succ_ne_self _, cutH_none (Nat.le_succ _)⟩
  have hLs' : Lg + 1 < s''.heap.objs.size := Heap.lt_size eG
  clear hLg
  refine seg_func ?_
  refine seg_stmt ?_
  k_steps
  refine seg_stmt ?_
  k_steps
  refine seg_execs_cons (seg_For ?_)
  k_steps
  refine call_enumerate_str fun h₂ hE hI hz₂ hk₂ => ?_
  rename_i h₃ F₃ N₃
  refine wpAny_pyIter_enum hE ?_
  intro p
  have hi0 : Lg + 1 < h₃.objs.size := Heap.lt_size (N₃ _ (List.mem_singleton.mpr rfl)).1
  have hst : strIterType x = "str_ascii_iterator" := by unfold strIterType; rw [asc]; rfl
  rw [hst] at hI
  have ik := cutH_keep F₃ N₃ eG (List.mem_singleton.mpr rfl)
  have hLh : Lg < h₃.objs.size := Nat.lt_of_succ_lt hi0
  have start : GIv x tx hb Lg (h₃.objs.size + 1) h₃.objs.size x.cps.size s'' { s'' with heap := h₂, toks := s''.toks + 1 + 1 + 1 } :=
    ⟨0, _, _, oG, rfl, Nat.zero_le _, hE, hI, F₃.ns.at' fun o e => hk₂ _ o e, by simp, Since.refl.step fun b o h1 h2 e => hk₂ _ _ (ik b o h1 h2 e), hk₂ _ _ (N₃ _ (List.mem_singleton.mpr rfl)).1, fun b o e => hk₂ _ _ (F₃.keep _ _ (kc b o e))⟩
  have hit1 : Lg + 1 < h₃.objs.size := hi0
  clear hE hI hz₂ hk₂ F₃ N₃ ik X₁ T₁ kc ns1 eG hk0
  generalize hitq : h₃.objs.size = it at start hit1
  refine seg_ind (GIv x tx hb Lg (it + 1) it) ?_ ?_ _ _ _ start
  · rintro s₀ s ⟨i, m, old, oG, hk, hi, he, hI, ns, hesc, sin, eG, hkb⟩
    obtain rfl : i = x.cps.size := by omega
    refine seg_forLoop ?_
    refine (WE (by exact hA) x tx it).done s _ _ ⟨⟨old, he⟩, hI⟩ fun h₁ tk₁ hk₁ => ?_
    have nin : ∀ b, b ≤ Lg + 1 → b ∉ [it + 1, it] := fun b hb hm => by
      rcases List.mem_cons.mp hm with q | q
      · rw [q] at hb; exact absurd hb (Nat.not_le.mpr (Nat.lt_succ_of_lt hit1))
      · rw [List.mem_singleton.mp q] at hb; exact absurd hb (Nat.not_le.mpr hit1)
    have em : m = fun y => if y = Str.ofString "escape" then some (.bool false) else m y := funext fun y => by
      by_cases hy : y = Str.ofString "escape"
      · rw [if_pos hy, hy, hesc]
      · rw [if_neg hy]
    rw [em] at ns
    have ns1 := ns.at' fun o e => hk₁ _ o (nin _ (Nat.le_succ _)) e
    have eG1 := hk₁ _ _ (nin _ (Nat.le_refl _)) eG
    have kc : ∀ b o, hb.get? b = some o → (cutH h₁ Lg).get? b = some o := fun b o e => by
      have hlt : b < Lg := Nat.lt_of_lt_of_le (Heap.lt_size e) (Nat.le_of_lt (Nat.lt_of_le_of_lt hbl hLs))
      exact cutH_get.mpr ⟨hlt, hk₁ _ _ (nin _ (Nat.le_succ_of_le (Nat.le_of_lt hlt))) (hkb b o e)⟩
    have F₁ := cutH_fr ns1
    have X₁ : (hd.heap_39 w.params).In (cutH h₁ Lg) := fun a o e => kc _ _ (X a o e)
    have T₁ := T.keeps kc
    have N₁ : News (cutH h₁ Lg) Lg h₁ [(Lg + 1, oG)] := fun p hp => by
      rw [List.mem_singleton.mp hp]
      exact ⟨eG1, Nat.succ_ne_self _, cutH_none (Nat.le_succ _)⟩
    have sin1 : Since Lg s₀ { s with heap := h₁, toks := tk₁ } := sin.step fun b o _ h2 e => hk₁ b o (nin _ h2) e
    clear X T he hI ns sin
    refine seg_forBack ?_
    refine seg_execs_cons (seg_If ?_)
    k_steps
    rw [if_neg Bool.false_ne_true]
    refine seg_execs_nil ?_
    refine seg_execs_nil ?_
    exact seg_end (.ok (.ret .none)) ⟨rfl, rfl, sin1⟩
  · rintro k ih s₀ s ⟨i, m, old, oG, hk, hi, he, hI, ns, hesc, sin, eG, hkb⟩
    have hlt : i < x.cps.size := by omega
    have nin : ∀ b, b ≤ Lg + 1 → b ∉ [it + 1, it] := fun b hb hm => by
      rcases List.mem_cons.mp hm with q | q
      · rw [q] at hb; exact absurd hb (Nat.not_le.mpr (Nat.lt_succ_of_lt hit1))
      · rw [List.mem_singleton.mp q] at hb; exact absurd hb (Nat.not_le.mpr hit1)
    have em : m = fun y => if y = Str.ofString "escape" then some (.bool false) else m y := funext fun y => by
      by_cases hy : y = Str.ofString "escape"
      · rw [if_pos hy, hy, hesc]
      · rw [if_neg hy]
    rw [em] at ns
    refine seg_forLoop ?_
    refine (WE (by exact hA) x tx it).item i s _ _ hlt ⟨⟨old, he⟩, hI⟩ fun Tt vals h₁ tk₁ hP hTle hT₁ hmid hk₁ => ?_
    obtain ⟨ti, v, ⟨c, u, hc, rfl⟩, rfl⟩ := hP
    have hTi := (WE (w := w) (A := A) hA x tx it).apart i Tt _ hmid
    refine (WE (by exact hA) x tx it).go _ _ _ i Tt _ _ _ hmid fun h₁' hst₁ hk₁' => ?_
    have hT₁' : h₁'.IsTuple Tt #[.int i ti, .str ⟨#[c]⟩ u] := let ⟨o, e, r⟩ := hT₁; ⟨o, hk₁' _ o hTi e, r⟩
    refine wpAny_assign_Tuple (by exact hA) hT₁' rfl rfl fun h₁'' hx₁ => ?_
    replace hx₁ : Heap.ExtBut h₁'.objs.size h₁' h₁'' := hx₁
    have old₁ : ∀ b o, h₁'.get? b = some o → h₁''.get? b = some o := fun b o e => hx₁ b o (Nat.ne_of_lt (Heap.lt_size e)) e
    have up₁ : ∀ b o, b ∉ [it + 1, it] → s.heap.get? b = some o → h₁''.get? b = some o := fun b o hb e => old₁ _ _ (hk₁' _ _ hb (hk₁ _ _ hb e))
    show wpAny _ _ (do holding [_] (assign (.Name _ _) _ _); do holding [] (assign (.Name _ _) _ _); pure ()) _ _ _
    refine wpAny_bind (wpAny_holding (wpAny_assign_Name (wpAny_storeName_local rfl (ns.at' fun o e => up₁ _ o (nin _ (Nat.le_succ _)) e) (fun h₂a hn₂a hs₂a => ?_) rfl)))
    replace hs₂a : Heap.SameBut Lg h₁'' h₂a := hs₂a
    refine wpAny_bind (wpAny_holding (wpAny_assign_Name (wpAny_storeName_local rfl hn₂a (fun h₂ hn₂ hs₂ => wpAny_pure ?_) rfl)))
    replace hs₂ : Heap.SameBut Lg h₂a h₂ := hs₂
    have up₂ : ∀ b o, b ≠ Lg → b ∉ [it + 1, it] → s.heap.get? b = some o → h₂.get? b = some o := fun b o h1 h2 e => hs₂.extBut _ _ h1 (hs₂a.extBut _ _ h1 (up₁ _ _ h2 e))
    obtain ⟨⟨old', he'⟩, oi, hoi, hI'⟩ := hst₁
    have hitL : it ≠ Lg := Nat.ne_of_gt (Nat.lt_of_succ_lt hit1)
    have hitL1 : it + 1 ≠ Lg := Nat.ne_of_gt (Nat.lt_succ_of_lt (Nat.lt_of_succ_lt hit1))
    have he₂ := hs₂.extBut _ _ hitL1 (hs₂a.extBut _ _ hitL1 (old₁ _ _ he'))
    have hi₂ := hs₂.extBut _ _ hitL (hs₂a.extBut _ _ hitL (old₁ _ _ hoi))
    have eG1 := up₂ _ _ (Nat.succ_ne_self _) (nin _ (Nat.le_refl _)) eG
    have kc : ∀ b o, hb.get? b = some o → (cutH h₂ Lg).get? b = some o := fun b o e => by
      have hlt : b < Lg := Nat.lt_of_lt_of_le (Heap.lt_size e) (Nat.le_of_lt (Nat.lt_of_le_of_lt hbl hLs))
      exact cutH_get.mpr ⟨hlt, up₂ _ _ (Nat.ne_of_lt hlt) (nin _ (Nat.le_succ_of_le (Nat.le_of_lt hlt))) (hkb b o e)⟩
    have F₁ := cutH_fr hn₂
    have X₁ : (hd.heap_39 w.params).In (cutH h₂ Lg) := fun a o e => kc _ _ (X a o e)
    have T₁ := T.keeps kc
    have N₁ : News (cutH h₂ Lg) Lg h₂ [(Lg + 1, oG), (it, oi), (it + 1, { cls := .type "enumerate", dict := none, data := .fields #[.none, .bool false, .ref it, rawInt ((i + 1 : Nat) : Int), .none, old'], slots := #[] })] := fun p hp => by
      rcases List.mem_cons.mp hp with rfl | hp
      · exact ⟨eG1, Nat.succ_ne_self _, cutH_none (Nat.le_succ _)⟩
      · rcases List.mem_cons.mp hp with rfl | hp
        · exact ⟨hi₂, hitL, cutH_none (Nat.le_of_lt (Nat.lt_of_succ_lt hit1))⟩
        · rw [List.mem_singleton.mp hp]
          exact ⟨he₂, hitL1, cutH_none (Nat.le_succ_of_le (Nat.le_of_lt (Nat.lt_of_succ_lt hit1)))⟩
    have sin1 : Since Lg s₀ { s with heap := h₂, toks := tk₁ } := sin.step fun b o h1 h2 e => up₂ b o h1 (nin _ h2) e
    have hkc := fun (h' : Heap) m' news (F : Fr (cutH h₂ Lg) Lg h' m') (N : News (cutH h₂ Lg) Lg h' news) hm => cutH_keep F N eG1 hm
    clear X T he hI ns sin he' hoi hk₁ hk₁' hT₁ hT₁' hmid up₁ up₂ old₁ hx₁ hn₂ hn₂a hs₂ hs₂a start em
    refine seg_execs_cons (seg_If ?_)
    k_steps
    rw [if_neg Bool.false_ne_true]
    refine seg_execs_cons (seg_If ?_)
    have hcc := hx c (Array.mem_of_getElem? hc)
    k_steps
    rw [if_neg (show ¬ ((⟨#[c]⟩ : Str) == Str.ofString "\\") = true by rcases hcc with rfl | rfl <;> decide)]
    refine seg_execs_cons (seg_Expr_Yield rfl rfl rfl ?_)
    k_steps
    rename_i D₅ h₅ F₅ N₅ l₅ kap hkap
    replace F₅ : Fr (cutH h₂ Lg) Lg h₅ _ := F₅
    replace N₅ : News (cutH h₂ Lg) Lg h₅ _ := N₅
    have sin2 := sin1.step (h := h₅) (tk := tk₁ + 1 + 1 + 1) (hkc _ _ _ F₅ N₅ (List.mem_cons_of_mem _ List.mem_cons_self))
    obtain ⟨h6, tk6, e6, k6⟩ := sin2
    have q6 : h₅ = h6 := congrArg Shared.heap e6
    subst q6
    have hix : x.cps.size - 1 - k = i := by omega
    have hLit : L < it := Nat.lt_trans hLs (Nat.lt_of_succ_lt hit1)
    refine ⟨D₅, h₅, tk6, ti, u, c, rfl, ?_, ?_, e6, k6, fun s6 al => hkap .none s6 ?_⟩
    · rw [hix]; exact ⟨_, (N₅ _ List.mem_cons_self).1, rfl, _, rfl⟩
    · rw [hix]; exact hc
    · refine seg_again rfl (ih s6 s6 ⟨i + 1, _, old', oG, by omega, hlt, al _ _ (Nat.ne_of_gt (Nat.lt_succ_of_lt hLit)) (N₅ (it + 1, _) (List.mem_cons_of_mem _ (List.mem_cons_of_mem _ (List.mem_cons_of_mem _ List.mem_cons_self)))).1,
        ⟨oi, al _ _ (Nat.ne_of_gt hLit) (N₅ (it, oi) (List.mem_cons_of_mem _ (List.mem_cons_of_mem _ List.mem_cons_self))).1, hI'⟩, F₅.ns.at' fun o e => al _ o (Nat.ne_of_gt hLs) e, rfl, Since.refl,
        al _ _ (Nat.ne_of_gt (Nat.lt_succ_of_lt hLs)) (N₅ (Lg + 1, oG) (List.mem_cons_of_mem _ List.mem_cons_self)).1, fun b o e => al b o (Nat.ne_of_lt (Nat.lt_of_lt_of_le (Heap.lt_size e) hbl)) (F₅.keep _ _ (kc b o e))⟩)
end Mine
end
/-! Gn2 -/
section
open PySem PySem.W PyProof.Rows PySem.Calls
namespace Mine
theorem words_Gn2 : True := by (k_with_none; w_top off; trivial)
section
variable {w : World} {A : Around} {E : Value → Shared → Prop} {s : Shared}
/-- one step of a generator that a def made; the state left behind is bare -/
theorem genNext {a : Addr} {g n : Nat} {gs : GenState} {P : Nat → Shared → Shared → Prop} {Y : Protocol} {Q : Option Value → Shared → Prop} (hh : A.handled = none)
    (hl : s.heap.NoLimit) (hroom : A.depth < recursionLimit) (hg : s.heap.IsGen a g) (hgs : s.gens[g]? = some gs)
    (hgo : gs.Goes (model PR w) A.in1 (fun n s₀ r s₁ => r = .ok (.ret .none) ∧ P n s₀ s₁) Y n (.send .none) (s.setGen g .running))
    (hY : ∀ v s₁ gs', gs'.bare = true → Y (n - 1) (s.setGen g .running) v s₁ (fun r' s'' => match n with
        | 0 => False
        | m + 1 => gs'.Goes (model PR w) A.in1 (fun n s₀ r s₁ => r = .ok (.ret .none) ∧ P n s₀ s₁) Y m r' s'') → Q (some v) (s₁.setGen g gs'))
    (hP : ∀ s₁, P n (s.setGen g .running) s₁ → ∀ h', (∀ b o, s₁.heap.get? b = some o → h'.get? b = some o) → Q none { s₁.setGen g .finished with heap := h' }) :
    wpAny (model PR w) A (pyNext (.ref a)) Q E s := by
  unfold pyNext
  refine wpAny_bind (wpAny_attempt (wpAny_callSpecial?_slot (name := Str.ofString "__next__") hg.typeIs slot_gen_next
    (wpAny_call_entry slot_gen_next hg.typeIs entry_gen_next ?_ (args_gen_next _))))
  show wpAny _ A.in1 (Builtin.Generator.genWake (.ref a) (.send .none)) _ _ s
  unfold Builtin.Generator.genWake
  refine wpAny_bind (wpAny_holding (wpAny_genNumber hg (wpAny_bind (wpAny_genState hgs ?_))))
  cases gs with
  | running => exact hgo.elim
  | finished => exact hgo.elim
  | _ =>
    refine wpAny_bind (wpAny_roomToWake hl hroom ?_)
    show wpAny _ A.in1 (.resume g (.send .none) [] _) _ _ s
    refine wpAny_resumeQ hgs hgo (fun x s₁ hx => ?_) (fun v s₁ gs' hb hv => ?_)
    · obtain ⟨rfl, hp⟩ := hx
      show wpAny _ A.in1 (newExc (.type "StopIteration") [] >>= _) _ _ _
      refine wpAny_bind ?_
      simp only [newExc, newTuple]
      refine wpAny_bind (wpAny_newObj_type ?_ (by size_fits))
      refine wpAny_bind (m := firstArgMember _ _) (wpAny_of_eq (a := Value.none) (by first | rfl | (simp only [firstArgMember]; rfl)) ?_)
      refine wpAny_newObj_type ?_ (by size_fits)
      simp only [raiseNew]
      refine wpAny_bind (wpAny_bind (wpAny_handled ?_))
      first | rw [show A.in1.handled = none from hh] | rw [hh]
      refine wpAny_throw ?_
      refine wpAny_bind (wpAny_isInstance (T := "StopIteration") (b := true) ⟨_, Heap.get?_push_size _ rfl, rfl⟩ isSubtype_stop ?_)
      exact wpAny_pure (hP s₁ hp _ fun b o hb => Heap.get?_push_of_some _ (Heap.get?_push_of_some _ hb))
    · exact wpAny_pure ⟨v, rfl, wpAny_pure (hY v s₁ gs' hb hv)⟩
/-- the generator stands before item i -/
def GenOn (w : World) (A : Around) (x : Str) (L Lg : Addr) (g i : Nat) (s : Shared) : Prop :=
  s.heap.IsGen (Lg + 1) g ∧ ∃ gs, s.gens[g]? = some gs ∧ ∀ s'' : Shared, (∀ b o, b ≠ L → s.heap.get? b = some o → s''.heap.get? b = some o) →
    gs.Goes (model PR w) A.in1 (fun n s₀ r s₁ => r = .ok (.ret .none) ∧ GR Lg n s₀ s₁) (GY x L Lg) (x.cps.size - i) (.send .none) s''
theorem GenOn.keeps {x : Str} {L Lg : Addr} {g i : Nat} {h' : Heap} {tk : Nat} (X : GenOn w A x L Lg g i s) (hL : Lg + 1 ≠ L) (k : ∀ b o, b ≠ L → s.heap.get? b = some o → h'.get? b = some o) : GenOn w A x L Lg g i { s with heap := h', toks := tk } := by
  obtain ⟨⟨o, nm, qn, ho, r⟩, gs, hgs, go⟩ := X
  exact ⟨⟨o, nm, qn, k _ _ hL ho, r⟩, gs, hgs, fun s'' al => go s'' fun b o hb e => al b o hb (k b o hb e)⟩
theorem bare_set {gens : Array GenState} {g : Nat} {x : GenState} (h : AllBare gens) (hx : x.bare = true) : AllBare (gens.setIfInBounds g x) := fun y hy => by
  obtain ⟨i, hi, rfl⟩ := Array.mem_iff_getElem.mp hy
  rw [Array.getElem_setIfInBounds (by simpa using hi)]
  split
  · exact hx
  · exact h _ (Array.getElem_mem _)
theorem gen_item {x : Str} {L Lg : Addr} {g i : Nat} {Q : Option Value → Shared → Prop} (hh : A.handled = none) (hroom : A.depth < recursionLimit) (hl : s.heap.NoLimit) (X : GenOn w A x L Lg g i s) (hi : i < x.cps.size) (hB : AllBare s.gens)
    (hQ : ∀ T h₁ tk tp tc c gens', x.cps[i]? = some c → h₁.IsTuple T #[.int i tp, .str ⟨#[c]⟩ tc] → GKeep Lg s.heap h₁ → AllBare gens' → GenOn w A x L Lg g (i + 1) { s with heap := h₁, gens := gens', toks := tk } → Q (some (.ref T)) { s with heap := h₁, gens := gens', toks := tk }) :
    wpAny (model PR w) A (pyNext (.ref (Lg + 1))) Q E s := by
  obtain ⟨hg, gs, hgs, go⟩ := X
  obtain ⟨n, hn⟩ : ∃ n, x.cps.size - i = n + 1 := ⟨x.cps.size - i - 1, by omega⟩
  rw [hn] at go
  refine genNext (P := GR Lg) (Y := GY x L Lg) (n := n + 1) hh hl hroom hg hgs (go _ fun _ _ _ e => e) (fun v s₁ gs' hb hy => ?_) (fun s₁ hp => ?_)
  · obtain ⟨T, h₁, tk₁, tp, tc, c, rfl, hT, hc, rfl, hk, hkap⟩ := hy
    have hix : x.cps.size - 1 - (n + 1 - 1) = i := by omega
    rw [hix] at hT hc
    refine hQ T h₁ tk₁ tp tc c _ hc hT hk (bare_set (bare_set hB rfl) hb) ⟨?_, gs', ?_, fun s'' al => ?_⟩
    · obtain ⟨o, nm, qn, ho, r⟩ := hg
      exact ⟨o, nm, qn, hk _ _ (Nat.succ_ne_self _) (Nat.le_refl _) ho, r⟩
    · exact setGen_self (s := s.setGen g .running) (gs := .running) (setGen_self hgs)
    · rw [show x.cps.size - (i + 1) = n by omega]
      exact hkap s'' al
  · exact absurd hp.1 (Nat.succ_ne_zero n)
theorem gen_end {x : Str} {L Lg : Addr} {g : Nat} {Q : Option Value → Shared → Prop} (hh : A.handled = none) (hroom : A.depth < recursionLimit) (hl : s.heap.NoLimit) (X : GenOn w A x L Lg g x.cps.size s) (hB : AllBare s.gens)
    (hQ : ∀ h₁ tk gens', GKeep Lg s.heap h₁ → AllBare gens' → Q none { s with heap := h₁, gens := gens', toks := tk }) :
    wpAny (model PR w) A (pyNext (.ref (Lg + 1))) Q E s := by
  obtain ⟨hg, gs, hgs, go⟩ := X
  rw [Nat.sub_self] at go
  refine genNext (P := GR Lg) (Y := GY x L Lg) (n := 0) hh hl hroom hg hgs (go _ fun _ _ _ e => e) (fun v s₁ gs' hb hy => ?_) (fun s₁ hp h' hk' => ?_)
  · obtain ⟨T, h₁, tk₁, tp, tc, c, rfl, hT, hc, rfl, hk, hkap⟩ := hy
    exact (hkap { s with heap := h₁ } fun _ _ _ e => e).elim
  · obtain ⟨_, h₁, tk₁, rfl, hk⟩ := hp
    exact hQ h' tk₁ _ (fun b o h1 h2 e => hk' _ _ (hk b o h1 h2 e)) (bare_set (bare_set hB rfl) rfl)
end
end Mine
end
/-! Gn3 -/
section
open PySem PySem.W PyProof.Rows PySem.Calls
namespace Mine
local macro_rules | `(tactic| walk_at "no such key") => `(tactic| fail)
theorem words_Gn3 : True := by (k_with_none; w_top off; trivial)
/-- all that stands above an address, as a ledger -/
def oldOf (h : Heap) (L : Addr) : List (Addr × Obj) := (List.range h.objs.size).filterMap fun b => if L < b then (h.get? b).map (fun o => (b, o)) else none
theorem mem_oldOf {h : Heap} {L : Addr} {p : Addr × Obj} : p ∈ oldOf h L ↔ L < p.1 ∧ h.get? p.1 = some p.2 := by
  unfold oldOf
  rw [List.mem_filterMap]
  constructor
  · rintro ⟨b, _, hb⟩
    split at hb
    · rename_i hl
      cases e : h.get? b with
      | none => rw [e] at hb; cases hb
      | some o => rw [e] at hb; cases hb; exact ⟨hl, e⟩
    · cases hb
  · rintro ⟨h1, h2⟩
    exact ⟨p.1, List.mem_range.mpr (Heap.lt_size h2), by rw [if_pos h1, h2]; rfl⟩
theorem oldOf_news {h : Heap} {L : Addr} : News (cutH h L) L h (oldOf h L) := fun p hp => by
  obtain ⟨h1, h2⟩ := mem_oldOf.mp hp
  exact ⟨h2, Nat.ne_of_gt h1, cutH_none (Nat.le_of_lt h1)⟩
theorem oldOf_keep {h h' : Heap} {L : Addr} {m : Str → Option Value} (F : Fr (cutH h L) L h' m) (N : News (cutH h L) L h' (oldOf h L)) : ∀ b o, b ≠ L → h.get? b = some o → h'.get? b = some o := fun b o hb e => by
  rcases Nat.lt_or_gt_of_ne hb with h1 | h1
  · exact F.keep _ _ (cutH_get.mpr ⟨h1, e⟩)
  · exact (N (b, o) (mem_oldOf.mpr ⟨h1, e⟩)).1
theorem letGo_gen {M : Model} {A : Around} {E : Value → Shared → Prop} {s : Shared} {elts : List Expr} {x1} {pos : Pos} {a g T : Addr} {Q : Unit → Shared → Prop} (hg : s.heap.IsGen a g) (h : Q () s) :
    wpAny M A (letOwnedTupleGo (.Tuple elts x1 pos) (.ref a) (.ref T)) Q E s := by
  obtain ⟨o, nm, qn, ho, hc, hd, _⟩ := hg
  unfold letOwnedTupleGo
  refine wpAny_bind (wpAny_load ho ?_)
  rw [hc, hd]
  dsimp only
  rw [if_neg (by simp)]
  exact wpAny_pure h
def GPost (h : Heap) (L : Addr) (J : (Str → Option Value) → Prop) (s : Shared) (Q : Flow → Shared → Prop) (f : Flow) (s₃ : Shared) : Prop :=
  match f with
  | .ret v => Q (.ret v) s₃
  | .brk => Q .next s₃
  | _ => ∃ h' tk m', s₃ = { s with heap := h', toks := tk } ∧ Fr (cutH h L) L h' m' ∧ News (cutH h L) L h' (oldOf h L) ∧ J m'
theorem gPost {h h' : Heap} {L : Addr} {J : (Str → Option Value) → Prop} {s : Shared} {Q : Flow → Shared → Prop} {tk : Nat} {m' : Str → Option Value} (F : Fr (cutH h L) L h' m') (N : News (cutH h L) L h' (oldOf h L)) (j : J m') :
    GPost h L J s Q .next { s with heap := h', toks := tk } := ⟨h', tk, m', rfl, F, N, j⟩
section
variable {w : World} {A : Around} {s : Shared} {env : Env} {hb : Heap} {Q : Flow → Shared → Prop} {E : Value → Shared → Prop}
theorem loopGen {x : Str} {xi xv : Str} {pi pv pt : Pos} {k1 : Nat} {body : List Stmt} {Lg : Addr} {g : Nat} {m : Str → Option Value} (J : Nat → (Str → Option Value) → Prop)
    (hh : A.handled = none) (hroom : A.depth < recursionLimit) (hlim : hb.NoLimit) (hxi : env.kindOf xi = some .local) (hxv : env.kindOf xv = some .local)
    (hp : (env.scope.kind == .class || (env.scope.kind == .module && env.locals != env.globals)) = false) (hL : env.locals < Lg)
    (X : GenOn w A x env.locals Lg g 0 s) (F : Fr hb env.locals s.heap m) (hB : AllBare s.gens) (j0 : J 0 m)
    (turn : ∀ i c tp tc m₁ h tk s₁ (E' : Value → Shared → Prop), x.cps[i]? = some c → J i m₁ → (∃ g, s₁ = { s with gens := g }) → AllBare s₁.gens → (∀ b o, hb.get? b = some o → (cutH h env.locals).get? b = some o) →
      Fr (cutH h env.locals) env.locals h (fun y => if y = xv then some (.str ⟨#[c]⟩ tc) else if y = xi then some (.int i tp) else m₁ y) → News (cutH h env.locals) env.locals h (oldOf h env.locals) →
      wpAny (model PR w) A (execs body env) (GPost h env.locals (J (i + 1)) s₁ Q) E' { s₁ with heap := h, toks := tk })
    (done : ∀ m₁ h tk s₁, J x.cps.size m₁ → (∃ g, s₁ = { s with gens := g }) → AllBare s₁.gens → Fr hb env.locals h m₁ → Q .next { s₁ with heap := h, toks := tk }) :
    codeAny (model PR w) A (.forLoop (.Tuple [.Name xi pi, .Name xv pv] k1 pt) (.ref (Lg + 1)) body [] env) (fun r s' => match r with | .ok f => Q f s' | .error e => cameBackBy (model PR w) A env E e s') s := by
  have hab : hb.objs.size ≤ env.locals := F.above
  have hLs : env.locals ≠ Lg := Nat.ne_of_lt hL
  have hL1 : Lg + 1 ≠ env.locals := Nat.ne_of_gt (Nat.lt_succ_of_lt hL)
  have hLle : env.locals ≤ Lg + 1 := Nat.le_succ_of_le (Nat.le_of_lt hL)
  have below : ∀ b o, hb.get? b = some o → b < env.locals := fun b o e => Nat.lt_of_lt_of_le (Heap.lt_size e) hab
  refine codeAny_forLoop_any (fun k s' => ∃ i h tk m₁ s₀, s' = { s₀ with heap := h, toks := tk } ∧ (∃ g, s₀ = { s with gens := g }) ∧ AllBare s₀.gens ∧ k = x.cps.size + 1 - i ∧ i ≤ x.cps.size ∧ Fr hb env.locals h m₁ ∧
    GenOn w A x env.locals Lg g i { s₀ with heap := h, toks := tk } ∧ J i m₁) ?_ (x.cps.size + 1) ⟨0, s.heap, s.toks, m, s, rfl, ⟨_, rfl⟩, hB, rfl, Nat.zero_le _, F, X, j0⟩
  rintro k s' ⟨i, h, tk, m₁, s₀, rfl, ⟨g₀, rfl⟩, hB₀, rfl, hi, F₀, X₀, hJ⟩
  have hl₀ : h.NoLimit := hlim.keeps F₀.keep
  by_cases hlt : i < x.cps.size
  · refine gen_item hh hroom hl₀ X₀ hlt hB₀ fun T h₁ tk₁ tp tc c gens' hc hT hk hB₁ X₁ => ?_
    refine letGo_gen X₁.1 ?_
    refine wpAny_assign_Tuple hh hT rfl rfl fun h₂ hx₂ => ?_
    replace hx₂ : Heap.ExtBut h₁.objs.size h₁ h₂ := hx₂
    have old₂ : ∀ b o, h₁.get? b = some o → h₂.get? b = some o := fun b o e => hx₂ b o (Nat.ne_of_lt (Heap.lt_size e)) e
    have ns₂ : h₂.Ns env.locals m₁ := F₀.ns.at' fun o e => old₂ _ _ (hk _ _ hLs hLle e)
    show wpAny _ _ (do holding [_] (assign (.Name _ _) _ _); do holding [] (assign (.Name _ _) _ _); pure ()) _ _ _
    refine wpAny_bind (wpAny_holding (wpAny_assign_Name (wpAny_storeName_local hxi ns₂ (fun h₃ hn₃ hs₃ => ?_) hp)))
    refine wpAny_bind (wpAny_holding (wpAny_assign_Name (wpAny_storeName_local hxv hn₃ (fun h₄ hn₄ hs₄ => wpAny_pure ?_) hp)))
    replace hs₃ : Heap.SameBut env.locals h₂ h₃ := hs₃
    replace hs₄ : Heap.SameBut env.locals h₃ h₄ := hs₄
    have up : ∀ b o, b ≠ env.locals → h₁.get? b = some o → h₄.get? b = some o := fun b o h1 e => hs₄.extBut _ _ h1 (hs₃.extBut _ _ h1 (old₂ _ _ e))
    have hkb : ∀ b o, hb.get? b = some o → h₄.get? b = some o := fun b o e => up _ _ (Nat.ne_of_lt (below _ _ e)) (hk _ _ (Nat.ne_of_lt (Nat.lt_trans (below _ _ e) hL)) (Nat.le_trans (Nat.le_of_lt (below _ _ e)) hLle) (F₀.keep _ _ e))
    have hkc : ∀ b o, hb.get? b = some o → (cutH h₄ env.locals).get? b = some o := fun b o e => cutH_get.mpr ⟨below _ _ e, hkb _ _ e⟩
    have X₄ : GenOn w A x env.locals Lg g (i + 1) { s with heap := h₄, gens := gens', toks := tk₁ } := X₁.keeps hL1 up
    refine wpAny_mono (turn i c tp tc m₁ h₄ _ { s with gens := gens' } _ hc hJ ⟨_, rfl⟩ hB₁ hkc (cutH_fr hn₄) oldOf_news) (fun f s₃ p => ?_) fun _ _ e => e
    have fin : ∀ f', (f' = Flow.next ∨ f' = Flow.cont) → GPost h₄ env.locals (J (i + 1)) { s with gens := gens' } Q f' s₃ → ∃ m, m < x.cps.size + 1 - i ∧ ∃ i h tk m₁ s₀, s₃ = { s₀ with heap := h, toks := tk } ∧ (∃ g, s₀ = { s with gens := g }) ∧ AllBare s₀.gens ∧ m = x.cps.size + 1 - i ∧ i ≤ x.cps.size ∧ Fr hb env.locals h m₁ ∧
        GenOn w A x env.locals Lg g i { s₀ with heap := h, toks := tk } ∧ J i m₁ := fun f' hf p => by
      obtain ⟨h', tk', m', rfl, F', N', j'⟩ : ∃ h' tk m', s₃ = { ({ s with gens := gens' } : Shared) with heap := h', toks := tk } ∧ Fr (cutH h₄ env.locals) env.locals h' m' ∧ News (cutH h₄ env.locals) env.locals h' (oldOf h₄ env.locals) ∧ J (i + 1) m' := by
        rcases hf with rfl | rfl <;> exact p
      exact ⟨x.cps.size + 1 - (i + 1), by omega, i + 1, h', tk', m', { s with gens := gens' }, rfl, ⟨_, rfl⟩, hB₁, rfl, hlt, ⟨F'.ns, fun b o e => F'.keep _ _ (hkc _ _ e), hab⟩, X₄.keeps hL1 (oldOf_keep F' N'), j'⟩
    cases f with
    | ret v => exact p
    | brk => exact p
    | next => exact fin _ (.inl rfl) p
    | cont => exact fin _ (.inr rfl) p
  · obtain rfl : i = x.cps.size := by omega
    refine gen_end hh hroom hl₀ X₀ hB₀ fun h₁ tk₁ gens' hk hB₁ => ?_
    refine wpAny_execs_nil ?_
    exact done m₁ h₁ tk₁ { s with gens := gens' } hJ ⟨_, rfl⟩ hB₁ ⟨F₀.ns.at' fun o e => hk _ _ hLs hLle e, fun b o e => hk _ _ (Nat.ne_of_lt (Nat.lt_trans (below _ _ e) hL)) (Nat.le_trans (Nat.le_of_lt (below _ _ e)) hLle) (F₀.keep _ _ e), hab⟩
end
end Mine
end
/-! Paren -/
section
open PySem PySem.W PyProof.Rows PySem.Calls
namespace Mine
theorem words_Paren : True := by (k_with_none; w_top off; trivial)
theorem kfp : ∀ P h, (hd.heap_39 P).In h → PySem.Challenge.rw_gf0001_01 = PySem.Challenge.rw_gf0001_01 := by k_fill; intros; rfl
/-! `_check_parenthesis` on a row of brackets -/
def cStep (st : Option Int) (c : Nat) : Option Int := match st with | none => none | some k => if c = 40 then some (k + 1) else if k - 1 < 0 then none else some (k - 1)
def cRun (l : List Nat) : Option Int := l.foldl cStep (some 0)
def cOut (l : List Nat) : Bool := match cRun l with | none => false | some k => k == 0
theorem cRun_succ {x : Array Nat} {i c : Nat} (h : x[i]? = some c) : cRun (x.toList.take (i + 1)) = cStep (cRun (x.toList.take i)) c := by
  have e : x.toList[i]? = some c := by simpa using h
  unfold cRun
  rw [List.take_add_one, e, List.foldl_append]; rfl
theorem cRun_none {l : List Nat} {i : Nat} (h : cRun (l.take i) = none) : cOut l = false := by
  have e : cRun l = none := by
    rw [← List.take_append_drop i l]
    unfold cRun at h ⊢
    rw [List.foldl_append, h]
    generalize l.drop i = r
    induction r with
    | nil => rfl
    | cons c r ih => exact ih
  unfold cOut; rw [e]
set_option maxHeartbeats 400000 in
theorem strip_ok (w : World) {loose : List Str} {mean : ExcName → Option Value} {mg mb : Str → Option Value} (x : Str) (tx : Tok) (hocc : (Builtin.Str.occurrences x (Str.ofString "\"") 0 x.length 1).isEmpty = true)
   (A : Around) (hA1 : A.depth < 600) (Q E : Value → Shared → Prop) (s : Shared) (X : (hd.heap_39 w.params).In s.heap) (T : Top hd.view_39 loose mean mg mb s.heap)
   (hret : ∀ h' tk', Kp s.heap h' → Q (.str x tx) { s with heap := h', toks := tk' }) :
   wpAny (model PR w) A (call (.ref 28) [.str x tx]) Q E s := by
  refine wpAny_call ?_
  refine' enter (fun y => if y = Str.ofString "addr" then some (.str x tx) else none) X T.nolimit ?k1 ?k2 ?k3 ?k4 ?k5 ?k6 ?c1 ?c2 ?c3 ?c4 ?k7
  case k1 => k_is
  case k2 => k_is
  case k3 => exact Nat.lt_trans hA1 (by decide)
  case k4 => exact BindsTo.of_eq rfl
  case k5 => exact locs rfl
  case c1 => rfl
  case c2 => rfl
  case c3 => rfl
  case c4 => decide
  case k6 => intro y; exact lk_cons.trans (congrArg _ lk_nil)
  intro h₁ tk F
  have N : News s.heap s.heap.objs.size h₁ [] := News.nil
  k_steps
  all_goals exact hret _ _ F.keep
set_option maxHeartbeats 400000 in
theorem check_ok (w : World) {loose : List Str} {mean : ExcName → Option Value} {mg mb : Str → Option Value} (x : Str) (tx : Tok) (hx : ∀ c ∈ x.cps, c = 40 ∨ c = 41) (hlen : x.cps.size ≤ 64) (hocc : (Builtin.Str.occurrences x (Str.ofString "\"") 0 x.length 1).isEmpty = true)
   (Q E : Value → Shared → Prop) (s : Shared) (X : (hd.heap_39 w.params).In s.heap) (T : Top hd.view_39 loose mean mg mb s.heap) (hB : AllBare s.gens)
   (hret : ∀ h' g' tk', Kp s.heap h' → AllBare g' → Q (.bool (cOut x.cps.toList)) { s with heap := h', gens := g', toks := tk' }) :
   wpAny (model PR w) AA (call (.ref 35) [.str x tx]) Q E s := by
  refine wpAny_call ?_
  refine' enter (fun y => if y = Str.ofString "addr" then some (.str x tx) else none) X T.nolimit ?k1 ?k2 ?k3 ?k4 ?k5 ?k6 ?c1 ?c2 ?c3 ?c4 ?k7
  case k1 => k_is
  case k2 => k_is
  case k3 => decide
  case k4 => exact BindsTo.of_eq rfl
  case k5 => exact locs rfl
  case c1 => rfl
  case c2 => rfl
  case c3 => rfl
  case c4 => decide
  case k6 => intro y; exact lk_cons.trans (congrArg _ lk_nil)
  intro h₁ tk F
  have N : News s.heap s.heap.objs.size h₁ [] := News.nil
  k_steps
  refine strip_ok w x tx hocc _ (by show 501 < 600; decide) _ _ { s with heap := h₁, toks := tk } (fun a o e => F.keep _ _ (X a o e)) (T.keeps F.keep) fun h₂ tk₂ hk₂ => ?_
  replace F := F.keeps hk₂
  replace N := N.grown hk₂
  clear hk₂
  k_with "exec For" => (refine wpAny_For ?_)
  k_steps
  rename_i h₃ F₃ N₃
  have hL3 : s.heap.objs.size < h₃.objs.size := F₃.ns.lt
  refine gen_ok w x tx hx rfl (by show 501 < recursionLimit - 50; decide) _ _ { s with heap := h₃, toks := _ } F₃ X T fun h₄ tk₄ gs hbare hk₄ hG hsz hgo => ?_
  refine wpAny_pyIter_gen hG ?_
  have hlen1 : x.cps.toList.length = x.cps.size := by simp
  refine loopGen (hb := s.heap) (m := fun y => if y = Str.ofString "opens" then _ else _) (fun i m => ∃ (k : Int) (t : Tok) (m' : Str → Option Value), m = (fun y => if y = Str.ofString "opens" then some (.int k t) else m' y) ∧ cRun (x.cps.toList.take i) = some k ∧ 0 ≤ k ∧ k ≤ i) rfl (by show 501 < recursionLimit; decide) T.nolimit rfl rfl rfl hL3
    ⟨hG, gs, by simp, fun s'' al => by rw [Nat.sub_zero]; exact hgo s'' al⟩ (F₃.keeps hk₄) (AllBare.push hB hbare) ⟨0, _, _, rfl, rfl, by omega, by omega⟩ ?turn ?done
  case turn =>
    rintro i c tp tc m₁ h tk' s₁ E' hc ⟨k, t, m', rfl, hk, hk0, hk1⟩ ⟨g₁, rfl⟩ hB₁ hkc F₄ N₄
    have X₁ : (hd.heap_39 w.params).In (cutH h s.heap.objs.size) := fun a o e => hkc _ _ (X a o e)
    have T₁ := T.keeps hkc
    clear F₃ X T
    have hcc := hx c (Array.mem_of_getElem? hc)
    have hs1 := cRun_succ hc
    rw [hk] at hs1
    rcases hcc with rfl | rfl
    · k_steps
      exact gPost (by assumption) (by assumption) ⟨k + 1, _, _, rfl, hs1, by omega, by omega⟩
    · by_cases hneg : k - 1 < 0
      · rw [show cStep (some k) 41 = none by simp [cStep, hneg]] at hs1
        have hv := cRun_none hs1
        rw [hv] at hret
        k_steps
        rename_i h₅ F₅ N₅
        exact hret _ _ _ (fun b o e => F₅.keep _ _ (hkc _ _ e)) hB₁
      · rw [show cStep (some k) 41 = some (k - 1) by simp [cStep, hneg]] at hs1
        k_steps
        exact gPost (by assumption) (by assumption) ⟨k - 1, _, _, rfl, hs1, by omega, by omega⟩
  case done =>
    rintro m₁ h tk' s₁ ⟨k, t, m', rfl, hk, hk0, hk1⟩ ⟨g₁, rfl⟩ hB₁ F₄
    clear F₃
    rw [← hlen1, List.take_length] at hk
    have hv : cOut x.cps.toList = (k == 0) := by unfold cOut; rw [hk]
    rw [hv] at hret
    k_steps
    exact hret _ _ _ F₄.keep hB₁
end Mine
end
/-! Given -/
section
open PySem PySem.W PyProof.Rows PySem.Calls
namespace Mine
local macro_rules | `(tactic| walk_at "no such key") => `(tactic| fail)
theorem words_Given : True := by (k_with_none; w_top off; trivial)
theorem kf1 : ∀ P h, (hd.heap_39 P).In h → PySem.Challenge.rw_gf0001_01 = PySem.Challenge.rw_gf0001_01 := by k_fill; intros; rfl
/-! the law's bracket machine, `_law_given` -/
def gStep (O : List Int) (st : Option (Int × List Int × List Int)) (c : Int) : Option (Int × List Int × List Int) := match st with
  | none => none
  | some (h, p, f) => if c = 40 then some (h + 1, p ++ [O.getD h.toNat 0], f) else if p = [] then none else some (h, p.dropLast, f ++ [p.getLastD 0])
def gRun (O : List Int) (l : List Int) : Option (Int × List Int × List Int) := l.foldl (gStep O) (some (0, [], []))
def gOut (O : List Int) (l : List Int) : Option (List Int) := (gRun O l).map fun z => z.2.2
def gVal (O : List Int) (l : List Int) (t : Tok) : Value := match gOut O l with
  | none => .none
  | some f => .bytes (byteArr f) t
@[irreducible] def GInv (O : List Int) (pre : List Int) (h : Int) (p f : List Int) : Prop := gRun O pre = some (h, p, f)
theorem gInv_iff {O pre : List Int} {h : Int} {p f : List Int} : GInv O pre h p f ↔ gRun O pre = some (h, p, f) := by unfold GInv; exact Iff.rfl
theorem gRun_snoc (O pre : List Int) (c : Int) : gRun O (pre ++ [c]) = gStep O (gRun O pre) c := by simp [gRun]
theorem gInv_nil {O : List Int} : GInv O [] 0 [] [] := by rw [gInv_iff]; rfl
theorem gInv_open {O pre : List Int} {h : Int} {p f : List Int} (hI : GInv O pre h p f) : GInv O (pre ++ [((40 : Nat) : Int)]) (h + 1) (p ++ [O.getD h.toNat 0]) f := by
  rw [gInv_iff] at hI ⊢
  rw [gRun_snoc, hI]; rfl
theorem gInv_shut {O pre : List Int} {h : Int} {p f : List Int} {n : Nat} (hI : GInv O pre h p f) (hn : n ≠ 40) (hp : 0 < p.length) : GInv O (pre ++ [(n : Int)]) h p.dropLast (f ++ [p.getLastD 0]) := by
  rw [gInv_iff] at hI ⊢
  rw [gRun_snoc, hI]
  have h1 : ¬ ((n : Int) = 40) := by omega
  have h2 : ¬ p = [] := by intro e; subst e; simp at hp
  simp [gStep, h1, h2]
theorem gRun_none (O : List Int) : ∀ l : List Int, l.foldl (gStep O) none = none
  | [] => rfl
  | _ :: r => gRun_none O r
theorem gInv_dead {O pre post : List Int} {h : Int} {f : List Int} {n : Nat} (hI : GInv O pre h [] f) (hn : n ≠ 40) : gOut O (pre ++ (n : Int) :: post) = none := by
  rw [gInv_iff] at hI
  have h1 : ¬ ((n : Int) = 40) := by omega
  unfold gOut gRun at *
  rw [List.foldl_append, hI, List.foldl_cons]
  have : gStep O (some (h, [], f)) (n : Int) = none := by simp [gStep, h1]
  rw [this, gRun_none]; rfl
theorem gInv_facts {O : List Int} : ∀ {pre : List Int} {h : Int} {p f : List Int}, GInv O pre h p f → h = (pre.count 40 : Int) ∧ p.length + f.length ≤ pre.length := by
  intro pre
  induction pre using snocInd with
  | h0 => intro h p f hI; rw [gInv_iff] at hI; cases hI; exact ⟨rfl, Nat.le_refl _⟩
  | h1 pre c ih =>
    intro h p f hI
    rw [gInv_iff, gRun_snoc] at hI
    cases e : gRun O pre with
    | none => rw [e] at hI; cases hI
    | some z =>
      obtain ⟨h₁, p₁, f₁⟩ := z
      have := ih (gInv_iff.mpr e)
      rw [e] at hI
      unfold gStep at hI
      dsimp only at hI
      rw [List.count_append, List.length_append]
      by_cases hc : c = 40
      · rw [if_pos hc] at hI; cases hI
        subst hc
        have h2 : [(40 : Int)].count 40 = 1 := by decide
        rw [h2, List.length_append]
        simp only [List.length_cons, List.length_nil]
        omega
      · rw [if_neg hc] at hI
        have h2 : [c].count 40 = 0 := by rw [List.count_eq_zero]; simpa using fun q => hc q.symm
        by_cases hp : p₁ = []
        · rw [if_pos hp] at hI; cases hI
        · rw [if_neg hp] at hI; cases hI
          have : 0 < p₁.length := List.length_pos_iff.mpr hp
          rw [h2, List.length_append, List.length_dropLast]
          simp only [List.length_cons, List.length_nil]
          omega
theorem gInv_in {O : List Int} (hO : KBa.In O) : ∀ {pre : List Int} {h : Int} {p f : List Int}, GInv O pre h p f → KBa.In p ∧ KBa.In f := by
  intro pre
  induction pre using snocInd with
  | h0 => intro h p f hI; rw [gInv_iff] at hI; cases hI; exact ⟨fun _ h => (nomatch h), fun _ h => (nomatch h)⟩
  | h1 pre c ih =>
    intro h p f hI
    rw [gInv_iff, gRun_snoc] at hI
    cases e : gRun O pre with
    | none => rw [e] at hI; cases hI
    | some z =>
      obtain ⟨h₁, p₁, f₁⟩ := z
      obtain ⟨i1, i2⟩ := ih (gInv_iff.mpr e)
      rw [e] at hI
      unfold gStep at hI
      dsimp only at hI
      by_cases hc : c = 40
      · rw [if_pos hc] at hI; cases hI
        refine ⟨fun x hx => ?_, i2⟩
        rcases List.mem_append.mp hx with hx | hx
        · exact i1 x hx
        · rw [List.mem_singleton.mp hx]
          by_cases hl : h₁.toNat < O.length
          · rw [List.getD_eq_getElem?_getD, List.getElem?_eq_getElem hl]; exact hO _ (List.getElem_mem hl)
          · rw [List.getD_eq_getElem?_getD, List.getElem?_eq_none (by omega)]; exact ⟨by decide, by decide⟩
      · rw [if_neg hc] at hI
        by_cases hp : p₁ = []
        · rw [if_pos hp] at hI; cases hI
        · rw [if_neg hp] at hI; cases hI
          refine ⟨fun x hx => i1 x (List.dropLast_subset _ hx), fun x hx => ?_⟩
          rcases List.mem_append.mp hx with hx | hx
          · exact i2 x hx
          · rw [List.mem_singleton.mp hx]
            refine i1 _ ?_
            rw [List.getLastD_eq_getLast?, List.getLast?_eq_some_getLast hp]
            exact List.getLast_mem hp
theorem given_done {Q : Value → Shared → Prop} {s : Shared} {O l : List Int} {h : Int} {p f : List Int} {h' : Heap} {L : Addr} {m : Str → Option Value} {t : Tok} {tk : Nat}
    (hret : ∀ t h' tk', Kp s.heap h' → Q (gVal O l t) { s with heap := h', toks := tk' }) (hI : GInv O l h p f) (F : Fr s.heap L h' m) : Q (.bytes (byteArr f) t) { s with heap := h', toks := tk } := by
  have := hret t h' tk F.keep
  rw [gInv_iff] at hI
  simpa only [gVal, gOut, hI, Option.map_some] using this
theorem given_none {Q : Value → Shared → Prop} {s : Shared} {O l pre post : List Int} {h : Int} {f : List Int} {n : Nat} {h' : Heap} {L : Addr} {m : Str → Option Value} {tk : Nat}
    (hret : ∀ t h' tk', Kp s.heap h' → Q (gVal O l t) { s with heap := h', toks := tk' }) (hI : GInv O pre h [] f) (he : l = pre ++ (n : Int) :: post) (hn : n ≠ 40) (F : Fr s.heap L h' m) : Q .none { s with heap := h', toks := tk } := by
  have := hret 0 h' tk F.keep
  rw [he] at this
  simpa only [gVal, gInv_dead hI hn] using this
set_option maxHeartbeats 400000 in
theorem given_ok (w : World) {loose : List Str} {mean : ExcName → Option Value} {mg mb : Str → Option Value} (row : Str) (tr : Tok) (oct : Array UInt8) (tb : Tok) (O : List Int) (hO : KBw.bInts oct = O) (hOI : KBa.In O) (hrow : row.length ≤ 64) (hoct : O.length ≤ 64) (hcnt : (KStt.codes row).count 40 ≤ O.length)
   (Q E : Value → Shared → Prop) (s : Shared) (X : (hd.heap_39 w.params).In s.heap) (T : Top hd.view_39 loose mean mg mb s.heap)
   (hret : ∀ t h' tk', Kp s.heap h' → Q (gVal O (KStt.codes row) t) { s with heap := h', toks := tk' }) :
   wpAny (model PR w) AA (call (.ref 49) [.str row tr, .bytes oct tb]) Q E s := by
  refine wpAny_call ?_
  refine' enter (fun y => if y = Str.ofString "octets" then some (.bytes oct tb) else if y = Str.ofString "row" then some (.str row tr) else none) X T.nolimit ?k1 ?k2 ?k3 ?k4 ?k5 ?k6 ?c1 ?c2 ?c3 ?c4 ?k7
  case k1 => k_is
  case k2 => k_is
  case k3 => decide
  case k4 => exact BindsTo.of_eq rfl
  case k5 => exact locs rfl
  case c1 => rfl
  case c2 => rfl
  case c3 => rfl
  case c4 => decide
  case k6 => intro y; exact lk_cons.trans (congrArg _ lk_cons)
  intro h₁ tk F
  have N : News s.heap s.heap.objs.size h₁ [] := News.nil
  k_with "state" => first | exact gInv_open (by assumption) | exact gInv_shut (by assumption) (by assumption) (by assumption)
  k_with "pyIter str" =>
    rename_i t0 lP hP lLt1 lD hD lLt2 lT hT lLt3 hA hB hC hE hF hN
    refine KStt.kst_text (σ := Int × Tok × List Value × List Int × Nat × List Value × List Int × Nat)
      (fun c => [(lD, W.listOf c.2.2.2.2.2.1.toArray c.2.2.2.2.2.2.2), (lP, W.listOf c.2.2.1.toArray c.2.2.2.2.1)]) (fun c => [(Str.ofString "here", .int c.1 c.2.1)])
      (fun c => IntsAre c.2.2.1 c.2.2.2.1 ∧ IntsAre c.2.2.2.2.2.1 c.2.2.2.2.2.2.1) [] (fun pre c => GInv O pre c.1 c.2.2.2.1 c.2.2.2.2.2.2.1) (0, t0, [], [], 0, [], [], 0) rfl hF (fun p hp => hN p (List.mem_cons_of_mem _ hp)) ⟨.nil, .nil⟩ ?k1 ?k2 ?k3 ?k4
    case k1 => intro p hp; rw [List.mem_singleton.mp hp]; rfl
    case k2 => exact gInv_nil
    case' k3 =>
      clear hN hF
      rintro ⟨h, th, pv, pi, pn, fv, fi, fn⟩ pre post n t u H tk own he hoff ⟨hpi, hfi⟩ hI F' N'
      dsimp only [envOf, List.map, List.cons_append, List.nil_append] at hoff F' N' hpi hfi hI
      simp only [kstB, List.contains_nil, Bool.false_eq_true, if_false] at F'
      have hMk : KstMark := kstMark
      have hfs := gInv_facts hI
      have hcl := congrArg List.length he
      have hcc := congrArg (List.count (40 : Int)) he
      have hpl := hpi.length
      have hfl := hfi.length
      rw [KStt.codes_length, List.length_append, List.length_cons] at hcl
      rw [List.count_append, List.count_cons] at hcc
      by_cases hn : n = 40
    case' pos =>
      subst hn
      have hlo : 0 ≤ h := by omega
      have hhi : h < (O.length : Int) := by
        simp only [Int.cast_ofNat_Int, BEq.rfl, if_true] at hcc
        omega
    case' neg =>
      have hne : (({ cps := #[n] } : Str) == Str.ofString "(") = false := by
        rw [beq_eq_false_iff_ne]
        intro q
        have q2 : (#[n] : Array Nat) = #[40] := congrArg Str.cps q
        simp at q2
        exact hn q2
      by_cases hpe : pi = []
    case' pos => subst hpe
    case' neg => have hpp : 0 < pi.length := List.length_pos_iff.mpr hpe
    case' k4 =>
      clear hN hF
      rintro ⟨h, th, pv, pi, pn, fv, fi, fn⟩ u H tk ⟨hpi, hfi⟩ hI F' N'
      dsimp only [envOf] at F' N' hpi hfi hI
      simp only [kstB, List.contains_nil, Bool.false_eq_true, if_false] at F'
      have hin : KBa.In fi := (gInv_in hOI hI).2
      have hlen : fi.length ≤ 64 := by have := (gInv_facts hI).2; rw [KStt.codes_length] at this; omega
  k_steps
  all_goals first
    | exact given_done (s := s) hret hI (by assumption)
    | exact given_none (s := s) hret hI he hn (by assumption)
end Mine
end
/-! Back -/
section
open PySem PySem.W PyProof.Rows PySem.Calls
namespace Mine
local macro_rules | `(tactic| walk_at "no such key") => `(tactic| fail)
theorem words_Back : True := by (k_with_none; w_top off; trivial)
theorem kf2 : ∀ P h, (hd.heap_39 P).In h → PySem.Challenge.rw_gf0001_01 = PySem.Challenge.rw_gf0001_01 := by k_fill; intros; rfl
/-! the row told back, `_law_back`; the outer none is an error -/
abbrev BSt := List Int × Int × List Int
def bFill (st : BSt) (o : Int) : BSt := let k := (o + 1 - st.2.1).toNat; (st.1 ++ List.replicate k 40, st.2.1 + k, st.2.2 ++ rangeKs st.2.1 k)
def bStep (st : Option (Option BSt)) (o : Int) : Option (Option BSt) := match st with
  | none => none
  | some none => some none
  | some (some z) => let y := bFill z o; if y.2.2 = [] then none else if y.2.2.getLastD 0 = o then some (some (y.1 ++ [41], y.2.1, y.2.2.dropLast)) else some none
def bRun (l : List Int) : Option (Option BSt) := l.foldl bStep (some (some ([], 0, [])))
def bOut (l : List Int) : Option (Option (List Int)) := (bRun l).map fun z => z.map fun y => y.1
def bVal (l : List Int) (t : Tok) : Value := match bOut l with
  | some (some r) => .str (KStt.txt r) t
  | _ => .none
@[irreducible] def BInv (pre : List Int) (r : List Int) (h : Int) (p : List Int) : Prop := bRun pre = some (some (r, h, p))
@[irreducible] def BWh (o : Int) (r0 : List Int) (h0 : Int) (p0 : List Int) (r : List Int) (h : Int) (p : List Int) : Prop := ∃ j : Nat, r = r0 ++ List.replicate j 40 ∧ h = h0 + j ∧ p = p0 ++ rangeKs h0 j ∧ (j = 0 ∨ h0 + j ≤ o + 1)
theorem bInv_iff {pre r : List Int} {h : Int} {p : List Int} : BInv pre r h p ↔ bRun pre = some (some (r, h, p)) := by unfold BInv; exact Iff.rfl
theorem bRun_snoc (pre : List Int) (o : Int) : bRun (pre ++ [o]) = bStep (bRun pre) o := by simp [bRun]
theorem bRun_dead : ∀ l : List Int, l.foldl bStep (some none) = some none
  | [] => rfl
  | _ :: r => bRun_dead r
theorem bRun_err : ∀ l : List Int, l.foldl bStep none = none
  | [] => rfl
  | _ :: r => bRun_err r
theorem bInv_nil : BInv [] [] 0 [] := by rw [bInv_iff]; rfl
theorem rangeKs_zero (a : Int) : rangeKs a 0 = [] := rfl
theorem rangeKs_snoc (a : Int) (j : Nat) : rangeKs a (j + 1) = rangeKs a j ++ [a + (j : Int)] := by simp [rangeKs, List.range_succ]
theorem bWh_nil {o : Int} {r : List Int} {h : Int} {p : List Int} : BWh o r h p r h p := by
  unfold BWh
  exact ⟨0, by simp, by simp, by simp [rangeKs_zero], .inl rfl⟩
theorem bWh_step {o : Int} {r0 : List Int} {h0 : Int} {p0 r : List Int} {h : Int} {p : List Int} (hW : BWh o r0 h0 p0 r h p) (hc : h ≤ o) : BWh o r0 h0 p0 (r ++ [40]) (h + 1) (p ++ [h]) := by
  unfold BWh at *
  obtain ⟨j, rfl, rfl, rfl, hj⟩ := hW
  refine ⟨j + 1, ?_, by omega, ?_, .inr (by omega)⟩
  · rw [List.replicate_succ', List.append_assoc]
  · rw [rangeKs_snoc, List.append_assoc]
theorem bWh_done {o : Int} {r0 : List Int} {h0 : Int} {p0 r : List Int} {h : Int} {p : List Int} (hW : BWh o r0 h0 p0 r h p) (hc : ¬ h ≤ o) : bFill (r0, h0, p0) o = (r, h, p) := by
  unfold BWh at hW
  obtain ⟨j, rfl, rfl, rfl, hj⟩ := hW
  have : (o + 1 - h0).toNat = j := by omega
  simp only [bFill, this]
theorem bWh_len {o : Int} {r0 : List Int} {h0 : Int} {p0 r : List Int} {h : Int} {p : List Int} (hW : BWh o r0 h0 p0 r h p) : ∃ j : Nat, r.length = r0.length + j ∧ h = h0 + j ∧ p.length = p0.length + j ∧ (j = 0 ∨ h0 + j ≤ o + 1) := by
  unfold BWh at hW
  obtain ⟨j, rfl, rfl, rfl, hj⟩ := hW
  exact ⟨j, by simp, rfl, by simp [rangeKs_length], hj⟩
theorem bInv_facts : ∀ {pre r : List Int} {h : Int} {p : List Int}, (∀ o ∈ pre, o < 8) → BInv pre r h p → 0 ≤ h ∧ h ≤ 8 ∧ (r.length : Int) ≤ pre.length + h ∧ (p.length : Int) ≤ h := by
  intro pre
  induction pre using snocInd with
  | h0 => intro r h p _ hI; rw [bInv_iff] at hI; cases hI; simp
  | h1 pre c ih =>
    intro r h p hs hI
    rw [bInv_iff, bRun_snoc] at hI
    cases e : bRun pre with
    | none => rw [e] at hI; cases hI
    | some z =>
      rw [e] at hI
      cases z with
      | none => cases hI
      | some z =>
        obtain ⟨r₁, h₁, p₁⟩ := z
        have i1 := ih (fun o ho => hs o (List.mem_append_left _ ho)) (bInv_iff.mpr e)
        have hc := hs c (by simp)
        unfold bStep bFill at hI
        dsimp only at hI
        split at hI
        · cases hI
        · split at hI
          · cases hI
            simp only [List.length_append, List.length_replicate, List.length_cons, List.length_nil, List.length_dropLast, rangeKs_length]
            omega
          · cases hI
theorem getLastD_getD (p : List Int) (hp : 0 < p.length) : p.getLastD 0 = p.getD (-1 + (p.length : Int)).toNat 0 := by
  have e : (-1 + (p.length : Int)).toNat = p.length - 1 := by omega
  rw [e, List.getLastD_eq_getLast?, List.getLast?_eq_getElem?, List.getD_eq_getElem?_getD]
theorem bInv_shut {pre r : List Int} {h : Int} {p r1 : List Int} {h1 : Int} {p1 : List Int} {n : Int} (hI : BInv pre r h p) (hW : BWh n r h p r1 h1 p1) (hc : ¬ h1 ≤ n) (hp : 0 < p1.length) (hq : p1.getD (-1 + (p1.length : Int)).toNat 0 = n) :
    BInv (pre ++ [n]) (r1 ++ [41]) h1 (p1.take (p1.length - 1)) := by
  rw [bInv_iff] at hI ⊢
  have h2 : ¬ p1 = [] := by intro e; subst e; simp at hp
  rw [bRun_snoc, hI]
  simp only [bStep, bWh_done hW hc, h2, if_false, getLastD_getD p1 hp, hq, if_true, List.dropLast_eq_take]
theorem bInv_dead {O pre post r : List Int} {h : Int} {p r1 : List Int} {h1 : Int} {p1 : List Int} {n : Int} (he : O = pre ++ n :: post) (hI : BInv pre r h p) (hW : BWh n r h p r1 h1 p1) (hc : ¬ h1 ≤ n) (hp : 0 < p1.length) (hq : ¬ p1.getD (-1 + (p1.length : Int)).toNat 0 = n) :
    bOut O = some none := by
  rw [bInv_iff] at hI
  have h2 : ¬ p1 = [] := by intro e; subst e; simp at hp
  subst he
  unfold bOut bRun at *
  rw [List.foldl_append, hI, List.foldl_cons]
  have : bStep (some (some (r, h, p))) n = some none := by simp only [bStep, bWh_done hW hc, h2, if_false, getLastD_getD p1 hp, hq]
  rw [this, bRun_dead]; rfl
theorem bInv_some {O pre post r : List Int} {h : Int} {p r1 : List Int} {h1 : Int} {p1 : List Int} {n : Int} (he : O = pre ++ n :: post) (hne : bOut O ≠ none) (hI : BInv pre r h p) (hW : BWh n r h p r1 h1 p1) (hc : ¬ h1 ≤ n) : 0 < p1.length := by
  rw [bInv_iff] at hI
  refine Nat.pos_of_ne_zero fun hz => hne ?_
  have h2 : p1 = [] := List.length_eq_zero_iff.mp hz
  subst he
  unfold bOut bRun at *
  rw [List.foldl_append, hI, List.foldl_cons]
  have : bStep (some (some (r, h, p))) n = none := by simp only [bStep, bWh_done hW hc, h2, if_true]
  rw [this, bRun_err]; rfl
theorem back_done {Q : Value → Shared → Prop} {s : Shared} {O r : List Int} {h : Int} {p : List Int} {h' : Heap} {L : Addr} {m : Str → Option Value} {t : Tok} {tk : Nat}
    (hret : ∀ t h' tk', Kp s.heap h' → Q (bVal O t) { s with heap := h', toks := tk' }) (hI : BInv O r h p) (F : Fr s.heap L h' m) : Q (.str (KStt.txt r) t) { s with heap := h', toks := tk } := by
  have := hret t h' tk F.keep
  rw [bInv_iff] at hI
  simpa only [bVal, bOut, hI, Option.map_some] using this
theorem back_none {Q : Value → Shared → Prop} {s : Shared} {O : List Int} {h' : Heap} {L : Addr} {m : Str → Option Value} {tk : Nat}
    (hret : ∀ t h' tk', Kp s.heap h' → Q (bVal O t) { s with heap := h', toks := tk' }) (hI : bOut O = some none) (F : Fr s.heap L h' m) : Q .none { s with heap := h', toks := tk } := by
  have := hret 0 h' tk F.keep
  simpa only [bVal, hI] using this
theorem txt_open (l : List Int) : KStt.txt (l ++ [40]) = KStt.txt l ++ Str.ofString "(" := (KStt.txt_snoc l 40).trans (congrArg _ (by decide +kernel))
theorem txt_shut (l : List Int) : KStt.txt (l ++ [41]) = KStt.txt l ++ Str.ofString ")" := (KStt.txt_snoc l 41).trans (congrArg _ (by decide +kernel))
section
variable {w : World} {A : Around} {E : Value → Shared → Prop} {s : Shared} {h₀ : Heap} {L D : Addr} {news : List (Addr × Obj)} {vs : List Value} {ns : List Int} {n : Nat}
theorem ints_last : ∀ {vs : List Value} {ns : List Int}, IntsAre vs ns → 0 < ns.length → ∃ t, vs[ns.length - 1]? = some (.int (ns.getLastD 0) t) := by
  intro vs ns hi hne
  have hl := hi.length
  obtain ⟨x, hx⟩ : ∃ x, vs[ns.length - 1]? = some x := ⟨vs[ns.length - 1]'(by omega), List.getElem?_eq_getElem (by omega)⟩
  obtain ⟨k, t, rfl, hk⟩ := IntsAre.at hi _ x hx
  refine ⟨t, ?_⟩
  rw [hx, List.getLastD_eq_getLast?, List.getLast?_eq_getElem?, hk]
  rfl
theorem last_K {u : Tok} {value slice : Expr} {Q : Value → Shared → Prop} (N : News h₀ L s.heap news) (hm : (D, W.listOf vs.toArray n) ∈ news) (hi : IntsAre vs ns) (hne : 0 < ns.length) (hsz : ns.length ≤ 1000)
    (h : ∀ t, Q (.int (ns.getLastD 0) t) s)
    (hs : subscripted slice false (.ref D) (.int (-1) u) = operate [.ref D, .int (-1) u] (getItem (.ref D) (.int (-1) u)) := by with_unfolding_all rfl) :
    wpAny (model PR w) A (subscriptTail value slice (.ref D) (.int (-1) u)) Q E s := by
  have hl : s.heap.IsList D vs.toArray := ⟨_, (N _ hm).1, rfl, n, rfl⟩
  obtain ⟨t, ht⟩ := ints_last hi hne
  have hlen := hi.length
  refine tail_any hl.typeIs slot_list_getitem.lookup (wpAny_getItem_list_neg hl (by decide) (by rw [List.size_toArray]; omega) (by decide) (x := .int (ns.getLastD 0) t) ?_ (h t)) hs
  rw [List.getElem?_toArray, List.size_toArray]
  have : ((-1 : Int) + (vs.length : Int)).toNat = ns.length - 1 := by omega
  rw [this]; exact ht
end
local macro_rules | `(tactic| walk_at "subscriptTail") => `(tactic| (k_here; (with_reducible show wpAny _ _ (subscriptTail _ _ (Value.ref _) (Value.int (-1) _)) _ _ _); (refine last_K (by k_asm) (by k_mem) (by assumption) (by omega) (by omega) ?_); intro _))
set_option maxHeartbeats 400000 in
theorem back_ok (w : World) {loose : List Str} {mean : ExcName → Option Value} {mg mb : Str → Option Value} (oct : Array UInt8) (tb : Tok) (O : List Int) (hO : KBw.bInts oct = O) (hoct : O.length ≤ 8) (hsm : ∀ o ∈ O, o < 8) (hne : bOut O ≠ none)
   (Q E : Value → Shared → Prop) (s : Shared) (X : (hd.heap_39 w.params).In s.heap) (T : Top hd.view_39 loose mean mg mb s.heap)
   (hret : ∀ t h' tk', Kp s.heap h' → Q (bVal O t) { s with heap := h', toks := tk' }) :
   wpAny (model PR w) AA (call (.ref 68) [.bytes oct tb]) Q E s := by
  refine wpAny_call ?_
  refine' enter (fun y => if y = Str.ofString "order" then some (.bytes oct tb) else none) X T.nolimit ?k1 ?k2 ?k3 ?k4 ?k5 ?k6 ?c1 ?c2 ?c3 ?c4 ?k7
  case k1 => k_is
  case k2 => k_is
  case k3 => decide
  case k4 => exact BindsTo.of_eq rfl
  case k5 => exact locs rfl
  case c1 => rfl
  case c2 => rfl
  case c3 => rfl
  case c4 => decide
  case k6 => intro y; exact lk_cons
  intro h₁ tk F
  have N : News s.heap s.heap.objs.size h₁ [] := News.nil
  k_with "pyIter bytes" =>
    rename_i t0 lP ha la lD hb lb hc hd' he' hf' hF hN
    refine loopBytes (σ := List Int × Tok × Int × Tok × Addr × List Value × List Int × Nat)
      (fun c => [(c.2.2.2.2.1, W.listOf c.2.2.2.2.2.1.toArray c.2.2.2.2.2.2.2)]) (fun c => [(Str.ofString "row", .str (KStt.txt c.1) c.2.1), (Str.ofString "here", .int c.2.2.1 c.2.2.2.1), (Str.ofString "pile", .ref c.2.2.2.2.1)]) []
      (fun pre c => IntsAre c.2.2.2.2.2.1 c.2.2.2.2.2.2.1 ∧ BInv pre c.1 c.2.2.1 c.2.2.2.2.2.2.1) ([], t0, 0, t0 + 1, lP, [], [], 0) hO rfl hF (fun p hp => hN p (List.mem_cons_of_mem _ hp)) ?k1 ⟨.nil, ?k2⟩ ?k3 ?k4
    case k1 => kst_all
    case k2 => exact bInv_nil
    case' k3 =>
      clear hN hF
      rintro ⟨r, tr, h, th, P, pv, pi, pn⟩ pre post n t I oI u H tk he hn0 hn1 hoff ⟨hpi, hI⟩ F' N'
      dsimp only [envOf] at hoff F' N' hpi hI
      simp only [kstB, List.contains_nil, Bool.false_eq_true, if_false] at F'
      have hPI : P ≠ I := hoff _ (List.mem_singleton.mpr rfl)
      have hMk : KstMark := kstMark
      have hol := congrArg List.length he
      rw [List.length_append, List.length_cons] at hol
      have hfs := bInv_facts (fun o ho => hsm o (by rw [he]; exact List.mem_append_left _ ho)) hI
      have hn8 : n < 8 := hsm n (by rw [he]; simp)
    case' k4 =>
      clear hN hF
      rintro ⟨r, tr, h, th, P, pv, pi, pn⟩ u H tk ⟨hpi, hI⟩ F' N'
      dsimp only [envOf] at F' N' hpi hI
      simp only [kstB, List.contains_nil, Bool.false_eq_true, if_false] at F'
  k_with "exec While Compare cons nil" =>
    refine ksw_while (σ := List Int × Tok × Int × Tok × Addr × List Value × List Int × Nat)
      (fun c => [(c.2.2.2.2.1, W.listOf c.2.2.2.2.2.1.toArray c.2.2.2.2.2.2.2), (I, oI)]) (fun c => [(Str.ofString "row", .str (KStt.txt c.1) c.2.1), (Str.ofString "here", .int c.2.2.1 c.2.2.2.1), (Str.ofString "pile", .ref c.2.2.2.2.1)]) (fun c => IntsAre c.2.2.2.2.2.1 c.2.2.2.2.2.2.1 ∧ c.2.2.2.2.1 ≠ I) []
      (fun c => BWh n r h pi c.1 c.2.2.1 c.2.2.2.2.2.2.1) (fun c => (n + 1 - c.2.2.1).toNat) (r, tr, h, th, P, pv, pi, pn) F' ?w1 ⟨hpi, hPI⟩ ?w2 ?w3 ?w4
    case w1 => intro p hp; exact N' p (by simp only [List.mem_cons, List.not_mem_nil, or_false] at hp ⊢; exact hp.symm)
    case w2 => kst_all
    case w3 => exact bWh_nil
    case' w4 =>
      clear F' N'
      rintro ⟨r1, tr1, h1, th1, P1, pv1, pi1, pn1⟩ u1 H1 tk1 ⟨hpi1, hPI1⟩ hW F1 N1
      dsimp only at F1 N1 hpi1 hPI1 hW
      simp only [kstB, List.contains_nil, Bool.false_eq_true, if_false] at F1
      obtain ⟨j, hj1, hj2, hj3, hj4⟩ := bWh_len hW
      have hrl1 : (KStt.txt r1).length ≤ 60 := by rw [KStt.txt_length]; omega
      have hpl1 : pi1.length ≤ 60 := by omega
      by_cases hcmp : h1 ≤ n
    case' neg => have hpp : 0 < pi1.length := bInv_some he hne hI hW hcmp
  k_steps
  · exact back_done (s := s) hret hI (by assumption)
  · exact back_none (s := s) hret (bInv_dead he hI hW hcmp hpp (by assumption)) (by assumption)
  · rename_i z1 ea z2 zt z3 ea2 zD ws z4 hI' hC' hL' l1' zT z5 l1'' z6 z7 z8 hF hN
    rw [← txt_shut] at hF
    refine xEnd (⟨r1 ++ [41], zt, h1, th1, zD, ws, pi1.take (pi1.length - 1), 0⟩) hF hN (by k_mem) ?_ ?_ ⟨by kst_all, ?_⟩ ⟨hI', bInv_shut hI hW hcmp hpp ea⟩
    · intro p hp; rw [List.mem_singleton.mp hp]; k_mem
    · intro p hp; rw [List.mem_singleton.mp hp]; exact Nat.ne_of_gt l1'.2
    · kst_same
  · rename_i zt zk ea zl z6 l2 zD ws z5 hI' l1' zT z4 l1'' z3 z2 z1 z0 hF hN
    rw [← txt_open] at hF
    refine ksw_end (⟨r1 ++ [40], zt, h1 + 1, zk + 1, zD, ws, pi1 ++ [h1], 0⟩) hF hN ?_ ⟨hI', Nat.ne_of_gt l1'.2.2⟩ (by kst_all) (by ksw_same) (bWh_step hW hcmp) ?_
    · intro p hp
      rcases List.mem_cons.mp hp with rfl | hp
      · k_mem
      · rw [List.mem_singleton.mp hp]; k_mem
    · dsimp only; omega
end Mine
end
/-! Order -/
section
open PySem PySem.W PyProof.Rows PySem.Calls
namespace Mine
theorem words_Order : True := by (k_with_none; w_top off; trivial)
theorem kf3 : ∀ P h, (hd.heap_39 P).In h → PySem.Challenge.rw_gf0001_01 = PySem.Challenge.rw_gf0001_01 := by k_fill; intros; rfl
/-! `_law_order`: draws without putting back -/
def oStep (st : List Int × List Int) (n : Int) : List Int × List Int := (st.1.eraseIdx (n.fmod st.1.length).toNat, st.2 ++ [st.1.getD (n.fmod st.1.length).toNat 0])
def oRun (many : Int) (l : List Int) : List Int × List Int := l.foldl oStep (rangeKs 0 many.toNat, [])
def oOut (ns : List Int) (many : Int) : List Int := (oRun many ((ns ++ [0, 0, 0, 0]).take many.toNat)).2
def oVal (ns : List Int) (many : Int) (t : Tok) : Value := .bytes (byteArr (oOut ns many)) t
@[irreducible] def OInv (many : Int) (pre li fi : List Int) : Prop := oRun many pre = (li, fi)
theorem oInv_iff {many : Int} {pre li fi : List Int} : OInv many pre li fi ↔ oRun many pre = (li, fi) := by unfold OInv; exact Iff.rfl
theorem oRun_snoc (many : Int) (pre : List Int) (n : Int) : oRun many (pre ++ [n]) = oStep (oRun many pre) n := by simp [oRun]
theorem oInv_nil {many : Int} {li : List Int} (h : li = rangeKs 0 many.toNat) : OInv many [] li [] := by rw [oInv_iff, h]; rfl
theorem oInv_step {many n : Int} {pre li fi : List Int} (hI : OInv many pre li fi) : OInv many (pre ++ [n]) (li.eraseIdx (n.fmod li.length).toNat) (fi ++ [li.getD (n.fmod li.length).toNat 0]) := by
  rw [oInv_iff] at *
  rw [oRun_snoc, hI]; rfl
theorem fmod_in {n : Int} {k : Nat} (hk : 0 < k) : 0 ≤ n.fmod k ∧ n.fmod k < (k : Int) := by
  rw [Int.fmod_eq_emod_of_nonneg _ (by omega)]
  exact ⟨Int.emod_nonneg _ (by omega), Int.emod_lt_of_pos _ (by omega)⟩
theorem oInv_facts {many : Int} (hm1 : many < 5) : ∀ {pre li fi : List Int}, (pre.length : Int) ≤ many → OInv many pre li fi → (li.length : Int) = many - pre.length ∧ fi.length = pre.length ∧ KBa.In li ∧ KBa.In fi := by
  intro pre
  induction pre using snocInd with
  | h0 =>
    intro li fi hp hI
    rw [oInv_iff] at hI; cases hI
    rw [rangeKs_length]
    refine ⟨by simp at hp ⊢; omega, rfl, fun x hx => ?_, fun _ h => (nomatch h)⟩
    have := mem_rangeKs hx
    omega
  | h1 pre n ih =>
    intro li fi hp hI
    rw [List.length_append, List.length_singleton] at hp
    rw [oInv_iff, oRun_snoc] at hI
    cases e : oRun many pre with
    | mk l₁ f₁ =>
      obtain ⟨i1, i2, i3, i4⟩ := ih (by omega) (oInv_iff.mpr e)
      rw [e] at hI
      unfold oStep at hI
      dsimp only at hI
      cases hI
      have hf := fmod_in (n := n) (k := l₁.length) (by omega)
      have hlt : (n.fmod l₁.length).toNat < l₁.length := by omega
      rw [List.length_append, List.length_append, List.length_singleton, List.length_singleton, List.length_eraseIdx_of_lt hlt]
      refine ⟨by omega, by omega, fun x hx => i3 x (List.mem_of_mem_eraseIdx hx), fun x hx => ?_⟩
      rcases List.mem_append.mp hx with hx | hx
      · exact i4 x hx
      · rw [List.mem_singleton.mp hx, List.getD_eq_getElem?_getD, List.getElem?_eq_getElem hlt]
        exact i3 _ (List.getElem_mem hlt)
theorem order_done {Q : Value → Shared → Prop} {s : Shared} {ns : List Int} {many : Int} {li fi : List Int} {h' : Heap} {L : Addr} {m : Str → Option Value} {t : Tok} {tk : Nat}
    (hret : ∀ t h' tk', Kp s.heap h' → Q (oVal ns many t) { s with heap := h', toks := tk' }) (hI : OInv many ((ns ++ [0, 0, 0, 0]).take many.toNat) li fi) (F : Fr s.heap L h' m) : Q (.bytes (byteArr fi) t) { s with heap := h', toks := tk } := by
  have := hret t h' tk F.keep
  rw [oInv_iff] at hI
  simpa only [oVal, oOut, hI] using this
theorem kl_cut_at : ∀ (l : List Value) (k : Nat) (hk : k < l.length), kl_cut l k = some (l.take k, l[k], l.drop (k + 1))
  | [], _, h => absurd h (Nat.not_lt_zero _)
  | x :: r, 0, _ => rfl
  | x :: r, k + 1, h => by
    have h' : k < r.length := by simpa using h
    show (match kl_cut r k with | some (p, y, q) => some (x :: p, y, q) | none => none) = _
    rw [kl_cut_at r k h']
    rfl
theorem ints_erase : ∀ {us : List Value} {l : List Int}, IntsAre us l → ∀ k, IntsAre (us.eraseIdx k) (l.eraseIdx k)
  | _, _, .nil, _ => .nil
  | _, _, .cons _ _ r, 0 => r
  | _, _, .cons n t r, k + 1 => .cons n t (ints_erase r k)
section
variable {w : World} {A : Around} {E : Value → Shared → Prop} {s : Shared} {h₀ : Heap} {L D : Addr} {m : Str → Option Value} {news news' : List (Addr × Obj)} {us : List Value} {ns : List Int} {n : Nat}
theorem popAt_K {i : Int} {u : Tok} {Q : Value → Shared → Prop} (F : Fr h₀ L s.heap m) (N : News h₀ L s.heap news) (U : Upd D (W.listOf us.toArray n) (W.listOf (us.eraseIdx i.toNat).toArray (n + 1)) news news') (hi : IntsAre us ns) (h0 : 0 ≤ i) (h1 : i < (ns.length : Int))
    (hz : ns.length ≤ 1000) (h : ∀ h' t, Fr h₀ L h' m → News h₀ L h' news' → IntsAre (us.eraseIdx i.toNat) (ns.eraseIdx i.toNat) → Q (.int (ns.getD i.toNat 0) t) { s with heap := h' }) :
    wpAny (model PR w) A (call (.builtin "list.pop") [.ref D, .int i u]) Q E s := by
  have hlen := hi.length
  have hk : i.toNat < us.length := by omega
  obtain ⟨c, t, e1, e2⟩ := IntsAre.at hi i.toNat us[i.toNat] (List.getElem?_eq_getElem hk)
  have e3 : us.take i.toNat ++ us.drop (i.toNat + 1) = us.eraseIdx i.toNat := (List.eraseIdx_eq_take_drop_succ ..).symm
  refine kl_popAt (k := i.toNat) F N ?_ ?_ (by show kl_cut us i.toNat = _; exact kl_cut_at us i.toNat hk) (by rw [e3]; exact U) (by show us.length ≤ sizeLine; rw [sizeLine_eq]; omega) fun h' F' N' => ?_
  · unfold Builtin.List.listFitsIndex
    simp only [Bool.and_eq_true, decide_eq_true_eq]
    omega
  · unfold seqIndex?
    simp only [show ¬ i < 0 by omega, if_false]
    rw [if_pos (by simp only [List.size_toArray, Bool.and_eq_true, decide_eq_true_eq]; omega)]
  · have e4 : ns.getD i.toNat 0 = c := by rw [List.getD_eq_getElem?_getD, e2]; rfl
    rw [e1]
    have := h h' t F' N' (ints_erase hi _)
    rw [e4] at this
    exact this
end
local macro_rules | `(tactic| walk_at "call builtin:list.pop") => `(tactic| (k_here; (with_reducible show wpAny _ _ (call (Value.builtin _) [Value.ref _, Value.int _ _]) _ _ _); k_dflt (refine' popAt_K ?F ?N ?U ?i ?l ?g ?z ?_; (case F => k_asm); (case N => k_asm); (case U => k_upd); (case i => with_reducible assumption); (case l => exact (fmod_in (by assumption)).1); (case g => exact (fmod_in (by assumption)).2); (case z => omega)); (intro h' t' F' N' hI'; (try dsimp only [List.nil_append, List.cons_append] at N'))))
set_option maxHeartbeats 400000 in
theorem order_ok (w : World) {loose : List Str} {mean : ExcName → Option Value} {mg mb : Str → Option Value} (l : Addr) (vs : List Value) (ns : List Int) (many : Int) (tm : Tok) (hm0 : 0 ≤ many) (hm1 : many < 5) (hi : IntsAre vs ns) (hln : ns.length ≤ 63)
   (Q E : Value → Shared → Prop) (s : Shared) (hl : s.heap.IsList l vs.toArray) (X : (hd.heap_39 w.params).In s.heap) (T : Top hd.view_39 loose mean mg mb s.heap)
   (hret : ∀ t h' tk', Kp s.heap h' → Q (oVal ns many t) { s with heap := h', toks := tk' }) :
   wpAny (model PR w) AA (call (.ref 61) [.ref l, .int many tm]) Q E s := by
  refine wpAny_call ?_
  refine' enter (fun y => if y = Str.ofString "many" then some (.int many tm) else if y = Str.ofString "numbers" then some (.ref l) else none) X T.nolimit ?k1 ?k2 ?k3 ?k4 ?k5 ?k6 ?c1 ?c2 ?c3 ?c4 ?k7
  case k1 => k_is
  case k2 => k_is
  case k3 => decide
  case k4 => exact BindsTo.of_eq rfl
  case k5 => exact locs rfl
  case c1 => rfl
  case c2 => rfl
  case c3 => rfl
  case c4 => decide
  case k6 => intro y; exact lk_cons.trans (congrArg _ lk_cons)
  intro h₁ tk F
  have N : News s.heap s.heap.objs.size h₁ [] := News.nil
  k_with "state" => exact oInv_step (by assumption)
  k_with "exec For Name Subscript cons nil" =>
    rename Fr _ _ _ _ => lF'
    with_unfolding_all refine' For_invVF lF' ?k1 ?k2 ?_
    case k1 => exact rfl
    case k2 => exact rfl
  k_with "pyIter ref" =>
    rename_i t0 hz1 tk1 t1 t2 t3 rg a1 lL vL cL hz2 tk2 hIL l5 lF hz3 l4 lT hz4 l3 hz5 hz6 hz7 lZ hz8 l2 lS wS hz9 hIS l1 lD wD hz10 hF hN hID hC hLn l0
    have hcm : (List.take many.toNat (ns ++ [0, 0, 0, 0])).length = many.toNat := by
      rw [List.length_take, List.length_append]; simp only [List.length_cons, List.length_nil]; omega
    refine kst_listL (σ := List Value × List Int × Nat × List Value × List Int × Nat)
      (fun c => [(lD, W.listOf wD.toArray 0), (lF, W.listOf c.2.2.2.1.toArray c.2.2.2.2.2), (lL, W.listOf c.1.toArray c.2.2.1)]) (fun c => [])
      (fun c => IntsAre c.1 c.2.1 ∧ IntsAre c.2.2.2.1 c.2.2.2.2.1) [] (fun pre c => OInv many pre c.2.1 c.2.2.2.2.1) (vL, rangeKs 0 (many - 0).toNat, cL, [], [], 0) rfl (fun c => List.mem_cons_self) hID hF ?k3 ⟨hIL, .nil⟩ (fun _ h => nomatch h) ?k4 ?k5 ?k6
    case k3 => intro p hp; exact hN p (by simp only [List.mem_cons, List.not_mem_nil, or_false] at hp ⊢; rcases hp with h | h | h <;> simp only [h, true_or, or_true])
    case k4 => exact oInv_nil (by rw [Int.sub_zero])
    case' k5 =>
      clear hN hF
      rintro ⟨lv, li, ln, fv, fi, fn⟩ pre post n t u H tk own he hmem hoff ⟨hli, hfi⟩ hI F' N'
      dsimp only [envOf, List.map, List.cons_append, List.nil_append] at hoff F' N' hli hfi hI
      simp only [kstB, List.contains_nil, Bool.false_eq_true, if_false] at F'
      have hMk : KstMark := kstMark
      have hcl := congrArg List.length he
      rw [hcm, List.length_append, List.length_cons] at hcl
      have hfs := oInv_facts hm1 (by omega) hI
      have hlv := hli.length
      have hfv := hfi.length
      have hpos : 0 < li.length := by omega
    case' k6 =>
      clear hN hF
      rintro ⟨lv, li, ln, fv, fi, fn⟩ u H tk ⟨hli, hfi⟩ hI F' N'
      dsimp only [envOf] at F' N' hli hfi hI
      simp only [kstB, List.contains_nil, Bool.false_eq_true, if_false] at F'
      have hfs := oInv_facts hm1 (by rw [hcm]; omega) hI
      have hin : KBa.In fi := hfs.2.2.2
      have hlen : fi.length ≤ 64 := by rw [hfs.2.1, hcm]; omega
  k_steps
  exact order_done (s := s) hret hI (by assumption)
end Mine
end
/-! Rows -/
section
open PySem PySem.W PyProof.Rows PySem.Calls
namespace Mine
theorem words_Rows : True := by (k_with_none; w_top off; trivial)
theorem kf4 : ∀ P h, (hd.heap_39 P).In h → PySem.Challenge.rw_gf0001_01 = PySem.Challenge.rw_gf0001_01 := by k_fill; intros; rfl
def bitS (num k : Nat) : Str := if (num / 2 ^ k) % 2 = 0 then Str.ofString "(" else Str.ofString ")"
def rowS (size num : Nat) : Str := Txt.join (Str.ofString "") ((List.range size).map (bitS num))
def allRows (many : Nat) : List Str := (List.range (2 ^ (2 * many))).map (rowS (2 * many))
def cntP (many : Int) (r : Str) : Bool := decide (Txt.count r (Str.ofString "(") = many)
/-- the rows of `_law_rows` -/
def rowsP (many : Int) : List Str := (allRows many.toNat).filter (cntP many)
theorem pow_facts {many : Int} (hm0 : 0 ≤ many) (hm1 : many < 5) : Builtin.Range.small 0 (2 ^ (2 * many).toNat) 1 = true ∧ Builtin.Range.rangeSize 0 (2 ^ (2 * many).toNat) 1 = ((2 ^ (2 * many.toNat) : Nat) : Int) ∧ 2 ^ (2 * many.toNat) ≤ sizeLine ∧
    Builtin.Range.small 0 (2 * many) 1 = true ∧ Builtin.Range.rangeSize 0 (2 * many) 1 = ((2 * many.toNat : Nat) : Int) ∧ 2 * many.toNat ≤ sizeLine := by
  obtain rfl | rfl | rfl | rfl | rfl : many = 0 ∨ many = 1 ∨ many = 2 ∨ many = 3 ∨ many = 4 := by omega
  all_goals decide +kernel
theorem strsAre_snoc {vs : List Value} {xs : List Str} {y : Str} {t : Tok} (h : StrsAre vs xs) : StrsAre (vs ++ [.str y t]) (xs ++ [y]) := strsAre_append h (.cons y t .nil)
theorem bit_item (i j : Nat) : Txt.item (Str.ofString "()") (((0 + (i : Int)).fdiv (2 ^ (0 + (j : Int)).toNat)).fmod 2) = bitS i j := by
  rw [Int.zero_add, Int.zero_add, Int.toNat_natCast]
  have h1 : ((i : Int).fdiv (2 ^ j)) = ((i / 2 ^ j : Nat) : Int) := by
    rw [Int.fdiv_eq_ediv_of_nonneg _ (Int.pow_nonneg (by decide))]
    simp
  rw [h1, Int.fmod_eq_emod_of_nonneg _ (by decide)]
  unfold bitS
  rcases Nat.mod_two_eq_zero_or_one (i / 2 ^ j) with h | h
  · rw [if_pos h, show (((i / 2 ^ j : Nat) : Int) % 2) = 0 by omega]; decide
  · rw [if_neg (by omega), show (((i / 2 ^ j : Nat) : Int) % 2) = 1 by omega]; decide
theorem bitS_weight (i n : Nat) (hn : n ≤ 8) : (((List.range n).map (bitS i)).map (·.length)).sum + ((List.range n).map (bitS i)).length ≤ 1048576 := by
  have h : ∀ l : List Nat, ((l.map (bitS i)).map (·.length)).sum = l.length := by
    intro l
    induction l with
    | nil => rfl
    | cons k l ih =>
      rw [List.map_cons, List.map_cons, List.sum_cons, ih, List.length_cons]
      have : (bitS i k).length = 1 := by unfold bitS; split <;> rfl
      omega
  rw [h, List.length_map, List.length_range]
  omega
theorem cEndG {GI : Shared → Prop} {h₀ : Heap} {L I C D : Addr} {m : Str → Option Value} {s₁ : Shared} {oI oC oD : Obj} {news : List (Addr × Obj)} {α : Type} {rest : α → Prop} {y : α} {h' : Heap} {tk : Nat} {all : List (Addr × Obj)} (g : Array GenState)
    (hg : GI { s₁ with gens := g }) (F : Fr h₀ L h' m) (N : News h₀ L h' all) (sub : ∀ p ∈ (I, oI) :: (C, oC) :: (D, oD) :: news, p ∈ all) (r : rest y) :
    CEnd GI h₀ L m s₁ I oI C oC D oD news rest y { s₁ with heap := h', gens := g, toks := tk } := ⟨h', { s₁ with gens := g }, tk, rfl, ⟨g, rfl⟩, hg, F, fun p hp => N p (sub p hp), r⟩
/-- a mark at which the walk stops -/
def Stop (p : Prop) : Prop := p
theorem Stop.intro {p : Prop} (h : Stop p) : p := h
local macro_rules | `(tactic| walk_at "eval ListComp") => `(tactic| refine Stop.intro ?_)
local macro_rules | `(tactic| walk_at "call builtin:str.join") => `(tactic| refine Stop.intro ?_)
local macro_rules | `(tactic| walk_at "eval Name") => `(tactic| ((with_reducible show wpAny _ _ (eval (Expr.Name _ _) (compEnvC _ _ _ _)) _ _ _); refine' LCgL.ld_built (by k_asm) (by k_asm) (by k_asm) ?q1 ?q2 ?q3 ?_; (case q1 => k_is); (case q2 => boot_by_name); (case q3 => decide)))
set_option maxHeartbeats 400000 in
theorem rows_ok (w : World) {loose : List Str} {mean : ExcName → Option Value} {mg mb : Str → Option Value} (many : Int) (tm : Tok) (hm0 : 0 ≤ many) (hm1 : many < 5)
   (Q E : Value → Shared → Prop) (s : Shared) (X : (hd.heap_39 w.params).In s.heap) (T : Top hd.view_39 loose mean mg mb s.heap)
   (hret : ∀ D vs n h' tk', Kp s.heap h' → s.heap.get? D = none → h'.get? D = some (W.listOf vs n) → StrsAre vs.toList (rowsP many) → Q (.ref D) { s with heap := h', toks := tk' }) :
   wpAny (model PR w) AA (call (.ref 54) [.int many tm]) Q E s := by
  refine wpAny_call ?_
  refine' enterC (fun _ => none) (fun y => if y = Str.ofString "many" then some (.int many tm) else none) X T.nolimit ?k1 ?k2 ?k3 ?k4 ?k5 ?k6 ?k8 ?k9 ?c1 ?c2 ?c3 ?k7
  case k1 => k_is
  case k2 => k_is
  case k3 => decide
  case k4 => exact BindsTo.of_eq rfl
  case k5 => exact rfl
  case k6 => decide +kernel
  case k8 => rfl
  case k9 => rfl
  case c1 => rfl
  case c2 => rfl
  case c3 => rfl
  intro h₁ tk cells F N Y
  k_cells Y
  rename_i oo1 oo2 dd1 dd2
  rw [if_pos rfl] at dd2
  k_steps
  rename_i h₂ o1 F₂ N₂ d1
  refine' compCA (cl := [(Str.ofString "size", s.heap.objs.size + 1 + 1)]) (h₀ := s.heap) (L := s.heap.objs.size) (m := fun _ => none) (fun s' => s'.gens = s.gens) rfl ?sw ?clos ?cell ?push ?kind ?names ?hx ?hy ?hp ?body
  case sw => with_unfolding_all rfl
  case clos => with_unfolding_all rfl
  case cell => intro C; rfl
  case push => intro h; rfl
  case kind => rfl
  case names => decide
  case hx => rfl
  case hy => rfl
  case hp => rfl
  case body =>
    k_steps
    rename_i h₄ tk₄ t₁ u₁ v₁ hR F₄ N₄ hk₄
    obtain ⟨p1, p2, p3, p4, p5, p6⟩ := pow_facts hm0 hm1
    refine ⟨2 ^ (2 * many.toNat), fun i ys => StrsAre ys ((List.range i).map (rowS (2 * many.toNat))), _, _, 0, _, t₁, u₁, v₁, rfl, hR, p1, p2, rfl, F₄, N₄, p3, rfl, fun _ _ _ e => e, .nil, fun i ys h => by have := StrsAre.len_eq h; simp at this; omega, fun hp => ?turn, fun hp => ?fin⟩
    case turn =>
      rintro i v ys I oI C oC D Cc oc m₂ h tk₅ s₃ E' hi ⟨t, rfl⟩ hys hs₃ hg hC hcd F₅ N₅ o5 dd oCc
      clear F₄ N₄ hR hk₄
      refine wpAny_tests_nil ?_
      rw [if_pos rfl]
      clear hs₃
      k_steps
      unfold Stop
      refine' compG (cl := [(Str.ofString "number", Cc)]) (h₀ := s.heap) (L := s.heap.objs.size) (m := fun _ => none) (fun s' => s'.gens = s.gens) F₅ ?clos (by decide) rfl (by decide) rfl ?_
      case clos => with_unfolding_all rfl
      k_steps
      rename_i h₆ tk₆ t₆ u₆ v₆ hR₆ F₆ N₆ hk₆
      refine ⟨2 * many.toNat, _, fun j zs => StrsAre zs ((List.range j).map (bitS i)), _, .inr ⟨_, _, _, t₆, u₆, v₆, rfl, hR₆, p4, p5, rfl⟩, rfl, F₆, N₆, p6, hg, fun _ _ _ e => e, .nil, fun i ys h => by have := StrsAre.len_eq h; simp at this; omega, fun hp => ?turn2, fun hp => ?fin2⟩
      case turn2 =>
        rintro j v zs I' oI' C' oC' D' m₃ h tk₇ s₅ E' hj ⟨t', rfl⟩ hzs hs₅ hg₅ hC' hx' F₇ N₇ o7 dd'
        clear F₆ N₆ hR₆ hk₆ hs₅
        refine wpAny_tests_nil ?_
        rw [if_pos rfl]
        k_steps
        refine cEnd (s₁ := s₅) hg₅ F₇ N₇ (fun p hp => hp) ?_
        show StrsAre _ (List.map (bitS i) (List.range (j + 1)))
        rw [bit_item, List.range_succ, List.map_append]
        exact strsAre_snoc hzs
      case fin2 =>
        rintro D' h tk₇ zs s₅ ⟨g₅, rfl⟩ hg₅ F₇ N₇ o7 hzs
        clear F₆ N₆ hR₆ hk₆
        k_steps
        unfold Stop
        have hsz8 : 2 * many.toNat ≤ 8 := by omega
        refine join_listW ⟨_, (N₇ _ List.mem_cons_self).1, rfl, _, rfl⟩ (by simpa using hzs) (by decide) (bitS_weight _ _ hsz8) fun t₈ k₈ => ?_
        k_steps
        refine cEndG (s₁ := s₃) (GI := fun s' => s'.gens = s.gens) g₅ hg₅ F₇ N₇ (fun p hp => List.mem_cons_of_mem _ hp) ?_
        show StrsAre _ (List.map (rowS (2 * many.toNat)) (List.range (i + 1)))
        rw [List.range_succ, List.map_append]
        exact strsAre_snoc hys
    case fin =>
      rintro D' h tk₇ zs s₅ ⟨g₅, rfl⟩ hg₅ F₇ N₇ o7 hzs
      clear F₄ N₄ hR hk₄
      obtain rfl : g₅ = s.gens := hg₅
      k_steps
      unfold Stop
      refine' compG (cl := [(Str.ofString "many", s.heap.objs.size + 1)]) (h₀ := s.heap) (L := s.heap.objs.size) (fun s' => s'.gens = s.gens) F₇ ?clos (by decide) rfl (by decide) rfl ?_
      case clos => with_unfolding_all rfl
      k_steps
      have hzl := StrsAre.len_eq hzs
      rw [List.length_map, List.length_range] at hzl
      refine ⟨zs.toArray.size, _, fun j qs => StrsAre qs (((List.range j).map (rowS (2 * many.toNat))).filter (cntP many)), _, .inl ⟨_, _, rfl, .inr ⟨_, List.mem_cons_self, rfl, _, rfl⟩, rfl, rfl⟩, rfl, F₇, N₇, by rw [List.size_toArray, hzl]; exact p3, rfl, fun _ _ _ e => e, .nil, fun i ys h => by
        have h1 := StrsAre.len_eq h
        have h2 := List.length_filter_le (cntP many) ((List.range i).map (rowS (2 * many.toNat)))
        simp at h2
        omega, fun hp => ?turn3, fun hp => ?fin3⟩
      case turn3 =>
        rintro j v qs I' oI' C' oC' D₂ m₃ h₈ tk₈ s₆ E' hj hv hqs hs₆ hg₆ hC' hx' F₈ N₈ o8 dd'
        obtain ⟨y, ty, rfl, hy⟩ := StrsAre.item hzs j v (by simpa using hv)
        refine wpAny_tests_one ?_
        clear hs₆ F₇ N₇
        have hjlt : j < 2 ^ (2 * many.toNat) := by rw [← hzl]; simpa using hj
        have hyj : y = rowS (2 * many.toNat) j := by simpa [hjlt] using hy.symm
        have hstep : ((List.range (j + 1)).map (rowS (2 * many.toNat))).filter (cntP many) = ((List.range j).map (rowS (2 * many.toNat))).filter (cntP many) ++ (if cntP many y then [y] else []) := by
          rw [List.range_succ, List.map_append, List.filter_append, List.map_singleton, ← hyj]
          cases hc : cntP many y <;> simp [hc]
        k_steps
        · rename_i hcnt
          refine cEnd (s₁ := s₆) hg₆ F₈ N₈ (fun p hp => hp) ?_
          rw [hstep, if_pos (by simp [cntP, hcnt])]
          exact strsAre_snoc hqs
        · rename_i hcnt
          refine cEnd (s₁ := s₆) hg₆ F₈ N₈ (fun p hp => hp) ?_
          rw [hstep, if_neg (by simp [cntP, hcnt]), List.append_nil]
          exact hqs
      case fin3 =>
        rintro D₃ h₈ tk₈ qs s₆ ⟨g, rfl⟩ hg₆ F₈ N₈ o8 hqs
        clear F₇ N₇
        obtain rfl : g = s.gens := hg₆
        rw [List.size_toArray, hzl] at hqs
        k_steps
        exact hret D₃ qs.toArray _ h₈ _ F₈.keep (N₈ _ List.mem_cons_self).2.2 (N₈ _ List.mem_cons_self).1 hqs
end Mine
end
/-! Bs -/
section
open PySem PySem.W PyProof.Rows PySem.Calls
open Sem (wp)
namespace Mine
theorem words_Bs : True := by (k_with_none; w_top off; trivial)
namespace F
theorem mro_ba : mroOf (.type "bytearray") = pure [.type "bytearray", .type "object"] := by rw [mroOf_type]; kernel_rfl
theorem lookup_ba_new : typeLookup (.type "bytearray") "__new__" = pure (some (.builtin "bytearray.__new__")) := by rw [typeLookup_type, builtinLookup_eq_fast]; kernel_rfl
theorem sub_ba : isSubtype (.type "bytearray") (.type "bytearray") = pure true := by rw [isSubtype_type]; kernel_rfl
theorem slot_ba_init : Slot "bytearray" "__init__" "bytearray.__init__" :=
  .of (owner := "bytearray") (n := "__init__") (by rw [typeLookup_type, builtinLookup_eq_fast]; kernel_rfl) (by decide +kernel) (by decide +kernel) (by decide +kernel)
    (by first | exact .inl (by decide +kernel) | exact .inr (by decide +kernel)) sub_ba
theorem called_ba : TypeCalled "bytearray" "bytearray.__new__" "bytearray.__init__" :=
  ⟨by decide +kernel, by decide +kernel, ⟨_, _, mro_ba⟩, madeBy_type mro_ba lookup_ba_new (by decide +kernel), by decide +kernel, sub_ba, slot_ba_init⟩
theorem typeCall_ba (a : Value) : checkTypeCall "bytearray" ⟨[a], []⟩ = pure () := by kernel_rfl
theorem newCall_ba (a : Value) : checkBuiltinCall "bytearray.__new__" ⟨[.type "bytearray", a], []⟩ = pure () := by kernel_rfl
theorem entry_ba_new : entryFor table "bytearray.__new__" = some Builtin.«list.__new__» := entryFor_alias (id' := "list.__new__") (by kernel_rfl) (by first | rfl | decide +kernel) (by decide +kernel) (by kernel_rfl)
theorem plain_ba_new : plainId "bytearray.__new__" = true := by decide +kernel
theorem entry_ba_init : entryFor table "bytearray.__init__" = some Builtin.«bytearray.__init__» := entryFor_of_tree (by kernel_rfl)
theorem plain_ba_init : plainId "bytearray.__init__" = true := by decide +kernel
theorem args_ba_init (x a : Value) : argsOk "bytearray.__init__" ⟨[x, a], []⟩ := by unfold argsOk; kernel_rfl
theorem bind_ba_init (v : Value) : Builtin.Bytes.bindOptional "bytearray.__init__" "bytearray" ["source", "encoding", "errors"] [v] [] = pure [some v, none, none] := by kernel_rfl
theorem lookup_ba_release : typeLookup (.type "bytearray") "__release_buffer__" = pure (some (.builtin "bytearray.__release_buffer__")) := by rw [typeLookup_type, builtinLookup_eq_fast]; kernel_rfl
theorem lookup_int_index : typeLookup (.type "int") "__index__" = pure (some (.builtin "int.__index__")) := by rw [typeLookup_type, builtinLookup_eq_fast]; kernel_rfl
theorem ends_release : ("bytearray.__release_buffer__".endsWith ("." ++ "__release_buffer__")) = true := by decide +kernel
theorem drop_release : "bytearray.__release_buffer__".dropRight ("__release_buffer__".length + 1) = "bytearray" := by decide +kernel
set_option maxHeartbeats 4000000 in
theorem owner_ba_new : ("bytearray.__new__".splitOn ".__new__").headD "" = "bytearray" := by simp +decide [String.splitOn, String.splitOnAux]
end F
section
variable {prog : Program} {w : World} {A : Around} {E : Value → Shared → Prop} {s : Shared}
theorem code_ba_new (a : Value) {Q₁ : Value → Shared → Prop}
    (h : Q₁ (.ref s.heap.objs.size) { s with heap := s.heap.push { cls := .type "bytearray", data := .bytearray #[] } }) :
    codeAny (model prog w) A (.call (.builtin "bytearray.__new__") ⟨[.type "bytearray", a], []⟩) (wants Q₁ E) s := by
  refine codeAny_of_tree ?_
  show wpAny _ A.in1 (do checkBuiltinCall "bytearray.__new__" ⟨[.type "bytearray", a], []⟩; again (.builtin "bytearray.__new__" ⟨[.type "bytearray", a], []⟩)) _ _ s
  refine wpAny_bind (wpAny_of_eq (F.newCall_ba a) (wpAny_pure ⟨plainId_quiet F.plain_ba_new _, codeAny_builtin_stack F.entry_ba_new rfl fun p st => ?_⟩))
  rw [Around.under_plainId F.plain_ba_new _]
  have hsub := F.sub_ba
  have hown := F.owner_ba_new
  obtain ⟨hp, g, d, tk, os⟩ := s
  simp only [hown]
  wp_walk
  exact h
theorem ownRelease_ba {a : Addr} {Q : Bool → Shared → Prop} (hT : s.TypeIs (.ref a) "bytearray") (h : Q false s) : wpAny (model prog w) A (Builtin.Bytes.ownRelease (.ref a)) Q E s := by
  unfold Builtin.Bytes.ownRelease Builtin.Bytes.slotIsOwn
  refine wpAny_bind (wpAny_bind (wpAny_specialOf hT F.lookup_ba_release ?_))
  dsimp only
  rw [F.ends_release]
  refine bm_if_false rfl ?_
  rw [F.drop_release]
  exact wpAny_isInstance hT F.sub_ba (wpAny_pure h)
theorem write_ba {a : Addr} {b : Array UInt8} {f : Array UInt8 → Array UInt8} {Q : Unit → Shared → Prop} (ho : s.heap.get? a = some { cls := .type "bytearray", data := .bytearray b }) (hz : (f b).size ≤ sizeLine)
    (h : ∀ h', Heap.SameBut a s.heap h' → h'.get? a = some { cls := .type "bytearray", data := .bytearray (f b) } → Q () { s with heap := h' }) : wpAny (model prog w) A (Builtin.Bytes.write (.ref a) f) Q E s := by
  show wpAny _ _ (updateBytearray a f) _ _ _
  unfold updateBytearray
  refine wpAny_bind (wpAny_load ho ?_)
  show wpAny _ _ (update a (Obj.mapBytearray f) >>= fun _ => lookBehind a) _ _ _
  refine wpAny_bind (wpAny_update ho ?_)
  have hS₂ : (s.heap.update a (Obj.mapBytearray f)).get? a = some { cls := .type "bytearray", data := .bytearray (f b) } := Heap.get?_update_self (Obj.mapBytearray f) ho rfl
  refine wpAny_lookBehind hS₂ ?_ (h _ (Heap.SameBut.update ..) hS₂)
  show (if (f b).size > sizeLine then some "bytearray:memory" else none) = none
  rw [if_neg (Nat.not_lt.mpr hz)]
theorem ba_init {a : Addr} {n : Int} {t : Tok} {Q : Fin → Shared → Prop} (ho : s.heap.get? a = some { cls := .type "bytearray", data := .bytearray #[] }) (h0 : 0 < n) (h1 : n < 1000)
    (h : ∀ h', Heap.SameBut a s.heap h' → h'.get? a = some { cls := .type "bytearray", data := .bytearray (Array.replicate n.toNat 0) } → Q (.done (.ret .none)) { s with heap := h' }) :
    wpG (model prog w) A (Builtin.«bytearray.__init__» ⟨[.ref a, .int n t], []⟩) Q E s := by
  have hT : s.TypeIs (.ref a) "bytearray" := ⟨_, ho, rfl⟩
  unfold Builtin.«bytearray.__init__»
  refine wpG_step (ownRelease_ba hT ?_)
  rw [if_neg Bool.false_ne_true]
  rw [F.bind_ba_init]
  dsimp only
  refine wpG_step (wpAny_pure ?_)
  dsimp only
  refine wpG_step (wpAny_of_eq (a := ()) rfl ?_)
  refine wpG_step (wpAny_of_eq (a := ()) rfl ?_)
  refine wpG_bind ?_
  show wpG _ _ (Builtin.Bytes.exported (.ref a) >>= _) _ _ _
  refine wpG_bind (exported_no ?_)
  show wpG _ _ (Builtin.Bytes.exportsOf (.ref a) >>= _) _ _ _
  refine wpG_bind (wpG_of ?_)
  unfold Builtin.Bytes.exportsOf
  refine wpAny_bind (wpAny_load ho (wpAny_pure (wpG_pure (wpG_of ?_))))
  refine bm_if_false rfl ?_
  refine wpAny_bind (write_ba ho (Nat.zero_le _) fun h₁ hs₁ ho₁ => ?_)
  refine wpAny_bind (wpAny_of_eq (a := none) rfl ?_)
  refine bm_if_false rfl ?_
  refine wpAny_bind ?_
  refine bm_if_false rfl (bm_if_false rfl (wpAny_pure ?_))
  refine wpAny_bind (wpAny_specialOf (T := "int") (show Shared.TypeIs _ (.int n t) "int" from rfl) F.lookup_int_index ?_)
  refine bm_if_true rfl ?_
  refine wpAny_bind (wpAny_attempt (wpAny_of_eq (a := n) rfl ?_))
  dsimp only
  refine bm_if_false (by simp [Builtin.Bytes.fitsIndex]; omega) ?_
  rw [if_neg (by omega)]
  refine bm_if_false (by simp; omega) ?_
  refine bm_if_false (by simp [Builtin.Bytes.tooLong, sizeLine]; omega) ?_
  refine wpAny_bind (wpAny_rule ?_)
  rw [if_pos h0]
  refine wpAny_bind (write_ba ho₁ (by rw [Array.size_replicate]; show n.toNat ≤ sizeLine; unfold sizeLine; omega) fun h₂ hs₂ ho₂ => ?_)
  exact wpAny_pure (h h₂ (hs₁.trans hs₂) ho₂)
end
end Mine
end
/-! Bs2 -/
section
open PySem PySem.W PyProof.Rows PySem.Calls
open Sem (wp)
namespace Mine
local macro_rules | `(tactic| walk_at "no such key") => `(tactic| fail)
theorem words_Bs2 : True := by (k_with_none; w_top off; trivial)
section
variable {prog : Program} {w : World} {A : Around} {R : Result → Shared → Prop} {E : Value → Shared → Prop} {s : Shared}
theorem codeG_builtin {id : String} {args : Args} {b : Builtin} (hb : entryFor table id = some b)
    (h : wpG (model prog w) (A.under (.builtin id args)) (b args)
      (fun fin s' => match fin with | .done f => R (.ok f) s' | .again c' => c'.quiet = true ∧ decFree c' = true ∧ codeG (model prog w) A c' R s') (fun e s' => R (.error e) s') s) :
    codeG (model prog w) A (.builtin id args) R s := by
  refine codeG_of_tree ?_
  show wpG _ _ (match entryFor table id with | some b => b args | none => unsupported ((withoutEnding? id "#data").getD id)) _ _ s
  rw [hb]; exact h
theorem codeG_call_builtin {id : String} {args : Args} {b : Builtin} (hq : plainId id = true) (hd : decFree (.builtin id args) = true) (hb : entryFor table id = some b)
    (h : wpAny (model prog w) A.in1 (checkBuiltinCall id args) (fun _ s₁ => wpG (model prog w) A.in1 (b args)
      (fun fin s' => match fin with | .done f => R (.ok f) s' | .again c' => c'.quiet = true ∧ decFree c' = true ∧ codeG (model prog w) A c' R s') (fun e s' => R (.error e) s') s₁)
      (fun e s' => R (.error e) s') s) : codeG (model prog w) A (.call (.builtin id) args) R s := by
  refine codeG_of_tree ?_
  show wpG _ A.in1 (do checkBuiltinCall id args; again (.builtin id args)) _ _ s
  refine wpG_step (wpAny_mono h (fun _ s₁ h₁ => wpG_pure ⟨plainId_quiet hq args, hd, codeG_builtin hb ?_⟩) fun _ _ x => x)
  rw [Around.under_plainId hq args]; exact h₁
theorem wpG_if_false {α : Type} {M : Model} {c : Bool} {a b : Sem α} {Q : α → Shared → Prop} (hc : c = false) (h : wpG M A b Q E s) : wpG M A (if c = true then a else b) Q E s := by
  subst hc
  exact h
theorem call_bytearray {n : Int} {t : Tok} {Q : Value → Shared → Prop} (h0 : 0 < n) (h1 : n < 1000)
    (hQ : ∀ h' D, s.heap.get? D = none → h'.get? D = some { cls := .type "bytearray", data := .bytearray (Array.replicate n.toNat 0) } → (∀ b o, s.heap.get? b = some o → h'.get? b = some o) → Q (.ref D) { s with heap := h' }) :
    wpG (model prog w) A (call (.type "bytearray") [.int n t]) Q E s := by
  obtain ⟨c, tl, hmro⟩ := F.called_ba.mro
  refine wpG_call (codeG_of_tree ?_)
  show wpG _ _ (callAny (.type "bytearray") _) _ _ _
  refine wpG_pure ⟨Code.quiet_builtin _ (by decide +kernel), by show (!exportIds.contains "type.__call__") = true; decide +kernel, codeG_builtin PySem.F.entry_type_call ?_⟩
  rw [Around.under_plain (weight_type_call_type "bytearray" [.int n t] []) rfl]
  unfold Builtin.«type.__call__»
  dsimp only
  rw [F.called_ba.notType]
  refine wpG_if_false rfl ?_
  refine wpG_if_false F.called_ba.canCreate ?_
  refine wpG_step (wpAny_of_eq (F.typeCall_ba _) ?_)
  refine wpG_step (wpAny_of_eq F.mro_ba ?_)
  refine wpG_if_false rfl ?_
  refine wpG_step (wpAny_of_eq F.called_ba.made ?_)
  dsimp only
  refine wpG_step (wpAny_pure ?_)
  refine wpG_step (wpAny_holding (wpAny_call (codeAny_mono (code_ba_new (E := fun _ _ => False) (Q₁ := fun o s' => o = .ref s.heap.objs.size ∧ s' = { s with heap := s.heap.push { cls := .type "bytearray", data := .bytearray #[] } }) (.int n t) ⟨rfl, rfl⟩) fun r s' hr => ?_)))
  obtain ⟨rfl, rfl⟩ : r = .ok (.ret (.ref s.heap.objs.size)) ∧ s' = { s with heap := s.heap.push { cls := .type "bytearray", data := .bytearray #[] } } := by
    cases r with
    | error e => exact hr.elim
    | ok f => cases f with
      | ret v => obtain ⟨rfl, rfl⟩ := hr; exact ⟨rfl, rfl⟩
      | _ => exact hr.elim
  dsimp only
  have ho : (s.heap.push { cls := .type "bytearray", data := .bytearray #[] }).get? s.heap.objs.size = some { cls := .type "bytearray", data := .bytearray #[] } := Heap.get?_push_size _ rfl
  have hT : Shared.TypeIs { s with heap := s.heap.push { cls := .type "bytearray", data := .bytearray #[] } } (.ref s.heap.objs.size) "bytearray" := ⟨_, ho, rfl⟩
  refine wpG_step (wpAny_isInstance hT F.sub_ba ?_)
  refine wpG_if_false rfl ?_
  refine wpG_bind (wpG_holding ?_)
  unfold callSpecial?
  refine wpG_step (wpAny_specialOf hT F.slot_ba_init.lookup ?_)
  dsimp only
  refine wpG_holding ?_
  refine wpG_step (wpAny_of_eq (F.slot_ba_init.bind _) ?_)
  dsimp only
  refine wpG_bind (wpG_call (codeG_call_builtin F.plain_ba_init (by show (!exportIds.contains "bytearray.__init__") = true; decide +kernel) F.entry_ba_init (F.slot_ba_init.check _ _ _ _ _ _ _ _ hT (F.args_ba_init _ _) ?_)))
  refine ba_init ho h0 h1 fun h' hs ho' => ?_
  refine wpG_pure (wpG_if_false rfl (wpG_pure ?_))
  refine hQ h' _ (Heap.get?_none_of_le (Nat.le_refl _)) ho' fun b o e => hs.extBut b o (Nat.ne_of_lt (Heap.lt_size e)) (Heap.get?_push_of_some _ e)
end
end Mine
end
/-! Bs3 -/
section
open PySem PySem.W PyProof.Rows PySem.Calls
open Sem (wp)
namespace Mine
theorem words_Bs3 : True := by (k_with_none; w_top off; trivial)
namespace F
theorem slot_ba_setitem : Slot "bytearray" "__setitem__" "bytearray.__setitem__" :=
  .of (owner := "bytearray") (n := "__setitem__") (by rw [typeLookup_type, builtinLookup_eq_fast]; kernel_rfl) (by decide +kernel) (by decide +kernel) (by decide +kernel)
    (by first | exact .inl (by decide +kernel) | exact .inr (by decide +kernel)) sub_ba
theorem entry_ba_setitem : entryFor table "bytearray.__setitem__" = some Builtin.«bytearray.__setitem__» := entryFor_of_tree (by kernel_rfl)
theorem args_ba_setitem (a b c : Value) : argsOk "bytearray.__setitem__" ⟨[a, b, c], []⟩ := by unfold argsOk; kernel_rfl
theorem ba_no_bytes : typeLookup (.type "bytearray") "__bytes__" = pure none := by rw [typeLookup_type, builtinLookup_eq_fast]; kernel_rfl
theorem ba_no_index : typeLookup (.type "bytearray") "__index__" = pure none := by rw [typeLookup_type, builtinLookup_eq_fast]; kernel_rfl
theorem ba_buffer : typeLookup (.type "bytearray") "__buffer__" = pure (some (.builtin "bytearray.__buffer__")) := by rw [typeLookup_type, builtinLookup_eq_fast]; kernel_rfl
theorem rg_no_bytes : typeLookup (.type "range") "__bytes__" = pure none := by rw [typeLookup_type, builtinLookup_eq_fast]; kernel_rfl
theorem rg_no_index : typeLookup (.type "range") "__index__" = pure none := by rw [typeLookup_type, builtinLookup_eq_fast]; kernel_rfl
theorem rg_no_buffer : typeLookup (.type "range") "__buffer__" = pure none := by rw [typeLookup_type, builtinLookup_eq_fast]; kernel_rfl
theorem rg_len : typeLookup (.type "range") "__len__" = pure (some (.builtin "range.__len__")) := by rw [typeLookup_type, builtinLookup_eq_fast]; kernel_rfl
theorem rg_split : splitId "range.__len__" = some ("range", "__len__") := by decide +kernel
theorem sub_rg : isSubtype (.type "range") (.type "range") = pure true := by rw [isSubtype_type]; kernel_rfl
theorem ends_buffer : ("bytearray.__buffer__".endsWith ("." ++ "__buffer__")) = true := by decide +kernel
theorem drop_buffer : "bytearray.__buffer__".dropRight ("__buffer__".length + 1) = "bytearray" := by decide +kernel
end F
section
variable {prog : Program} {w : World} {A : Around} {E : Value → Shared → Prop} {s : Shared}
theorem setItem_ba {a : Addr} {b : Array UInt8} {i v : Int} {t u : Tok} {Q : Unit → Shared → Prop} (ho : s.heap.get? a = some { cls := .type "bytearray", data := .bytearray b })
    (h0 : 0 ≤ i) (hi : i < b.size) (hz : b.size ≤ sizeLine) (hv0 : 0 ≤ v) (hv1 : v < 256)
    (h : ∀ h', Heap.SameBut a s.heap h' → h'.get? a = some { cls := .type "bytearray", data := .bytearray (b.setIfInBounds i.toNat v.toNat.toUInt8) } → Q () { s with heap := h' }) :
    wpAny (model prog w) A (setItem (.ref a) (.int i t) (.int v u)) Q E s := by
  have hT : s.TypeIs (.ref a) "bytearray" := ⟨_, ho, rfl⟩
  unfold setItem
  try with_reducible refine wpAny_holding ?_
  first | refine wpAny_bind (wpAny_pure ?_) | skip
  refine wpAny_bind (wpAny_sequenceKey hT (by decide) ?_)
  refine wpAny_bind (wpAny_callSpecial?_slot (name := Str.ofString "__setitem__") hT F.slot_ba_setitem
    (wpAny_call_entry F.slot_ba_setitem hT F.entry_ba_setitem ?_ (F.args_ba_setitem _ _ _)))
  show wpAny _ _ (Builtin.Bytes.subscript? (.int i t) >>= _) _ _ s
  have hz' : i < 2 ^ 63 := by unfold sizeLine at hz; omega
  refine wpAny_bind ?_
  unfold Builtin.Bytes.subscript?
  refine wpAny_bind (wpAny_specialOf (T := "int") (show Shared.TypeIs _ (.int i t) "int" from rfl) F.lookup_int_index ?_)
  refine bm_if_false rfl ?_
  refine wpAny_bind (wpAny_of_eq (a := i) rfl ?_)
  refine bm_if_false (by simp [Builtin.Bytes.fitsIndex]; omega) (wpAny_pure ?_)
  dsimp only
  refine wpAny_bind ?_
  unfold Builtin.Bytes.byteValue
  refine wpAny_bind (wpAny_of_eq (a := v) rfl ?_)
  refine bm_if_false (by simp; omega) (wpAny_pure ?_)
  refine wpAny_bind ?_
  unfold Builtin.Bytes.payload Builtin.Bytes.payload?
  refine wpAny_bind (wpAny_bind (wpAny_load ho ?_))
  refine wpAny_pure (wpAny_pure ?_)
  rw [show seqIndex? i b.size = some i.toNat by
    unfold seqIndex?
    simp only [if_neg (show ¬ i < 0 by omega)]
    rw [if_pos (by simp; omega)]]
  refine wpAny_bind (write_ba ho (by rw [Array.size_setIfInBounds]; exact hz) fun h₁ hs₁ ho₁ => ?_)
  exact wpAny_pure ⟨.none, rfl, wpAny_pure (h h₁ hs₁ ho₁)⟩
theorem bytes_new_ba {a : Addr} {b : Array UInt8} {Q : Value → Shared → Prop} (ho : s.heap.get? a = some { cls := .type "bytearray", data := .bytearray b }) (hz : b.size ≤ sizeLine)
    (hQ : ∀ t k, Q (.bytes b t) { s with toks := k }) :
    codeAny (model prog w) A (.call (.builtin "bytes.__new__") ⟨[.type "bytes", .ref a], []⟩) (wants Q E) s := by
  have hT : s.TypeIs (.ref a) "bytearray" := ⟨_, ho, rfl⟩
  refine codeAny_of_tree ?_
  show wpAny _ A.in1 (do checkBuiltinCall "bytes.__new__" ⟨[.type "bytes", .ref a], []⟩; again (.builtin "bytes.__new__" ⟨[.type "bytes", .ref a], []⟩)) _ _ s
  refine wpAny_bind (wpAny_of_eq (PySem.F.bm_newCall _) (wpAny_pure ⟨plainId_quiet PySem.F.bm_plain _, codeAny_builtin PySem.F.bm_entry ?_⟩))
  rw [Around.under_plainId PySem.F.bm_plain _]
  unfold Builtin.«bytes.__new__»
  refine wpAny_bind (wpAny_of_eq (a := true) rfl ?_)
  refine bm_if_false rfl ?_
  refine wpAny_bind (wpAny_of_eq PySem.F.bm_sub ?_)
  refine bm_if_false rfl ?_
  refine wpAny_bind (wpAny_of_eq (PySem.F.bm_bind _) ?_)
  refine wpAny_bind (wpAny_of_eq (a := ()) rfl ?_)
  refine wpAny_bind (wpAny_of_eq (a := ()) rfl ?_)
  refine bm_if_false rfl ?_
  refine wpAny_bind (wpAny_specialOf hT F.ba_no_bytes ?_)
  refine wpAny_bind (wpAny_bind ?_)
  show wpAny _ _ (load a >>= _) _ _ _
  refine wpAny_bind (wpAny_load ho ?_)
  refine wpAny_pure (wpAny_pure ?_)
  refine bm_if_false rfl ?_
  refine wpAny_bind (wpAny_specialOf hT F.ba_no_index ?_)
  refine bm_if_true rfl ?_
  first
    | show wpAny _ _ (Builtin.Bytes.buffer? "bytes.__new__" (.ref a) true >>= _) _ _ _
    | (refine wpAny_bind ?_; show wpAny _ _ (Builtin.Bytes.buffer? "bytes.__new__" (.ref a) true >>= _) _ _ _)
  refine wpAny_bind ?_
  unfold Builtin.Bytes.buffer?
  refine wpAny_bind (wpAny_specialOf hT F.ba_buffer ?_)
  try dsimp only
  refine wpAny_bind ?_
  unfold Builtin.Bytes.slotIsOwn
  refine wpAny_bind (wpAny_specialOf hT F.ba_buffer ?_)
  try dsimp only
  rw [F.ends_buffer]
  refine bm_if_false rfl ?_
  rw [F.drop_buffer]
  refine wpAny_isInstance hT F.sub_ba ?_
  refine bm_if_false rfl ?_
  refine wpAny_bind (wpAny_specialOf hT F.ba_buffer ?_)
  try dsimp only
  refine wpAny_bind (ownRelease_ba hT ?_)
  refine bm_if_false rfl ?_
  refine wpAny_bind ?_
  unfold Builtin.Bytes.payload Builtin.Bytes.payload?
  refine wpAny_bind (wpAny_bind (wpAny_load ho ?_))
  refine wpAny_pure (wpAny_pure (wpAny_pure ?_))
  refine wpAny_bind (wpAny_rule ?_)
  refine wpAny_bind (wpAny_mkBytes ?_ hz)
  show wpAny _ _ (if (Value.type "bytes" == Value.type "bytes") = true then _ else _) _ _ _
  refine bm_if_true (by decide) ?_
  first
    | exact wpAny_pure (hQ _ _)
    | exact wpAny_bind (wpAny_pure (wpAny_pure (hQ _ _)))
theorem call_bytes_ba {a : Addr} {b : Array UInt8} {Q : Value → Shared → Prop} (ho : s.heap.get? a = some { cls := .type "bytearray", data := .bytearray b }) (hz : b.size ≤ sizeLine)
    (hQ : ∀ t k, Q (.bytes b t) { s with toks := k }) : wpAny (model prog w) A (call (.type "bytes") [.ref a]) Q E s := by
  refine callType_codes (Q₁ := fun obj s₁ => s₁.TypeIs obj "bytes" ∧ Q obj s₁) PySem.F.bm_called (PySem.F.bm_typeCall _) PySem.F.entry_object_init
    (bytes_new_ba ho hz fun t k => ⟨PySem.W.typeIs_bytes _ _ _, hQ t k⟩) fun obj s₁ h₁ => ?_
  exact ⟨h₁.1, PySem.F.args_object_init_2 obj _, object_init_meets PySem.F.bm_called.init.lookup PySem.F.bm_called.made (by decide) prog w A.in1 _ s₁ ⟨h₁.1, rfl, h₁.2⟩⟩
/-! bytes of a range -/
theorem bm_loopR {R : Result → Shared → Prop} {I S : Addr} {n : Nat} (hh : A.handled = none) (hn : n < 256) (hIS : I ≠ S) :
    ∀ (k i : Nat) (s : Shared), n - i = k → i ≤ n → IsRangeIter s.heap I ((i : Nat) : Int) ((n : Int) - (i : Nat)) 1 → s.heap.get? S = some { cls := .type "bytearray", data := .bytearray (byteArr ((List.range i).map Int.ofNat)) } →
      (∀ h' t k', (∀ b o, b ≠ I → b ≠ S → s.heap.get? b = some o → h'.get? b = some o) → R (.ok (.ret (.bytes (byteArr ((List.range n).map Int.ofNat)) t))) { s with heap := h', toks := k' }) →
      codeAny (model prog w) A (.builtin "bytes.__new__.loop" ⟨[.type "bytes", .ref I, .ref S], []⟩) R s := by
  have W : Walks prog w A.in1 I [I] [I] n (fun i v => ∃ t, v = .int ((0 : Int) + (i : Int)) t) (fun i h => IsRangeIter h I (0 + (i : Nat) * 1) ((n : Int) - (i : Nat)) 1) := LCg.range_walks (A := A.in1) hh 0 n
  have cast : ∀ (i : Nat) (h : Heap), IsRangeIter h I ((i : Nat) : Int) ((n : Int) - (i : Nat)) 1 → IsRangeIter h I (0 + (i : Nat) * 1) ((n : Int) - (i : Nat)) 1 := fun i h x => by rw [Int.mul_one, Int.zero_add]; exact x
  have cast' : ∀ (i : Nat) (h : Heap), IsRangeIter h I (0 + (i : Nat) * 1) ((n : Int) - (i : Nat)) 1 → IsRangeIter h I ((i : Nat) : Int) ((n : Int) - (i : Nat)) 1 := fun i h x => by rw [Int.mul_one, Int.zero_add] at x; exact x
  have hsz : ∀ i : Nat, (byteArr ((List.range i).map Int.ofNat)).size = i := fun i => by rw [byteArr_size, List.length_map, List.length_range]
  intro k
  induction k with
  | zero =>
    intro i s hk hle hit hS hR
    obtain rfl : i = n := by omega
    refine codeAny_builtin PySem.F.bm_entry_loop ?_
    rw [Around.under_plainId PySem.F.bm_plain_loop _]
    show wpAny _ A.in1 (pyNext (.ref I) >>= _) _ _ s
    refine wpAny_bind (W.done s _ _ (cast _ _ hit) fun h' tk' hk' => ?_)
    have hS' := hk' S _ (by simpa using Ne.symm hIS) hS
    refine wpAny_bind ?_
    unfold Builtin.Bytes.payload Builtin.Bytes.payload?
    refine wpAny_bind (wpAny_bind (wpAny_load hS' ?_))
    refine wpAny_pure (wpAny_pure ?_)
    refine wpAny_bind (wpAny_mkBytes ?_ (by rw [hsz]; unfold sizeLine; omega))
    show wpAny _ _ (if (Value.type "bytes" == Value.type "bytes") = true then _ else _) _ _ _
    refine bm_if_true (by decide) ?_
    have fin := fun t k' => hR h' t k' fun b o hb _ e => hk' b o (by simpa using hb) e
    first
      | exact wpAny_pure (fin _ _)
      | exact wpAny_bind (wpAny_pure (wpAny_pure (fin _ _)))
  | succ k ih =>
    intro i s hk hle hit hS hR
    have hlt : i < n := by omega
    refine codeAny_builtin PySem.F.bm_entry_loop ?_
    rw [Around.under_plainId PySem.F.bm_plain_loop _]
    show wpAny _ A.in1 (pyNext (.ref I) >>= _) _ _ s
    refine wpAny_bind (W.item i s _ _ hlt (cast _ _ hit) fun v h' tk' hP hit' hk' => ?_)
    obtain ⟨t, rfl⟩ := hP
    have hS' := hk' S _ (by simpa using Ne.symm hIS) hS
    refine wpAny_bind (wpAny_holding (wpAny_of_eq (rfl : asIndex (.int ((0 : Int) + (i : Int)) t) = pure ((0 : Int) + (i : Int))) ?_))
    refine wpAny_bind (wpAny_letGo ?_)
    refine bm_if_false (by simp only [Bool.or_eq_false_iff, decide_eq_false_iff_not]; omega) ?_
    refine wpAny_bind ?_
    refine write_ba (f := (·.push ((0 : Int) + (i : Int)).toNat.toUInt8)) hS' (by rw [Array.size_push, hsz]; unfold sizeLine; omega) fun h₂ hs₂ ho₂ => ?_
    refine wpAny_pure ⟨plainId_quiet PySem.F.bm_plain_loop _, ih (i + 1) { s with heap := h₂, toks := tk' } (by omega) hlt ?_ ?_ fun h3 t' k' hk3 => ?_⟩
    · have := cast' _ _ hit'
      exact hs₂.extBut _ _ hIS this
    · rw [ho₂, Int.zero_add, Int.toNat_natCast]
      simp [byteArr, List.range_succ]
    · exact hR h3 t' k' fun b o hbI hbS e => hk3 b o hbI hbS (hs₂.extBut b o hbS (hk' b o (by simpa using hbI) e))
theorem bytes_new_range {r : Addr} {n : Nat} {t u v : Tok} {Q : Value → Shared → Prop} (hh : A.handled = none) (hr : IsRange s.heap r 0 (n : Int) 1 t u v) (hn : n < 256)
    (hQ : ∀ h' t k, (∀ b o, s.heap.get? b = some o → h'.get? b = some o) → Q (.bytes (byteArr ((List.range n).map Int.ofNat)) t) { s with heap := h', toks := k }) :
    codeAny (model prog w) A (.call (.builtin "bytes.__new__") ⟨[.type "bytes", .ref r], []⟩) (wants Q E) s := by
  have hT : s.TypeIs (.ref r) "range" := ⟨_, hr, rfl⟩
  refine codeAny_of_tree ?_
  show wpAny _ A.in1 (do checkBuiltinCall "bytes.__new__" ⟨[.type "bytes", .ref r], []⟩; again (.builtin "bytes.__new__" ⟨[.type "bytes", .ref r], []⟩)) _ _ s
  refine wpAny_bind (wpAny_of_eq (PySem.F.bm_newCall _) (wpAny_pure ⟨plainId_quiet PySem.F.bm_plain _, codeAny_builtin PySem.F.bm_entry ?_⟩))
  rw [Around.under_plainId PySem.F.bm_plain _]
  unfold Builtin.«bytes.__new__»
  refine wpAny_bind (wpAny_of_eq (a := true) rfl ?_)
  refine bm_if_false rfl ?_
  refine wpAny_bind (wpAny_of_eq PySem.F.bm_sub ?_)
  refine bm_if_false rfl ?_
  refine wpAny_bind (wpAny_of_eq (PySem.F.bm_bind _) ?_)
  refine wpAny_bind (wpAny_of_eq (a := ()) rfl ?_)
  refine wpAny_bind (wpAny_of_eq (a := ()) rfl ?_)
  refine bm_if_false rfl ?_
  refine wpAny_bind (wpAny_specialOf hT F.rg_no_bytes ?_)
  refine wpAny_bind (wpAny_bind ?_)
  show wpAny _ _ (load r >>= _) _ _ _
  refine wpAny_bind (wpAny_load hr ?_)
  refine wpAny_pure (wpAny_pure ?_)
  refine bm_if_false rfl ?_
  refine wpAny_bind (wpAny_specialOf hT F.rg_no_index ?_)
  refine bm_if_true rfl ?_
  first
    | show wpAny _ _ (Builtin.Bytes.buffer? "bytes.__new__" (.ref r) true >>= _) _ _ _
    | (refine wpAny_bind ?_; show wpAny _ _ (Builtin.Bytes.buffer? "bytes.__new__" (.ref r) true >>= _) _ _ _)
  refine wpAny_bind ?_
  unfold Builtin.Bytes.buffer?
  refine wpAny_bind (wpAny_specialOf hT F.rg_no_buffer ?_)
  refine wpAny_bind (wpAny_specialOf hT F.rg_no_buffer ?_)
  refine wpAny_pure ?_
  have hsz : Builtin.Range.rangeSize 0 (n : Int) 1 = (n : Int) := by rw [rangeSize_one]; split <;> omega
  have hsm : Builtin.Range.small 0 (n : Int) 1 = true := small_one (by omega) (by omega) (by omega) (by omega)
  refine wpAny_bind (wpAny_tryCatch (wpAny_pyIter_range hr hsm ?_))
  rw [hsz]
  have hr₁ : (s.heap.push { cls := .type "range_iterator", data := .fields #[rawInt 0, rawInt (n : Int), rawInt 1] }).get? r = some _ := Heap.get?_push_of_some _ hr
  have hT₁ : ({ s with heap := s.heap.push { cls := .type "range_iterator", data := .fields #[rawInt 0, rawInt (n : Int), rawInt 1] } } : Shared).TypeIs (.ref r) "range" := ⟨_, hr₁, rfl⟩
  refine wpAny_bind (wpAny_holding ?_)
  unfold Builtin.Bytes.lengthHint
  refine wpAny_bind (wpAny_specialOf hT₁ F.rg_len ?_)
  dsimp only
  rw [F.rg_split]
  dsimp only
  refine wpAny_bind (wpAny_isInstance hT₁ F.sub_rg ?_)
  refine bm_if_false rfl ?_
  refine bm_if_false (by decide +kernel) ?_
  refine bm_if_true rfl ?_
  refine wpAny_bind (wpAny_rule ?_)
  refine wpAny_bind (wpAny_attempt (call_len_range (n := n) hr₁ hsz (by omega) ?_))
  dsimp only
  refine wpAny_bind (wpAny_of_eq (a := some (n : Int)) rfl ?_)
  dsimp only
  refine bm_if_false (by simp [Builtin.Bytes.tooLong, sizeLine]; omega) (wpAny_pure ?_)
  refine wpAny_bind ?_
  unfold Builtin.Bytes.newBytearray
  refine wpAny_newObj_type ?_ (Nat.zero_le _)
  have hI : IsRangeIter ((s.heap.push { cls := .type "range_iterator", data := .fields #[rawInt 0, rawInt (n : Int), rawInt 1] }).push { cls := .type "bytearray", data := .bytearray #[] }) s.heap.objs.size ((0 : Nat) : Int) ((n : Int) - (0 : Nat)) 1 := by
    show Heap.get? _ _ = some _
    rw [Heap.get?_push_of_some _ (Heap.get?_push_size _ rfl)]
    simp
  have hsz2 : (s.heap.push { cls := .type "range_iterator", data := .fields #[rawInt 0, rawInt (n : Int), rawInt 1] }).objs.size = s.heap.objs.size + 1 := Heap.size_push _ _
  have main := bm_loopR (prog := prog) (w := w) (A := A) (R := wants Q E) (I := s.heap.objs.size) (S := (s.heap.push { cls := .type "range_iterator", data := .fields #[rawInt 0, rawInt (n : Int), rawInt 1] }).objs.size) hh hn (by rw [hsz2]; exact Nat.ne_of_lt (Nat.lt_succ_self _))
    n 0 { s with heap := (s.heap.push { cls := .type "range_iterator", data := .fields #[rawInt 0, rawInt (n : Int), rawInt 1] }).push { cls := .type "bytearray", data := .bytearray #[] }, toks := s.toks + 1 + 1 } rfl (Nat.zero_le _) hI (Heap.get?_push_size _ rfl)
    fun h' t k hk => hQ h' t k fun b o e => hk b o (Nat.ne_of_lt (Heap.lt_size e)) (by rw [hsz2]; exact Nat.ne_of_lt (Nat.lt_succ_of_lt (Heap.lt_size e))) (Heap.get?_push_of_some _ (Heap.get?_push_of_some _ e))
  first
    | exact wpAny_pure ⟨plainId_quiet PySem.F.bm_plain_loop _, main⟩
    | exact wpAny_pure (wpAny_pure ⟨plainId_quiet PySem.F.bm_plain_loop _, main⟩)
theorem call_bytes_range {r : Addr} {n : Nat} {t u v : Tok} {Q : Value → Shared → Prop} (hh : A.handled = none) (hr : IsRange s.heap r 0 (n : Int) 1 t u v) (hn : n < 256)
    (hQ : ∀ h' t k, (∀ b o, s.heap.get? b = some o → h'.get? b = some o) → Q (.bytes (byteArr ((List.range n).map Int.ofNat)) t) { s with heap := h', toks := k }) : wpAny (model prog w) A (call (.type "bytes") [.ref r]) Q E s := by
  refine callType_codes (Q₁ := fun obj s₁ => s₁.TypeIs obj "bytes" ∧ Q obj s₁) PySem.F.bm_called (PySem.F.bm_typeCall _) PySem.F.entry_object_init
    (bytes_new_range (A := A.in1) hh hr hn fun h' t k hk => ⟨PySem.W.typeIs_bytes _ _ _, hQ h' t k hk⟩) fun obj s₁ h₁ => ?_
  exact ⟨h₁.1, PySem.F.args_object_init_2 obj _, object_init_meets PySem.F.bm_called.init.lookup PySem.F.bm_called.made (by decide) prog w A.in1 _ s₁ ⟨h₁.1, rfl, h₁.2⟩⟩
end
end Mine
end
/-! Bix -/
section
open PySem PySem.W PyProof.Rows PySem.Calls
namespace Mine
local macro_rules | `(tactic| walk_at "no such key") => `(tactic| fail)
theorem words_Bix : True := by (k_with_none; w_top off; trivial)
namespace F
theorem slot_by_index : Slot "bytes" "index" "bytes.index" :=
  .of (owner := "bytes") (n := "index") (by rw [typeLookup_type, builtinLookup_eq_fast]; kernel_rfl) (by decide +kernel) (by decide +kernel) (by decide +kernel)
    (by first | exact .inl (by decide +kernel) | exact .inr (by decide +kernel)) (by rw [isSubtype_type]; kernel_rfl)
theorem type_by_index : typeOf (.builtin "bytes.index") = pure (.type "method_descriptor") := by show builtinType _ = _; rw [builtinType_eq_fast]; kernel_rfl
theorem entry_by_index : entryFor table "bytes.index" = some Builtin.«bytes.index» := entryFor_of_tree (by kernel_rfl)
theorem args_by_index (a b : Value) : argsOk "bytes.index" ⟨[a, b], []⟩ := by unfold argsOk; kernel_rfl
theorem int_no_buffer : typeLookup (.type "int") "__buffer__" = pure none := by rw [typeLookup_type, builtinLookup_eq_fast]; kernel_rfl
end F
theorem meets_by_index {b : Array UInt8} {t u : Tok} {k : Int} {i : Nat} (h0 : 0 ≤ k) (h1 : k < 256) (hi : Builtin.Bytes.find? b #[k.toNat.toUInt8] 0 b.size = some i) (hb : 1 ≤ b.size) :
    Meets (Builtin.«bytes.index» ⟨[.bytes b t, .int k u], []⟩) (fun _ R s => ∀ t' tk, R (.ok (.ret (.int (i : Int) t'))) { s with toks := tk }) := by
  refine .of_wp fun prog w A R s hS => ?_
  have hT : s.TypeIs (.int k u) "int" := rfl
  unfold Builtin.«bytes.index» Builtin.Bytes.searchM
  refine wpAny_bind ?_
  unfold Builtin.Bytes.searchArgs
  refine wpAny_bind (wpAny_of_eq (a := (.bytes b t, [.int k u])) rfl ?_)
  refine wpAny_bind (wpAny_of_eq (a := none) rfl ?_)
  refine wpAny_bind (wpAny_of_eq (a := none) rfl ?_)
  dsimp only [List.headD]
  refine wpAny_bind ?_
  unfold Builtin.Bytes.buffer?
  refine wpAny_bind (wpAny_specialOf hT F.int_no_buffer ?_)
  dsimp only
  refine wpAny_bind (wpAny_specialOf hT F.int_no_buffer ?_)
  refine wpAny_pure ?_
  dsimp only
  refine wpAny_bind (wpAny_specialOf hT F.lookup_int_index ?_)
  refine bm_if_false rfl ?_
  refine wpAny_bind (wpAny_of_eq (a := k) rfl ?_)
  refine bm_if_false (by simp; omega) ?_
  refine wpAny_bind (wpAny_pure ?_)
  refine wpAny_bind (wpAny_of_eq (a := b) rfl ?_)
  refine wpAny_pure ?_
  dsimp only
  have ew : Builtin.Bytes.window b.size none none = ((0 : Int), (b.size : Int)) := by
    unfold Builtin.Bytes.window
    show ((if (0 : Int) < 0 then _ else (0 : Int)), min (b.size : Int) (if (b.size : Int) < 0 then _ else (b.size : Int))) = _
    rw [if_neg (by omega), if_neg (by omega), Int.min_self]
  rw [ew]
  dsimp only
  rw [if_neg (by show ¬ ((b.size : Int) - 0 < ((1 : Nat) : Int)); omega)]
  show wpAny _ _ (match Builtin.Bytes.find? b #[k.toNat.toUInt8] ((0 : Int).toNat) ((b.size : Int).toNat) with
    | some i => retInt ↑i
    | none => do
      rule (toString Builtin.Bytes.Kind.bytes.name ++ toString "." ++ toString "index" ++ toString ".not-found")
      if true = true then raiseErrorWords "ValueError" "subsection not found" else retInt (-1)) _ _ s
  rw [Int.toNat_natCast, Int.toNat_zero, hi]
  exact wpAny_bind (wpAny_mkInt (wpAny_pure ⟨_, rfl, hS _ _⟩))
section
variable {prog : Program} {w : World} {A : Around} {E : Value → Shared → Prop} {s : Shared}
theorem getMethod_by_index {M : Model} {b : Array UInt8} {t : Tok} {pl : Sem Bool} {Q : Value × List Value → Shared → Prop} (h : Q (.builtin "bytes.index", [.bytes b t]) s) : wpAny M A (getMethod (.bytes b t) "index" pl) Q E s := by
  with_reducible exact KBd.method_of (.bytes b t) (typeIs_bytes _ _ _) F.slot_by_index F.type_by_index KBd.noRef h
theorem call_by_index {b : Array UInt8} {t u : Tok} {k : Int} {i : Nat} {Q : Value → Shared → Prop} (h0 : 0 ≤ k) (h1 : k < 256) (hi : Builtin.Bytes.find? b #[k.toNat.toUInt8] 0 b.size = some i) (hb : 1 ≤ b.size)
    (h : ∀ t' tk, Q (.int (i : Int) t') { s with toks := tk }) : wpAny (model prog w) A (call (.builtin "bytes.index") [.bytes b t, .int k u]) Q E s :=
  call_meets F.slot_by_index (typeIs_bytes _ _ _) F.entry_by_index (F.args_by_index _ _) (meets_by_index h0 h1 hi hb) h
/-! bytes in a list of bytes -/
def isBy (b : Array UInt8) : Value → Bool
  | .bytes c _ => decide (c.toList = b.toList)
  | _ => false
theorem eqGives_bytes (c b : Array UInt8) (t u : Tok) : MeetsSeq.EqGives (.bytes c t) (.bytes b u) (decide (c.toList = b.toList)) := fun _ _ _ _ _ _ h => eqBool_bytes h
/-- a list of bytes values -/
inductive BAre : List Value → List (List Int) → Prop
  | nil : BAre [] []
  | cons {x : List Int} {t : Tok} {vs : List Value} {xs : List (List Int)} : BAre vs xs → BAre (Value.bytes (byteArr x) t :: vs) (x :: xs)
theorem BAre.eqs {vs : List Value} {xs : List (List Int)} (h : BAre vs xs) (b : Array UInt8) (u : Tok) : ∀ y, y ∈ vs → MeetsSeq.EqGives y (.bytes b u) (isBy b y) := by
  induction h with
  | nil => intro y hy; exact nomatch hy
  | cons _ ih =>
    intro y hy
    rcases List.mem_cons.mp hy with rfl | hy
    · exact eqGives_bytes _ _ _ _
    · exact ih y hy
theorem BAre.any {vs : List Value} {xs : List (List Int)} (h : BAre vs xs) (b : Array UInt8) : vs.any (isBy b) = xs.any fun g => decide ((byteArr g).toList = b.toList) := by
  induction h with
  | nil => rfl
  | cons _ ih => rw [List.any_cons, List.any_cons, ih]; rfl
theorem in_list_bytes {l : Addr} {vs : List Value} {xs : List (List Int)} {b : Array UInt8} {u : Tok} {Q : Value → Shared → Prop} (hl : s.heap.IsList l vs.toArray) (hi : BAre vs xs)
    (h : Q (.bool (xs.any fun g => decide ((byteArr g).toList = b.toList))) s) : wpAny (model prog w) A (compareOp .In (.bytes b u) (.ref l)) Q E s :=
  SeqInW.in_listW (isBy b) (fun y hy => hi.eqs b u y (by simpa using hy)) hl (by rw [← Array.any_toList, show vs.toArray.toList = vs from rfl, hi.any b]; exact h)
end
end Mine
end
/-! Swap -/
section
open PySem PySem.W PyProof.Rows PySem.Calls
namespace Mine
theorem words_Swap : True := by (k_with_none; w_top off; trivial)
theorem kfs : ∀ P h, (hd.heap_39 P).In h → PySem.Challenge.rw_gf0001_01 = PySem.Challenge.rw_gf0001_01 := by k_fill; intros; rfl
section
variable {prog : Program} {w : World} {A : Around} {E : Value → Shared → Prop} {s : Shared} {env : Env}
theorem G_Assign_Name {x : Str} {pos' pos : Pos} {value : Expr} {Q : Flow → Shared → Prop}
    (h : wpG (model prog w) A (eval value env) (fun v s₁ => wpAny (model prog w) A (storeName env x v) (fun _ => Q .next) E s₁) E s)
    (hs : swapsWith value (some (.Name x pos')) pos.line env = pure false := by rfl) :
    wpG (model prog w) A (exec (.Assign [.Name x pos'] value pos) env) Q E s := by
  rw [exec_Assign_Name env x pos' value pos hs]
  refine wpG_step (wpAny_standAt (wpG_bind (wpG_mono h (fun v s₁ h₁ => ?_) fun _ _ x => x)))
  exact wpG_step (wpAny_standAt (wpG_step (wpAny_bindName (wpAny_mono h₁ (fun _ _ h₂ => wpG_pure h₂) fun _ _ x => x))))
theorem G_Call_Name {id : Str} {p pos : Pos} {args : List Expr} {Q : Value → Shared → Prop}
    (h : wpAny (model prog w) A (eval (.Name id p) env) (fun f s₁ => wpG (model prog w) A (callWith pos f [] (backTo pos (starEach args env)) []) Q E s₁) E s) :
    wpG (model prog w) A (eval (.Call (.Name id p) args [] pos) env) Q E s := by
  rw [arm_eval_Call_Name']
  exact wpG_step h
theorem G_callWith_type {pos : Pos} {T : String} {args : List (Bool × Sem Value)} {Q : Value → Shared → Prop} (hplain : args.any (·.1) = false)
    (h : wpAny (model prog w) A (evalArgs (.type T) true args []) (fun a s₁ => wpG (model prog w) A (call (.type T) a.pos a.kw) Q E s₁) E s) :
    wpG (model prog w) A (callWith pos (.type T) [] args []) Q E s := by
  unfold callWith
  refine wpG_step (wpAny_holding (wpAny_mono h (fun a s₁ h₁ => wpG_step (wpAny_standAt ?_)) fun _ _ x => x))
  simp only [hplain, List.any_nil, Bool.or_false]
  refine wpG_step (wpAny_pure ?_)
  exact wpG_bind (wpG_mono h₁ (fun r s₂ hr => wpG_step (wpAny_holding (wpAny_point (wpG_pure hr)))) fun _ _ x => x)
theorem wpG_keep {α : Type} {M : Model} {vs : List Value} {m : Sem α} {Q : α → Shared → Prop} (h : wpG M A m Q E s) : wpG M A (m.keep vs) Q E s := fun Γ p hΓ hk => by rw [Sem.wp_keep]; exact h Γ p hΓ hk
theorem G_callWith_def {pos : Pos} {a : Addr} {o : Obj} {fd : FuncData} {args : List (Bool × Sem Value)} {Q : Value → Shared → Prop} (hplain : args.any (·.1) = false) (hlen : args.length ≤ 30)
    (h : wpAny (model prog w) A (evalArgs (.ref a) true args []) (fun x s₁ => (s₁.heap.get? a = some o ∧ o.data = .func fd) ∧ wpG (model prog w) A (call (.ref a) x.pos x.kw) Q E s₁) E s) :
    wpG (model prog w) A (callWith pos (.ref a) [] args []) Q E s := by
  unfold callWith
  refine wpG_step (wpAny_holding (wpAny_mono h (fun x s₁ h₁ => wpG_step (wpAny_standAt ?_)) fun _ _ x => x))
  simp only [hplain, List.any_nil, Bool.or_false]
  refine wpG_step ?_
  unfold keeperOf
  refine wpAny_bind (wpAny_load h₁.1.1 ?_)
  rw [h₁.1.2]
  refine wpAny_pure ?_
  dsimp only
  rw [if_neg (by simp; omega)]
  unfold callMarked
  exact wpG_bind (wpG_keep (wpG_mono h₁.2 (fun r s₂ hr => wpG_step (wpAny_holding (wpAny_point (wpG_pure hr)))) fun _ _ x => x))
theorem G_callWith_type1 {pos : Pos} {T : String} {e : Expr} {rest : List Expr} {Q : Value → Shared → Prop}
    (h : wpAny (model prog w) A (spliced (backTo pos (starEach (e :: rest) env))) (fun vs s₁ => wpG (model prog w) A (call (.type T) vs) Q E s₁) E s)
    (he : starEach (e :: rest) env = (false, eval e env) :: starEach rest env := by rfl)
    (hplain : (backTo pos (starEach rest env)).any (·.1) = false := by rfl) :
    wpG (model prog w) A (callWith pos (.type T) [] (backTo pos (starEach (e :: rest) env)) []) Q E s := by
  rw [he] at h ⊢
  exact G_callWith_type (by show (false || (backTo pos (starEach rest env)).any (·.1)) = false; rw [hplain]; rfl) (Calls.evalArgs_plain h)
theorem G_callWith_def1 {pos : Pos} {f : Addr} {o : Obj} {fd : FuncData} {e : Expr} {rest : List Expr} {Q : Value → Shared → Prop} (hdat : o.data = .func fd)
    (h : wpAny (model prog w) A (spliced (backTo pos (starEach (e :: rest) env))) (fun vs s₁ => s₁.heap.get? f = some o ∧ wpG (model prog w) A (call (.ref f) vs) Q E s₁) E s)
    (he : starEach (e :: rest) env = (false, eval e env) :: starEach rest env := by rfl)
    (hplain : (backTo pos (starEach rest env)).any (·.1) = false := by rfl) (hlen : (backTo pos (starEach rest env)).length ≤ 29 := by decide) :
    wpG (model prog w) A (callWith pos (.ref f) [] (backTo pos (starEach (e :: rest) env)) []) Q E s := by
  rw [he] at h ⊢
  exact G_callWith_def (o := o) (fd := fd) (by show (false || (backTo pos (starEach rest env)).any (·.1)) = false; rw [hplain]; rfl) (by show (backTo pos (starEach rest env)).length + 1 ≤ 30; omega)
    (Calls.evalArgs_plain (wpAny_mono h (fun vs s₁ h₁ => ⟨⟨h₁.1, hdat⟩, h₁.2⟩) fun _ _ x => x))
end
section
variable {w : World} {A : Around} {s : Shared} {K : Frag}
/-- `enter` in wpG -/
theorem enterQ {R : Result → Shared → Prop} {name qual : Str} {params : Arguments} {body : List Stmt} {scope : Scope} {dV kV doc pm cdv ct oc : Value} {an od : Option Addr} {osl : Array (Option Value)} {f : Addr} {args : List Value} {binds : List (Str × Value)} (m : Str → Option Value)
    (X : K.In s.heap) (hlim : s.heap.NoLimit)
    (ho : K.lookup f = some ⟨oc, od, .func (fnOf name qual params body scope dV kV doc pm an cdv ct), osl⟩) (hcd : codeIn K cdv qual = true) (hroom : A.depth < recursionLimit)
    (hbind : BindsTo s (fnOf name qual params body scope dV kV doc pm an cdv ct) ⟨args, []⟩ binds) (hloc : ∀ y ∈ binds, scope.names.lookup y.1 = some .local)
    (hm : ∀ y, binds.reverse.lookup y = m y)
    (hco : scope.isCoroutine = false) (hgen : scope.isGenerator = false) (hk : scope.kind = .function)
    (hcell : ∀ x ∈ scope.names, x.2 ≠ .cell)
    (h : ∀ h₁ tk, Fr s.heap s.heap.objs.size h₁ m →
      wpG (model PR w) (A.deeper (envOf qual scope s.heap.objs.size f cdv)) (execs body (envOf qual scope s.heap.objs.size f cdv))
        (fun fl s' => R (.ok (.ret (match fl with | .ret v => v | _ => .none))) s')
        (fun e s' => wpG (model PR w) (A.deeper (envOf qual scope s.heap.objs.size f cdv)) (leaving (envOf qual scope s.heap.objs.size f cdv) e) (fun _ s'' => R (.error e) s'') (fun e' s'' => R (.error e') s'') s')
        { s with heap := h₁, toks := tk }) : codeG (model PR w) A (.call (.ref f) ⟨args, []⟩) R s := by
  refine codeG_call_function (fd := fnOf name qual params body scope dV kV doc pm an cdv ct) (body := body) hroom (X _ _ ho) rfl hco hgen rfl (codeRec_of X hcd) (hbind _ _ _ _ ?_)
  refine wpAny_newFunctionEnv hcell hloc (fun h₀ hns₀ hsb₀ => ⟨hlim.fresh _ hsb₀, codeG_func ?_⟩) hk
  have e : (fun y => binds.reverse.lookup y) = m := funext hm
  rw [e] at hns₀
  exact h h₀ _ ⟨hns₀, fun b o eo => hsb₀.extBut b o (Nat.ne_of_lt (Heap.lt_size eo)) (Heap.get?_push_of_some _ eo), Nat.le_refl _⟩
end
section
variable {prog : Program} {w : World} {A : Around} {E : Value → Shared → Prop} {s : Shared} {env : Env} {h₀ : Heap} {x : Str} {body : List Stmt} {Q : Flow → Shared → Prop}
/-- over a range -/
theorem loopRange {σ : Type} {r : Addr} {a b c : Int} {t u v : Tok} {n : Nat} {m₀ : Str → Option Value} (Led : σ → List (Addr × Obj)) (ps : σ → List (Str × Value)) (stored : List Str) (P : Nat → σ → Prop) (c₀ : σ)
    (hr : IsRange s.heap r a b c t u v) (hsm : Builtin.Range.small a b c = true) (hn : Builtin.Range.rangeSize a b c = (n : Int)) (hh : A.handled = none) (F : Fr h₀ env.locals s.heap m₀) (N : News h₀ env.locals s.heap (Led c₀)) (hk : ∀ p ∈ ps c₀, m₀ p.1 = some p.2) (hp : P 0 c₀)
    (turn : ∀ (i : Nat) (q : σ) t I oI (u : Str → Option Value) h tk, i < n → (∀ p ∈ Led q, p.1 ≠ I) → P i q →
      Fr h₀ env.locals h (fun y => if y = x then some (.int (a + i * c) t) else kstB (fun z => if stored.contains z then u z else m₀ z) (ps q) y) → News h₀ env.locals h ((I, oI) :: Led q) →
      wpAny (model prog w) A (execs body env) (XPost h₀ env.locals I oI x stored m₀ Led ps (P (i + 1)) { s with heap := h, toks := tk } Q) E { s with heap := h, toks := tk })
    (done : ∀ q (u : Str → Option Value) h tk, P n q → Fr h₀ env.locals h (fun y => if y = x then u y else kstB (fun z => if stored.contains z then u z else m₀ z) (ps q) y) → News h₀ env.locals h (Led q) → Q .next { s with heap := h, toks := tk }) :
    wpAny (model prog w) A (pyIter (.ref r)) (fun it s₂ => LoopAtV prog w A h₀ env x body Q E it s₂) E s := by
  refine wpAny_pyIter_range hr hsm ?_
  rw [hn]
  have W := Walks.range (prog := prog) (w := w) hh s.heap.objs.size a c n
  refine loopX Led ps stored (fun i q => P i q) c₀ W (fun i h st => ⟨_, st⟩) (fun b hb => .inl (List.mem_singleton.mp hb)) (next_is_new F) (by show IsRangeIter _ _ _ _ _; simpa using Heap.get?_push_size s.heap rfl) (F.push _) (fun e => absurd F.ns.lt (e ▸ Nat.lt_irrefl _))
    (fun p hp => ⟨Heap.get?_push_of_some _ (N p hp).1, (N p hp).2⟩) (fun p hp e => absurd (Heap.lt_size (N p hp).1) (e ▸ Nat.lt_irrefl _)) hk hp ?_ ?_
  · rintro i q v oI u h tk hi ⟨t, rfl⟩ hne hp' F₁ N₁
    exact turn i q t _ oI u h tk hi hne hp' F₁ N₁
  · rintro q u h tk hi F₁ N₁
    exact done q u h tk hi F₁ N₁
end
end Mine
end
/-! Swap2 -/
section
open PySem PySem.W PyProof.Rows PySem.Calls
namespace Mine
theorem words_Swap2 : True := by (k_with_none; w_top off; trivial)
theorem kfs2 : ∀ P h, (hd.heap_39 P).In h → PySem.Challenge.rw_gf0001_01 = PySem.Challenge.rw_gf0001_01 := by k_fill; intros; rfl
/-- a mark at which the walk stops -/
def Stop2 (p : Prop) : Prop := p
theorem Stop2.intro {p : Prop} (h : Stop2 p) : p := h
local macro_rules | `(tactic| walk_at "pyIter ref") => `(tactic| refine Stop2.intro ?_)
local macro_rules | `(tactic| walk_at "setItem ref") => `(tactic| refine Stop2.intro ?_)
def swapB (O : List Int) (j : Nat) : Array UInt8 := (List.range j).foldl (fun b k => b.setIfInBounds (O.length - 1 - k) (O.getD k 0).toNat.toUInt8) (Array.replicate O.length 0)
theorem swapB_succ (O : List Int) (j : Nat) : swapB O (j + 1) = (swapB O j).setIfInBounds (O.length - 1 - j) (O.getD j 0).toNat.toUInt8 := by
  unfold swapB
  rw [List.range_succ, List.foldl_append]; rfl
theorem swapB_size (O : List Int) (j : Nat) : (swapB O j).size = O.length := by
  induction j with
  | zero => simp [swapB]
  | succ j ih => rw [swapB_succ, Array.size_setIfInBounds, ih]
theorem step_facts {n : Nat} (h0 : 0 < n) (h1 : n < 5) : Builtin.Range.small 0 (n : Int) (n : Int) = true ∧ Builtin.Range.rangeSize 0 (n : Int) (n : Int) = ((1 : Nat) : Int) := by
  obtain rfl | rfl | rfl | rfl : n = 1 ∨ n = 2 ∨ n = 3 ∨ n = 4 := by omega
  all_goals decide +kernel
theorem one_facts {n : Nat} (h1 : n < 5) : Builtin.Range.small 0 (n : Int) 1 = true ∧ Builtin.Range.rangeSize 0 (n : Int) 1 = (n : Int) := by
  obtain rfl | rfl | rfl | rfl | rfl : n = 0 ∨ n = 1 ∨ n = 2 ∨ n = 3 ∨ n = 4 := by omega
  all_goals decide +kernel
set_option maxHeartbeats 400000 in
theorem swap_ok (w : World) {loose : List Str} {mean : ExcName → Option Value} {mg mb : Str → Option Value} (oct : Array UInt8) (tb : Tok) (O : List Int) (hO : KBw.bInts oct = O) (hOI : KBa.In O) (many : Int) (tm : Tok) (hmo : many = O.length) (hm0 : 0 < many) (hm1 : many < 5)
   (Q E : Value → Shared → Prop) (s : Shared) (X : (hd.heap_39 w.params).In s.heap) (T : Top hd.view_39 loose mean mg mb s.heap)
   (hret : ∀ t h' tk', Kp s.heap h' → Q (.bytes (swapB O O.length) t) { s with heap := h', toks := tk' }) :
   wpG (model PR w) AA (call (.ref 42) [.bytes oct tb, .int many tm]) Q E s := by
  refine wpG_call ?_
  refine' enterQ (fun y => if y = Str.ofString "width" then some (.int many tm) else if y = Str.ofString "data" then some (.bytes oct tb) else none) X T.nolimit ?k1 ?k2 ?k3 ?k4 ?k5 ?k6 ?c1 ?c2 ?c3 ?c4 ?k7
  case k1 => k_is
  case k2 => k_is
  case k3 => decide
  case k4 => exact BindsTo.of_eq rfl
  case k5 => exact locs rfl
  case c1 => rfl
  case c2 => rfl
  case c3 => rfl
  case c4 => decide
  case k6 => intro y; exact lk_cons.trans (congrArg _ lk_cons)
  intro h₁ tk F
  have N : News s.heap s.heap.objs.size h₁ [] := News.nil
  have hosz : oct.size = O.length := by rw [← hO, KBw.ints_length]
  refine wpG_execs_cons (G_Assign_Name (G_Call_Name ?_))
  k_steps
  refine G_callWith_type1 ?_
  k_steps
  refine call_bytearray (by omega) (by omega) fun h₂ D hD₀ hD hk₂ => ?_
  rename_i F₁
  have hDL : D ≠ s.heap.objs.size := fun e => by
    obtain ⟨o, _, _, eo, _⟩ := F₁.ns
    rw [e] at hD₀
    exact absurd (hD₀.symm.trans eo) (fun q => nomatch q)
  have hDb : s.heap.get? D = none := by
    cases e : s.heap.get? D with
    | none => rfl
    | some o => exact absurd (hD₀.symm.trans (F₁.keep _ _ e)) (fun q => nomatch q)
  have hsw0 : Array.replicate ((O.length : Int)).toNat 0 = swapB O 0 := by rw [Int.toNat_natCast]; rfl
  rw [hsw0] at hD
  have F₂ := F₁.keeps hk₂
  have N₂ : News s.heap s.heap.objs.size h₂ [(D, { cls := .type "bytearray", data := .bytearray (swapB O 0) })] := fun p hp => by
    rw [List.mem_singleton.mp hp]
    exact ⟨hD, hDL, hDb⟩
  clear F₁ N hk₂ hD₀ hD hsw0
  k_steps
  refine wpG_of (wpAny_noRaise ?_)
  rename_i h₃ F₃ N₃
  refine wpAny_execs_cons ?_
  with_unfolding_all refine' For_invVF F₃ ?k1 ?k2 ?_
  case k1 => exact rfl
  case k2 => exact rfl
  k_steps
  unfold Stop2
  rename_i h₄ tk₄ t₁ u₁ v₁ hR F₄ N₄ hk₄
  subst hmo
  have hlen0 : 0 < O.length := by omega
  have hlen1 : O.length < 5 := by omega
  obtain ⟨p1, p2⟩ := step_facts hlen0 hlen1
  obtain ⟨p3, p4⟩ := one_facts hlen1
  refine loopRange (σ := Nat) (fun q => [(D, { cls := .type "bytearray", data := .bytearray (swapB O q) })]) (fun _ => []) [Str.ofString "j"] (fun i q => (i = 0 ∧ q = 0) ∨ (i = 1 ∧ q = O.length)) 0 hR p1 p2 rfl F₄ N₄ (fun _ h => nomatch h) (.inl ⟨rfl, rfl⟩) ?turn ?done
  case turn =>
    rintro i q t I oI u h tk₅ hi hne hP F₅ N₅
    obtain rfl : i = 0 := by omega
    obtain rfl : q = 0 := by rcases hP with ⟨_, h⟩ | ⟨h, _⟩ <;> omega
    clear F₄ N₄ hk₄ hR
    dsimp only [envOf] at F₅ N₅
    simp only [kstB, List.contains_cons, List.contains_nil, Bool.or_false, beq_iff_eq] at F₅
    have hDI : D ≠ I := hne _ (List.mem_singleton.mpr rfl)
    refine wpAny_execs_cons ?_
    with_unfolding_all refine' For_invVF F₅ ?k1 ?k2 ?_
    case k1 => exact rfl
    case k2 => exact rfl
    k_steps
    unfold Stop2
    rename_i h₆ tk₆ t₆ u₆ v₆ hR₆ F₆ N₆ hk₆
    refine loopRange (σ := Nat) (fun q => [(D, { cls := .type "bytearray", data := .bytearray (swapB O q) }), (I, oI)]) (fun _ => []) [] (fun j q => q = j) 0 hR₆ p3 p4 rfl F₆ ?n (fun _ h => nomatch h) rfl ?turn2 ?done2
    case n => intro p hp; exact N₆ p (by simp only [List.mem_cons, List.not_mem_nil, or_false] at hp ⊢; rcases hp with h | h <;> simp only [h, true_or, or_true])
    case turn2 =>
      rintro j q t' J oJ u' h₇ tk₇ hj hne' rfl F₇ N₇
      clear F₆ N₆ hk₆ hR₆
      dsimp only [envOf] at F₇ N₇
      simp only [kstB, List.contains_nil, Bool.false_eq_true, if_false] at F₇
      k_steps
      unfold Stop2
      have e1 : ((0 : Int) + ((0 : Nat) : Int) * (O.length : Int)) = 0 := by simp
      have e2 : ((0 : Int) + (q : Int) * 1) = (q : Int) := by omega
      have e3 : ((0 : Int) + ((0 : Nat) : Int) * (O.length : Int) + (0 + (q : Int) * 1)).toNat = q := by rw [e1, e2]; omega
      have e4 : ((0 : Int) + ((0 : Nat) : Int) * (O.length : Int) + (O.length : Int) - 1 - (0 + (q : Int) * 1)) = (O.length : Int) - 1 - q := by rw [e1, e2]; omega
      rename_i lo hi2
      have hD7 := (N₇ (D, _) (List.mem_cons_of_mem _ List.mem_cons_self)).1
      refine setItem_ba hD7 (by rw [e4]; omega) (by rw [e4, swapB_size]; omega) (by rw [swapB_size]; unfold sizeLine; omega) lo hi2 fun h₈ hs₈ ho₈ => ?_
      rw [e3, e4, show ((O.length : Int) - 1 - q).toNat = O.length - 1 - q by omega, ← swapB_succ] at ho₈
      have F₈ := F₇.change hs₈ hDL hDb
      have hneJ : D ≠ J := hne' _ List.mem_cons_self
      have hneI : D ≠ I := hne _ (List.mem_singleton.mpr rfl)
      have N₈ : News s.heap s.heap.objs.size h₈ [(J, oJ), (D, { cls := .type "bytearray", data := .bytearray (swapB O (q + 1)) }), (I, oI)] := fun p hp => by
        rcases List.mem_cons.mp hp with rfl | hp
        · have z := N₇ (J, oJ) List.mem_cons_self
          exact ⟨hs₈.extBut _ _ (Ne.symm hneJ) z.1, z.2⟩
        · rcases List.mem_cons.mp hp with rfl | hp
          · exact ⟨ho₈, hDL, hDb⟩
          · rw [List.mem_singleton.mp hp]
            have z := N₇ (I, oI) (List.mem_cons_of_mem _ (List.mem_cons_of_mem _ List.mem_cons_self))
            exact ⟨hs₈.extBut _ _ (Ne.symm hneI) z.1, z.2⟩
      clear F₇ N₇ hs₈
      k_steps
      refine xEnd (q + 1) (by assumption) N₈ List.mem_cons_self (fun p hp => List.mem_cons_of_mem _ hp) (fun p hp => ?_) ⟨(fun _ h => nomatch h), fun z hz _ _ => if_neg hz⟩ rfl
      rcases List.mem_cons.mp hp with rfl | hp
      · exact hneJ
      · rw [List.mem_singleton.mp hp]
        exact hne' (I, oI) (List.mem_cons_of_mem _ List.mem_cons_self)
    case done2 =>
      rintro q u' h₇ tk₇ rfl F₇ N₇
      clear F₆ N₆ hk₆ hR₆
      k_steps
      refine xEnd O.length (by assumption) (by assumption) (List.mem_cons_of_mem _ List.mem_cons_self) (fun p hp => by rw [List.mem_singleton.mp hp]; exact List.mem_cons_self) (fun p hp => by rw [List.mem_singleton.mp hp]; exact hDI) ⟨(fun _ h => nomatch h), fun z hz _ hc => ?_⟩ (by first | exact .inr ⟨rfl, rfl⟩ | simp)
      have hj : z ≠ Str.ofString "j" := by simpa using hc
      simp only [kstB, List.contains_nil, Bool.false_eq_true, if_false, if_neg hj, if_neg hz]
  case done =>
    rintro q u h tk₅ hP F₅ N₅
    obtain rfl : q = O.length := by rcases hP with ⟨h, _⟩ | ⟨_, h⟩ <;> omega
    have hD5 := (N₅ _ List.mem_cons_self).1
    have hk5 := F₅.keep
    k_steps
    refine call_bytes_ba hD5 (by rw [swapB_size]; unfold sizeLine; omega) fun t k => ?_
    exact hret _ _ _ hk5
end Mine
end
/-! Law0 -/
section
open PySem PySem.W PyProof.Rows PySem.Calls
namespace Mine
theorem words_Law0 : True := by (k_with_none; w_top off; trivial)
@[reducible] def AL : Around := { depth := 400, units := 600 }
theorem weakenG {M : Model} {A B : Around} {α : Type} {t : Sem α} {Q : α → Shared → Prop} {E : Value → Shared → Prop} {s : Shared} (h : wpG M B t Q E s)
    (h1 : A.handled = B.handled) (h2 : A.depth ≤ B.depth) (h3 : A.units ≤ B.units) (h4 : B.frames = none) (h5 : B.guards = none) : wpG M A t Q E s :=
  fun Γ p hΓ => h Γ p ⟨hΓ.1.trans h1, Nat.le_trans hΓ.2.1 h2, fun _ hl => absurd (h4.symm.trans hl) (fun q => nomatch q), fun _ hg => absurd (h5.symm.trans hg) (fun q => nomatch q), Nat.le_trans hΓ.2.2.2.2 h3⟩
section
variable {w : World} {A : Around} {s : Shared} {K : Frag}
theorem enterCQ {R : Result → Shared → Prop} {name qual : Str} {params : Arguments} {body : List Stmt} {scope : Scope} {dV kV doc pm cdv ct oc : Value} {an od : Option Addr} {osl : Array (Option Value)} {f : Addr} {args : List Value} {binds : List (Str × Value)} (m cm : Str → Option Value)
    (X : K.In s.heap) (hlim : s.heap.NoLimit)
    (ho : K.lookup f = some ⟨oc, od, .func (fnOf name qual params body scope dV kV doc pm an cdv ct), osl⟩) (hcd : codeIn K cdv qual = true) (hroom : A.depth < recursionLimit)
    (hbind : BindsTo s (fnOf name qual params body scope dV kV doc pm an cdv ct) ⟨args, []⟩ binds) (hkind : (binds.all fun y => scope.names.lookup y.1 == some .local || scope.names.lookup y.1 == some .cell) = true)
    (hnd : ((cellsFrom 0 scope.names []).map (·.1)).Nodup)
    (hm : bindL (envOfC qual scope s.heap.objs.size f cdv).kindOf binds (fun _ => none) = m) (hcm : bindC (envOfC qual scope s.heap.objs.size f cdv).kindOf binds (fun _ => none) = cm)
    (hco : scope.isCoroutine = false) (hgen : scope.isGenerator = false) (hk : scope.kind = .function)
    (h : ∀ h₁ tk cells, Fr s.heap s.heap.objs.size h₁ m → News s.heap s.heap.objs.size h₁ cells → CellsAre cm (cellsFrom (s.heap.objs.size + 1) scope.names []) cells →
      wpG (model PR w) (A.deeper (envOfC qual scope s.heap.objs.size f cdv)) (execs body (envOfC qual scope s.heap.objs.size f cdv))
        (fun fl s' => R (.ok (.ret (match fl with | .ret v => v | _ => .none))) s')
        (fun e s' => wpG (model PR w) (A.deeper (envOfC qual scope s.heap.objs.size f cdv)) (leaving (envOfC qual scope s.heap.objs.size f cdv) e) (fun _ s'' => R (.error e) s'') (fun e' s'' => R (.error e') s'') s')
        { s with heap := h₁, toks := tk }) : codeG (model PR w) A (.call (.ref f) ⟨args, []⟩) R s := by
  refine codeG_call_function (fd := fnOf name qual params body scope dV kV doc pm an cdv ct) hroom (X _ _ ho) rfl hco hgen rfl (codeRec_of X hcd) (hbind _ _ _ _ ?_)
  refine wpAny_newFunctionEnv_cells hk (kindsX hkind _) fun env' he s' x => ?_
  subst he
  refine ⟨hlim.keeps x.toInCall.keep, codeG_func ?_⟩
  obtain ⟨h₁, tk, rfl, _⟩ := x.done
  have hk₁ := x.toInCall.keep
  obtain ⟨cells, NC, Y⟩ := Cl.news (h₀ := s.heap) (Nat.le_refl _) fun n c hm => ⟨x.cell n c (lookup_of_mem_nodup (cellsFrom_names scope.names 0 (s.heap.objs.size + 1) [] [] rfl ▸ hnd) hm), x.above n c hm⟩
  have F : Fr s.heap s.heap.objs.size h₁ m := hm ▸ ⟨x.toInCall.ns, hk₁, Nat.le_refl _⟩
  exact h h₁ tk cells F NC (hcm ▸ Y)
end
theorem wpG_noRaise {M : Model} {A : Around} {α : Type} {t : Sem α} {Q : α → Shared → Prop} {E : Value → Shared → Prop} {s : Shared} (h : wpG M A t Q (fun _ _ => False) s) : wpG M A t Q E s :=
  wpG_mono h (fun _ _ x => x) fun _ _ x => x.elim
end Mine
end
/-! P1 -/
section
open PySem PySem.W PyProof.Rows PySem.Calls
namespace Mine
local macro_rules | `(tactic| walk_at "no such key") => `(tactic| fail)
theorem words_P1 : True := by (k_with_none; w_top off; trivial)
def octO (n : Nat) : List Int := (List.range n).map Int.ofNat
def goodRows (n : Nat) : List Str := (rowsP (n : Int)).filter fun r => cOut r.cps.toList
def RowFine (n : Nat) (r : Str) : Prop := (∀ c ∈ r.cps, c = 40 ∨ c = 41) ∧ r.cps.size ≤ 64 ∧ (Builtin.Str.occurrences r (Str.ofString "\"") 0 r.length 1).isEmpty = true ∧ (KStt.codes r).count 40 ≤ n
def givenOf (n : Nat) (r : Str) : List Int := (gOut (octO n) (KStt.codes r)).getD []
theorem five {P : Nat → Prop} (h0 : P 0) (h1 : P 1) (h2 : P 2) (h3 : P 3) (h4 : P 4) {n : Nat} (h : n < 5) : P n := by
  obtain rfl | rfl | rfl | rfl | rfl : n = 0 ∨ n = 1 ∨ n = 2 ∨ n = 3 ∨ n = 4 := by omega
  all_goals assumption
/-- the rows that hold, written out -/
def goodL (n : Nat) : List Str := (match n with
  | 0 => [""]
  | 1 => ["()"]
  | 2 => ["()()", "(())"]
  | 3 => ["()()()", "(())()", "()(())", "(()())", "((()))"]
  | _ => ["()()()()", "(())()()", "()(())()", "(()())()", "((()))()", "()()(())", "(())(())", "()(()())", "(()()())", "((())())",
    "()((()))", "(()(()))", "((()()))", "(((())))"]).map Str.ofString
theorem good_eqL {n : Nat} (h : n < 5) : goodRows n = goodL n :=
  five (P := fun n => goodRows n = goodL n) (by decide +kernel) (by decide +kernel) (by decide +kernel) (by decide +kernel) (by decide +kernel) h
theorem good_len {n : Nat} (h : n < 5) : (goodRows n).length = [1, 1, 2, 5, 14].getD n 0 := by
  rw [good_eqL h]
  exact five (P := fun n => (goodL n).length = [1, 1, 2, 5, 14].getD n 0) rfl rfl rfl rfl rfl h
theorem rowsP_len {n : Nat} (h : n < 5) : (rowsP (n : Int)).length ≤ sizeLine := by
  have h1 : (rowsP (n : Int)).length ≤ 2 ^ (2 * n) := by
    have := List.length_filter_le (cntP (n : Int)) (allRows (n : Int).toNat)
    unfold allRows at this
    rw [List.length_map, List.length_range, Int.toNat_natCast] at this
    exact this
  have h2 : 2 ^ (2 * n) ≤ 256 := five (P := fun n => 2 ^ (2 * n) ≤ 256) (by decide) (by decide) (by decide) (by decide) (by decide) h
  unfold sizeLine
  omega
theorem good_given {n : Nat} (h : n < 5) : ∀ r ∈ goodRows n, gOut (octO n) (KStt.codes r) = some (givenOf n r) := by
  rw [good_eqL h]
  exact five (P := fun n => ∀ r ∈ goodL n, gOut (octO n) (KStt.codes r) = some (givenOf n r)) (by decide +kernel) (by decide +kernel) (by decide +kernel) (by decide +kernel) (by decide +kernel) h
def rowFineB (n : Nat) (r : Str) : Bool := r.cps.toList.all (fun c => c == 40 || c == 41) && decide (r.cps.size ≤ 64) && (Builtin.Str.occurrences r (Str.ofString "\"") 0 r.length 1).isEmpty && decide ((KStt.codes r).count 40 ≤ n)
theorem rowFine_of {n : Nat} {r : Str} (h : rowFineB n r = true) : RowFine n r := by
  unfold rowFineB at h
  simp only [Bool.and_eq_true, decide_eq_true_eq, List.all_eq_true, Bool.or_eq_true, beq_iff_eq] at h
  obtain ⟨⟨⟨h1, h2⟩, h3⟩, h4⟩ := h
  exact ⟨fun c hc => h1 c (Array.mem_toList_iff.mpr hc), h2, h3, h4⟩
theorem rows_fineB {n : Nat} (h : n < 5) : (rowsP (n : Int)).all (rowFineB n) = true :=
  five (P := fun n => (rowsP (n : Int)).all (rowFineB n) = true) (by decide +kernel) (by decide +kernel) (by decide +kernel) (by decide +kernel) (by decide +kernel) h
theorem rows_fine {n : Nat} (h : n < 5) : ∀ r ∈ rowsP (n : Int), RowFine n r := fun r hr => rowFine_of (List.all_eq_true.mp (rows_fineB h) r hr)
theorem given_nodup {n : Nat} (h : n < 5) : ((goodRows n).map fun r => (byteArr (givenOf n r)).toList).Nodup := by
  rw [good_eqL h]
  exact five (P := fun n => ((goodL n).map fun r => (byteArr (givenOf n r)).toList).Nodup) (by decide +kernel) (by decide +kernel) (by decide +kernel) (by decide +kernel) (by decide +kernel) h
def backB (n : Nat) (r : Str) : Bool := decide ((givenOf n r).length ≤ 8) && (givenOf n r).all (fun o => decide (0 ≤ o ∧ o < 8)) && (match bOut (givenOf n r) with | some (some l) => KStt.txt l == r | _ => false)
theorem good_backB {n : Nat} (h : n < 5) : (goodRows n).all (backB n) = true := by
  rw [good_eqL h]
  exact five (P := fun n => (goodL n).all (backB n) = true) (by decide +kernel) (by decide +kernel) (by decide +kernel) (by decide +kernel) (by decide +kernel) h
theorem good_back {n : Nat} (h : n < 5) {r : Str} (hr : r ∈ goodRows n) : (givenOf n r).length ≤ 8 ∧ (∀ o ∈ givenOf n r, o < 8) ∧ KBa.In (givenOf n r) ∧ bOut (givenOf n r) ≠ none ∧ ∀ t, bVal (givenOf n r) t = .str r t := by
  have hb := List.all_eq_true.mp (good_backB h) r hr
  unfold backB at hb
  simp only [Bool.and_eq_true, decide_eq_true_eq, List.all_eq_true] at hb
  obtain ⟨⟨h1, h2⟩, h3⟩ := hb
  refine ⟨h1, fun o ho => (h2 o ho).2, fun o ho => ⟨(h2 o ho).1, by have := (h2 o ho).2; show o < 256; omega⟩, ?_, fun t => ?_⟩
  · intro e; rw [e] at h3; exact Bool.false_ne_true h3
  · unfold bVal
    cases e : bOut (givenOf n r) with
    | none => rw [e] at h3; exact absurd h3 Bool.false_ne_true
    | some z =>
      cases z with
      | none => rw [e] at h3; exact absurd h3 Bool.false_ne_true
      | some l =>
        rw [e] at h3
        have h4 : KStt.txt l = r := eq_of_beq h3
        show Value.str (KStt.txt l) t = _
        rw [h4]
/-- the deepest row -/
def deepS (n : Nat) : Str := Txt.mul (Str.ofString "(") (n : Int) ++ Txt.mul (Str.ofString ")") (n : Int)
def deepB (n : Nat) : Bool := decide ((deepS n).cps.size ≤ 64) && decide ((KStt.codes (deepS n)).count 40 ≤ n) && decide ((gOut (octO n) (KStt.codes (deepS n))).map byteArr = some (swapB (octO n) (octO n).length))
theorem deep_okB {n : Nat} (h : n < 5) : deepB n = true :=
  five (P := fun n => deepB n = true) (by decide +kernel) (by decide +kernel) (by decide +kernel) (by decide +kernel) (by decide +kernel) h
theorem deep_ok {n : Nat} (h : n < 5) : (deepS n).cps.size ≤ 64 ∧ (KStt.codes (deepS n)).count 40 ≤ n ∧ ∀ t, gVal (octO n) (KStt.codes (deepS n)) t = .bytes (swapB (octO n) (octO n).length) t := by
  have hb := deep_okB h
  unfold deepB at hb
  simp only [Bool.and_eq_true, decide_eq_true_eq] at hb
  obtain ⟨⟨h1, h2⟩, h3⟩ := hb
  refine ⟨h1, h2, fun t => ?_⟩
  unfold gVal
  cases e : gOut (octO n) (KStt.codes (deepS n)) with
  | none => rw [e] at h3; exact nomatch h3
  | some f =>
    rw [e] at h3
    have h4 : byteArr f = swapB (octO n) (octO n).length := Option.some.inj h3
    show Value.bytes (byteArr f) t = _
    rw [h4]
end Mine
end
/-! P2 -/
section
open PySem PySem.W PyProof.Rows PySem.Calls
namespace Mine
theorem words_P2 : True := by (k_with_none; w_top off; trivial)
/-! what can be drawn -/
noncomputable def drawsAll : Nat → List Int → List (List Int)
  | 0, _ => [[]]
  | k + 1, li => (List.range li.length).flatMap fun i => (drawsAll k (li.eraseIdx i)).map fun r => li.getD i 0 :: r
theorem foldl_draws : ∀ (l li fi : List Int), l.length ≤ li.length → ∃ d ∈ drawsAll l.length li, (l.foldl oStep (li, fi)).2 = fi ++ d := by
  intro l
  induction l with
  | nil => intro li fi _; exact ⟨[], List.mem_singleton.mpr rfl, (List.append_nil _).symm⟩
  | cons a l ih =>
    intro li fi h
    rw [List.length_cons] at h
    obtain ⟨h0, h1⟩ := fmod_in (n := a) (k := li.length) (by omega)
    have hi : (a.fmod li.length).toNat < li.length := by omega
    obtain ⟨d, hd, e⟩ := ih (li.eraseIdx (a.fmod li.length).toNat) (fi ++ [li.getD (a.fmod li.length).toNat 0]) (by rw [List.length_eraseIdx_of_lt hi]; omega)
    refine ⟨li.getD (a.fmod li.length).toNat 0 :: d, ?_, ?_⟩
    · rw [List.length_cons]
      exact List.mem_flatMap.mpr ⟨_, List.mem_range.mpr hi, List.mem_map.mpr ⟨d, hd, rfl⟩⟩
    · rw [List.foldl_cons]
      show (l.foldl oStep (li.eraseIdx (a.fmod li.length).toNat, fi ++ [li.getD (a.fmod li.length).toNat 0])).2 = _
      rw [e, List.append_assoc, List.singleton_append]
theorem drawn_mem (ns : List Int) {n : Nat} (h : n < 5) : oOut ns (n : Int) ∈ drawsAll n (rangeKs 0 n) := by
  have hl : ((ns ++ [0, 0, 0, 0]).take n).length = n := by
    rw [List.length_take, List.length_append]
    show min n (ns.length + 4) = n
    omega
  obtain ⟨d, hd, e⟩ := foldl_draws ((ns ++ [0, 0, 0, 0]).take n) (rangeKs 0 n) [] (by rw [hl, rangeKs_length]; omega)
  rw [hl] at hd
  have e2 : oOut ns (n : Int) = d := by
    unfold oOut oRun
    rw [Int.toNat_natCast, e, List.nil_append]
  rw [e2]; exact hd
def badP (d : List Int) (a b c : Nat) : Bool := decide (d.getD b 0 < d.getD a 0 ∧ d.getD a 0 < d.getD c 0)
def cC (d : List Int) (a b c : Nat) : Nat := ((List.range c).filter (badP d a b)).length
def cB (d : List Int) (a b : Nat) : Nat := ((List.range b).map (fun b' => cC d a b' b')).sum
def cA (d : List Int) (a : Nat) : Nat := ((List.range a).map (fun a' => cB d a' a')).sum
theorem cC_succ (d : List Int) (a b c : Nat) : cC d a b (c + 1) = cC d a b c + (if badP d a b c = true then 1 else 0) := by
  unfold cC
  rw [List.range_succ, List.filter_append, List.length_append]
  cases h : badP d a b c <;> simp [h]
theorem cB_succ (d : List Int) (a b : Nat) : cB d a (b + 1) = cB d a b + cC d a b b := by
  unfold cB; rw [List.range_succ, List.map_append, List.sum_append]; simp
theorem cA_succ (d : List Int) (a : Nat) : cA d (a + 1) = cA d a + cB d a a := by
  unfold cA; rw [List.range_succ, List.map_append, List.sum_append]; simp
/-- the orders, written out -/
def givenL : Nat → List (List Int)
  | 0 => [[]]
  | 1 => [[0]]
  | 2 => [[0, 1], [1, 0]]
  | 3 => [[0, 1, 2], [1, 0, 2], [0, 2, 1], [1, 2, 0], [2, 1, 0]]
  | _ => [[0, 1, 2, 3], [1, 0, 2, 3], [0, 2, 1, 3], [1, 2, 0, 3], [2, 1, 0, 3], [0, 1, 3, 2], [1, 0, 3, 2], [0, 2, 3, 1],
    [1, 2, 3, 0], [2, 1, 3, 0], [0, 3, 2, 1], [1, 3, 2, 0], [2, 3, 1, 0], [3, 2, 1, 0]]
theorem given_eqL {n : Nat} (h : n < 5) : (goodRows n).map (givenOf n) = givenL n := by
  rw [good_eqL h]
  exact five (P := fun n => (goodL n).map (givenOf n) = givenL n) (by decide +kernel) (by decide +kernel) (by decide +kernel) (by decide +kernel) (by decide +kernel) h
/-- where octet k stands in the order -/
def plOf (d : List Int) (k : Nat) : Nat := (Builtin.Bytes.find? (byteArr d) #[((k : Int)).toNat.toUInt8] 0 (byteArr d).size).getD 0
def placesOf (n : Nat) (d : List Int) : List Int := (List.range n).map fun k => ((plOf d k : Nat) : Int)
def rowOkB (n : Nat) (d : List Int) (l : List Int) : Bool :=
  decide ((KStt.txt l).length ≤ 64) && decide ((KStt.codes (KStt.txt l)).count 40 ≤ n) && decide (gOut (placesOf n d) (KStt.codes (KStt.txt l)) = some (octO n)) &&
    (List.range n).all fun k => decide (Builtin.Bytes.find? (byteArr d) #[((k : Int)).toNat.toUInt8] 0 (byteArr d).size = some (plOf d k) ∧ plOf d k < n)
def drawnB (n : Nat) (d : List Int) : Bool :=
  decide (d.length = n) && d.all (fun o => decide (0 ≤ o ∧ o < 8)) &&
    (match bOut d with
     | some (some l) => decide (cA d n = 0) && (givenL n).any (fun g => decide ((byteArr g).toList = (byteArr d).toList)) && rowOkB n d l
     | some none => decide (cA d n ≠ 0) && !(givenL n).any (fun g => decide ((byteArr g).toList = (byteArr d).toList))
     | none => false)
theorem drawn_B {n : Nat} (h : n < 5) : (drawsAll n (rangeKs 0 n)).all (drawnB n) = true :=
  five (P := fun n => (drawsAll n (rangeKs 0 n)).all (drawnB n) = true) (by decide +kernel) (by decide +kernel) (by decide +kernel) (by decide +kernel) (by decide +kernel) h
structure DrawnFacts (n : Nat) (d : List Int) : Prop where
  len : d.length = n
  isIn : KBa.In d
  small : ∀ o ∈ d, o < 8
  noNone : bOut d ≠ none
  good : cA d n = 0 → ((givenL n).any fun g => decide ((byteArr g).toList = (byteArr d).toList)) = true ∧ ∃ r : Str, (∀ t, bVal d t = .str r t) ∧ r.length ≤ 64 ∧ (KStt.codes r).count 40 ≤ n ∧ (∀ t, gVal (placesOf n d) (KStt.codes r) t = .bytes (byteArr (octO n)) t) ∧
    ∀ k, k < n → Builtin.Bytes.find? (byteArr d) #[((k : Int)).toNat.toUInt8] 0 (byteArr d).size = some (plOf d k) ∧ plOf d k < n
  bad : cA d n ≠ 0 → ((givenL n).any fun g => decide ((byteArr g).toList = (byteArr d).toList)) = false ∧ ∀ t, bVal d t = .none
theorem drawn_facts (ns : List Int) {n : Nat} (h : n < 5) : DrawnFacts n (oOut ns (n : Int)) := by
  have hb := List.all_eq_true.mp (drawn_B h) _ (drawn_mem ns h)
  generalize oOut ns (n : Int) = d at hb
  unfold drawnB at hb
  simp only [Bool.and_eq_true, decide_eq_true_eq, List.all_eq_true] at hb
  obtain ⟨⟨h1, h2⟩, h3⟩ := hb
  have hin : KBa.In d := fun o ho => ⟨(h2 o ho).1, by have := (h2 o ho).2; show o < 256; omega⟩
  cases e : bOut d with
  | none => rw [e] at h3; exact absurd h3 Bool.false_ne_true
  | some z =>
    cases z with
    | none =>
      rw [e] at h3
      simp only [Bool.and_eq_true, decide_eq_true_eq, Bool.not_eq_true'] at h3
      refine ⟨h1, hin, fun o ho => (h2 o ho).2, (by rw [e]; intro q; cases q), fun q => absurd q h3.1, fun _ => ⟨h3.2, fun t => ?_⟩⟩
      unfold bVal; rw [e]
    | some l =>
      rw [e] at h3
      simp only [Bool.and_eq_true, decide_eq_true_eq] at h3
      obtain ⟨⟨h4, h5⟩, h6⟩ := h3
      unfold rowOkB at h6
      simp only [Bool.and_eq_true, decide_eq_true_eq] at h6
      obtain ⟨⟨⟨h7, h8⟩, h9⟩, h10⟩ := h6
      refine ⟨h1, hin, fun o ho => (h2 o ho).2, (by rw [e]; intro q; cases q), fun _ => ⟨h5, KStt.txt l, fun t => ?_, h7, h8, fun t => ?_, fun k hk => of_decide_eq_true (List.all_eq_true.mp h10 k (List.mem_range.mpr hk))⟩, fun q => absurd h4 q⟩
      · unfold bVal; rw [e]
      · unfold gVal; rw [h9]
theorem placesOf_len (n : Nat) (d : List Int) : (placesOf n d).length = n := by simp [placesOf]
theorem placesOf_in {n : Nat} {d : List Int} (hn : n < 5) (h : ∀ k, k < n → plOf d k < n) : KBa.In (placesOf n d) := fun x hx => by
  obtain ⟨k, hk, rfl⟩ := List.mem_map.mp hx
  have := h k (List.mem_range.mp hk)
  show 0 ≤ ((plOf d k : Nat) : Int) ∧ ((plOf d k : Nat) : Int) < 256
  omega
end Mine
end
/-! Gif -/
section
open PySem PySem.W PyProof.Rows PySem.Calls
namespace Mine
local macro_rules | `(tactic| walk_at "no such key") => `(tactic| fail)
theorem words_Gif : True := by (k_with_none; w_top off; trivial)
section
variable {prog : Program} {w : World} {A : Around} {E : Value → Shared → Prop} {s : Shared} {env : Env}
theorem G_If_And {x l r : Expr} {op : CmpOp} {p1 p2 pos : Pos} {body : List Stmt} {Q : Flow → Shared → Prop}
    (h : wpAny (model prog w) A (isTrue x env (eval x env)) (fun b s₁ => if b = true then
       wpG (model prog w) A (eval l env) (fun a s₂ => wpG (model prog w) A (eval r env) (fun v s₃ => wpAny (model prog w) A (compareOp op a v) (fun c s₄ => wpAny (model prog w) A (truthy c) (fun b s₅ => if b = true then wpG (model prog w) A (execs body env) Q E s₅ else Q .next s₅) E s₄) E s₃) E s₂) E s₁
     else Q .next s₁) E s)
    (hm : behindInMarks op r = false := by with_unfolding_all rfl) :
    wpG (model prog w) A (exec (.If (.BoolOp .And [x, .Compare l [op] [r] p1] p2) body [] pos) env) Q E s := by
  rw [exec_If]
  refine wpG_step (wpAny_standAt (wpG_bind ?_))
  rw [arm_isTrue_BoolOp]
  show wpG _ A (do match BoolOp.And, ← isTrue x env (eval x env) with | .And, false => pure false | .Or, true => pure true | _, _ => allTrue .And [.Compare l [op] [r] p1] env) _ _ s
  refine wpG_bind (wpG_of (wpAny_mono h (fun b s₁ h₁ => ?_) fun _ _ x => x))
  cases b with
  | false =>
    refine wpG_pure ?_
    simp only [Bool.false_eq_true, if_false] at h₁ ⊢
    rw [execs_nil]
    exact wpG_pure h₁
  | true =>
    simp only [if_true] at h₁
    show wpG _ A (do match BoolOp.And, ← isTrue (.Compare l [op] [r] p1) env (eval (.Compare l [op] [r] p1) env) with | .And, false => pure false | .Or, true => pure true | _, _ => allTrue .And [] env) _ _ s₁
    refine wpG_bind ?_
    rw [isTrue_Compare1, markedBehindIn_of_false hm]
    refine wpG_bind (wpG_mono h₁ (fun a s₂ h₂ => ?_) fun _ _ x => x)
    refine wpG_bind (wpG_holding (wpG_mono h₂ (fun v s₃ h₃ => ?_) fun _ _ x => x))
    refine wpG_step (wpAny_standAt (wpG_step (wpAny_operateT (wpAny_mono h₃ (fun c s₄ h₄ => ?_) fun _ _ x => x))))
    refine wpG_of (wpAny_holding (wpAny_mono h₄ (fun b s₅ h₅ => ?_) fun _ _ x => x))
    cases b with
    | false =>
      simp only [Bool.false_eq_true, if_false] at h₅
      refine wpG_pure ?_
      simp only [Bool.false_eq_true, if_false]
      rw [execs_nil]
      exact wpG_pure h₅
    | true =>
      simp only [if_true] at h₅
      show wpG _ A (allTrue .And [] env) _ _ s₅
      refine wpG_pure ?_
      simp only [beq_self_eq_true, if_true]
      exact h₅
end
end Mine
end
/-! Dp -/
section
open PySem PySem.W PyProof.Rows PySem.Calls
open Sem (wp)
namespace Mine
theorem words_Dp : True := by (k_with_none; w_top off; trivial)
namespace F
theorem list_no_keys : typeLookup (.type "list") "keys" = pure none := by rw [typeLookup_type, builtinLookup_eq_fast]; kernel_rfl
theorem entry_dict_update_loop : entryFor table "dict.update.loop" = some Builtin.«dict.update.loop» := entryFor_of_tree (by kernel_rfl)
theorem plain_dict_update_loop : plainId "dict.update.loop" = true := by decide +kernel
end F
section
variable {prog : Program} {w : World} {A : Around} {E : Value → Shared → Prop} {s : Shared}
theorem keys_miss {a : Addr} {xs : Array Value} {k : Nat} {Q : Option Value → Shared → Prop}
    (hx : s.heap.get? a = some { cls := .type "list", data := .seq xs k }) (hA : A.handled = none)
    (h : ∀ h' tk, (∀ b o, s.heap.get? b = some o → h'.get? b = some o) → Q none { s with heap := h', toks := tk }) :
    wpAny (model prog w) A (getAttr? (.ref a) "keys") Q E s := by
  obtain ⟨hp, g, d, tk, os⟩ := s
  have hT : ∀ tk', (⟨hp, g, d, tk', os⟩ : Shared).TypeIs (.ref a) "list" := fun _ => ⟨_, hx, rfl⟩
  have f1 := sub_AttributeError
  have f3 := PySem.F.slot_list_getattribute.lookup
  have f4 := PySem.F.slot_list_getattribute.bind (.ref a)
  have f5 := list_getattr_none
  unfold getAttr? getAttrBy? getAttrBy
  repeat (any_goals (first | assumption | exact hT _ | ((with_reducible show wpAny _ _ (call (Value.builtin "list.__getattribute__") _ _) _ _ _); refine call_meets PySem.F.slot_list_getattribute (hT _) am_entry_list_getattribute (PySem.F.args_list_getattribute_2 _ _) (meets_getattribute_miss_list a xs k #[] (Str.ofString "keys") _ F.list_no_keys (by decide +kernel)) ⟨hx, hA, fun h' tk' e hx' => ?_⟩) | wp_step))
  obtain ⟨t', u', he⟩ := hx'.there
  show wpAny _ _ (getattributeRaised _ _ _ _ _ _ _) _ _ _
  unfold getattributeRaised
  repeat (any_goals (first | assumption | wp_step))
  all_goals exact h _ _ fun b o e => hx'.keeps b o e
end
section
variable {prog : Program} {w : World} {A : Around} {E : Value → Shared → Prop} {K : Type} [DecidableEq K] {knd : KeyKind prog w K}
/-- the refs of a list are pairs -/
def PairsAt (knd : KeyKind prog w K) (h : Heap) (vs : List Value) (kvs : List (K × Value)) (P : Addr → Prop) : Prop :=
  vs.length = kvs.length ∧ ∀ (i : Nat) (v : Value), vs[i]? = some v → ∃ t o k key val nl, v = .ref t ∧ P t ∧ h.get? t = some o ∧ o.cls = .type "tuple" ∧ o.data = .seq #[key, val] nl ∧ kvs[i]? = some (k, val) ∧ knd.is k key = true
theorem PairsAt.keeps {h h' : Heap} {vs : List Value} {kvs : List (K × Value)} {P : Addr → Prop} (x : PairsAt knd h vs kvs P) (k : ∀ a o, P a → h.get? a = some o → h'.get? a = some o) : PairsAt knd h' vs kvs P :=
  ⟨x.1, fun i v e => let ⟨t, o, kk, key, val, nl, e1, e2, e3, r⟩ := x.2 i v e; ⟨t, o, kk, key, val, nl, e1, e2, k _ _ e2 e3, r⟩⟩
theorem stored_len (kvs : List (K × Value)) (k : K) (v : Value) : (stored kvs k v).length ≤ kvs.length + 1 := by
  unfold stored
  split
  · rw [List.length_map]; exact Nat.le_succ _
  · simp
theorem merged_snoc (acc kvs : List (K × Value)) (k : K) (v : Value) : merged acc (kvs ++ [(k, v)]) = stored (merged acc kvs) k v := by
  unfold merged
  rw [List.foldl_append]
  rfl
theorem merged_len (kvs : List (K × Value)) : ∀ acc, (merged acc kvs).length ≤ acc.length + kvs.length := by
  induction kvs with
  | nil => intro acc; simp [merged]
  | cons kv rest ih =>
    intro acc
    have h1 : merged acc (kv :: rest) = merged (stored acc kv.1 kv.2) rest := rfl
    rw [h1]
    have h2 := ih (stored acc kv.1 kv.2)
    have h3 := stored_len acc kv.1 kv.2
    rw [List.length_cons]
    omega
theorem dict_loop {R : Result → Shared → Prop} {D it a : Addr} {vs : List Value} {kvs : List (K × Value)} {P : Addr → Prop} (res : Value) (hA : A.handled = none) (hDi : D ≠ it) (hDa : a ≠ D) (hia : a ≠ it) (hPD : ¬ P D) (hPi : ¬ P it) (hsz : kvs.length ≤ sizeLine) :
    ∀ (n i : Nat) (s : Shared), kvs.length - i = n → i ≤ kvs.length → s.heap.IsListIter it a i → s.heap.IsList a vs.toArray → PairsAt knd s.heap vs kvs P → s.heap.DictOf knd D (merged [] (kvs.take i)) →
    (∀ h' tk, (∀ b o, b ≠ D → b ≠ it → s.heap.get? b = some o → h'.get? b = some o) → h'.DictOf knd D (merged [] kvs) → R (.ok (.ret res)) { s with heap := h', toks := tk }) →
    codeAny (model prog w) A (.builtin "dict.update.loop" ⟨[.ref D, .ref it, rawInt i, res], []⟩) R s := by
  intro n
  induction n with
  | zero =>
    intro i s hk hi hit hl hp hd hR
    have hin : i = kvs.length := by omega
    subst hin
    refine codeAny_builtin F.entry_dict_update_loop ?_
    rw [Around.under_plainId F.plain_dict_update_loop _]
    show wpAny _ A.in1 (pyNext (.ref it) >>= _) _ _ s
    refine wpAny_bind (wpAny_pyNext_list_end (by exact hA) hit hl (by rw [List.getElem?_toArray]; exact List.getElem?_eq_none (by rw [hp.1]; exact Nat.le_refl _)) fun h' hs' => ?_)
    show wpAny _ A.in1 (Builtin.Dict.addKeywords D [] >>= _) _ _ _
    rw [List.take_length] at hd
    exact wpAny_bind (wpAny_pure (wpAny_pure (hR h' _ (fun b o _ hb e => hs' b o hb e) (hd.extBut hs' hDi))))
  | succ n ih =>
    intro i s hk hi hit hl hp hd hR
    have hlt : i < kvs.length := by omega
    have hlv : i < vs.length := by rw [hp.1]; exact hlt
    obtain ⟨t, o, k, key, val, nl, e1, e2, e3, e4, e5, e6, e7⟩ := hp.2 i vs[i] (List.getElem?_eq_getElem hlv)
    refine codeAny_builtin F.entry_dict_update_loop ?_
    rw [Around.under_plainId F.plain_dict_update_loop _]
    show wpAny _ A.in1 (pyNext (.ref it) >>= _) _ _ s
    refine wpAny_bind (wpAny_pyNext_list_item (x := vs[i]) hit hl (by rw [List.getElem?_toArray]; exact List.getElem?_eq_getElem hlv) fun h₁ hi₁ hs₁ => ?_)
    rw [e1]
    have ht : t ≠ it := fun e => hPi (e ▸ e2)
    have htD : t ≠ D := fun e => hPD (e ▸ e2)
    have g1 : h₁.get? t = some o := (hs₁.2 t ht).trans e3
    refine wpAny_bind (wpAny_holding (wpAny_bind (wpAny_tryCatch ?_)))
    show wpAny _ _ (Builtin.Dict.pairItems (.ref t)) _ _ _
    unfold Builtin.Dict.pairItems
    refine wpAny_bind (wpAny_typeOf ⟨o, g1, e4⟩ ?_)
    rw [if_pos (by decide)]
    refine wpAny_bind (wpAny_seqItems g1 e5 ?_)
    refine wpAny_pure ?_
    show wpAny _ _ (holding [key, val] (dictSet D key val)) _ _ _
    have hd₁ : h₁.DictOf knd D (merged [] (kvs.take i)) := hd.sameBut hs₁ hDi
    refine wpAny_holding (wpAny_dictSet_pairs e7 hd₁ (fun h₂ hd₂ hs₂ => ?_) (by have := merged_len (kvs.take i) []; have := List.length_take_le i kvs; simp only [List.length_nil, Nat.zero_add] at *; omega))
    have hst : stored (merged [] (kvs.take i)) k val = merged [] (kvs.take (i + 1)) := by
      rw [List.take_add_one, e6, ← merged_snoc]; rfl
    rw [hst] at hd₂
    refine wpAny_pure ⟨plainId_quiet F.plain_dict_update_loop _, ih (i + 1) _ (by omega) hlt ?_ ?_ ?_ hd₂ fun h' tk hk' hd' => ?_⟩
    · obtain ⟨oi, q1, q2⟩ := hi₁
      exact ⟨oi, (hs₂.2 it (Ne.symm hDi)).trans q1, q2⟩
    · obtain ⟨ol, q1, q2⟩ := hl
      exact ⟨ol, (hs₂.2 a hDa).trans ((hs₁.2 a hia).trans q1), q2⟩
    · exact hp.keeps fun b ob hb e => (hs₂.2 b fun q => hPD (q ▸ hb)).trans ((hs₁.2 b fun q => hPi (q ▸ hb)).trans e)
    · exact hR h' tk (fun b ob h1 h2 e => hk' b ob h1 h2 ((hs₂.2 b h1).trans ((hs₁.2 b h2).trans e))) hd'
theorem call_dict_pairs {s : Shared} {a : Addr} {vs : List Value} {kvs : List (K × Value)} {nl : Nat} {Q : Value → Shared → Prop} (hA : A.handled = none) (hx : s.heap.get? a = some { cls := .type "list", data := .seq vs.toArray nl })
    (hp : PairsAt knd s.heap vs kvs fun t => t < s.heap.objs.size) (hsz : kvs.length ≤ sizeLine)
    (h : ∀ D h' tk, (∀ b o, s.heap.get? b = some o → h'.get? b = some o) → s.heap.objs.size ≤ D → h'.DictOf knd D (merged [] kvs) → Q (.ref D) { s with heap := h', toks := tk }) :
    wpAny (model prog w) A (call (.type "dict") [.ref a]) Q E s := by
  refine callType_codes (Q₁ := fun obj s₁ => obj = .ref s.heap.objs.size ∧ s₁ = { s with heap := s.heap.push { cls := .type "dict", data := .dict #[] } }) F.kt_called_dict (F.kt_typeCall_dict_1 _) F.entry_dict_init (kt_code_dict_new _ ⟨rfl, rfl⟩) ?_
  rintro obj s₁ ⟨rfl, rfl⟩
  have hnew : (s.heap.push { cls := .type "dict", data := .dict #[] }).DictOf knd s.heap.objs.size [] := Heap.DictOf.new s.heap
  have hx₁ : (s.heap.push { cls := .type "dict", data := .dict #[] }).get? a = some { cls := .type "list", data := .seq vs.toArray nl } := Heap.get?_push_of_some _ hx
  have hD₀ : s.heap.get? s.heap.objs.size = none := Heap.get?_none_of_le (Nat.le_refl _)
  refine ⟨hnew.typeIs, F.args_dict_init_2 _ _, ?_⟩
  unfold Builtin.«dict.__init__»
  refine wpAny_bind ?_
  unfold Builtin.Dict.selfAndRest
  refine wpAny_bind (wpAny_notOrdered_dict hnew.typeIs ?_)
  show wpAny _ _ (pure (s.heap.objs.size, [Value.ref a])) _ _ _
  refine wpAny_pure ?_
  show wpAny _ _ (Builtin.Dict.updateFrom "dict.__init__" s.heap.objs.size (.ref a) [] .none) _ _ _
  unfold Builtin.Dict.updateFrom
  refine wpAny_bind (wpAny_typeOf ⟨_, hx₁, rfl⟩ ?_)
  rw [if_pos (by decide)]
  refine wpAny_bind (keys_miss hx₁ (by exact hA) fun h₂ tk₂ hk₂ => ?_)
  simp only [Option.isNone_none, if_true]
  refine wpAny_bind (wpAny_rule (wpAny_bind (wpAny_pyIter_list ⟨_, hk₂ _ _ hx₁, rfl, _, rfl⟩ ?_)))
  have hD₂ : h₂.DictOf knd s.heap.objs.size (merged [] ([] : List (K × Value))) := by
    obtain ⟨o, es, ep, ho, r⟩ := hnew
    exact ⟨o, es, ep, hk₂ _ _ ho, r⟩
  have hlt : s.heap.objs.size < h₂.objs.size := by obtain ⟨o, es, ep, ho, r⟩ := hD₂; exact Heap.lt_size ho
  have halt : a < s.heap.objs.size := Heap.lt_size hx
  refine wpAny_pure ⟨plainId_quiet F.plain_dict_update_loop _, dict_loop (kvs := kvs) .none (by exact hA) (Nat.ne_of_lt hlt) (Nat.ne_of_lt halt) (Nat.ne_of_lt (Nat.lt_trans halt hlt)) (P := fun t => t < s.heap.objs.size) (Nat.lt_irrefl _) (fun q => Nat.lt_asymm hlt q) hsz kvs.length 0 _ rfl (Nat.zero_le _) ⟨_, Heap.get?_push_size _ rfl, rfl, rfl⟩ ⟨_, Heap.get?_push_of_some _ (hk₂ _ _ hx₁), rfl, _, rfl⟩
    (hp.keeps fun b o _ e => Heap.get?_push_of_some _ (hk₂ _ _ (Heap.get?_push_of_some _ e))) (by rw [List.take_zero]; exact hD₂.push _) fun h₃ tk₃ hk₃ hd₃ => ⟨rfl, h _ _ _ (fun b o e => ?_) (Nat.le_refl _) hd₃⟩⟩
  exact hk₃ b o (Nat.ne_of_lt (Heap.lt_size e)) (Nat.ne_of_lt (Nat.lt_trans (Heap.lt_size e) hlt)) (Heap.get?_push_of_some _ (hk₂ _ _ (Heap.get?_push_of_some _ e)))
end
end Mine
end
/-! N -/
section
open PySem PySem.W PyProof.Rows PySem.Calls LCg
namespace Mine
local macro_rules | `(tactic| walk_at "no such key") => `(tactic| fail)
theorem words_N : True := by (k_with_none; w_top off; trivial)
section
variable {prog : Program} {w : World} {A : Around} {R : Result → Shared → Prop} {E : Value → Shared → Prop} {s : Shared}
theorem compTurn_out (e elt t i t2 i2 : Expr) (ifs2 : List Expr) (rest : List Comprehension) (scope : Scope) (pos : Pos) (it acc : Value) (env : Env) (he : e = .ListComp elt (⟨t, i, [], 0⟩ :: ⟨t2, i2, ifs2, 0⟩ :: rest) scope pos) :
    compTurn e 0 it acc env = (standAt i.pos >>= fun _ => pyNext it >>= fun r => match r with
      | none => pure (.done .next)
      | some v => letOwnedTupleGo t it v >>= fun _ => assign t env v >>= fun _ =>
        eval i2 env >>= fun x => standAt i2.pos >>= fun _ => foldedSetIterable i2 env x >>= fun x => holding [x] (pyIter x) >>= fun it' => runOwn (.compStart e 1 it' acc env) env >>= fun _ =>
          again (.compLoop e 0 it acc env)) := by subst he; first | rfl | with_unfolding_all rfl
theorem compTurn_mid (e elt : Expr) (g : Comprehension) (t i t2 i2 : Expr) (ifs2 : List Expr) (rest : List Comprehension) (scope : Scope) (pos : Pos) (it acc : Value) (env : Env) (he : e = .ListComp elt (g :: ⟨t, i, [], 0⟩ :: ⟨t2, i2, ifs2, 0⟩ :: rest) scope pos) :
    compTurn e 1 it acc env = (standAt i.pos >>= fun _ => pyNext it >>= fun r => match r with
      | none => pure (.done .next)
      | some v => letOwnedTupleGo t it v >>= fun _ => assign t env v >>= fun _ =>
        eval i2 env >>= fun x => standAt i2.pos >>= fun _ => foldedSetIterable i2 env x >>= fun x => holding [x] (pyIter x) >>= fun it' => runOwn (.compStart e 2 it' acc env) env >>= fun _ =>
          again (.compLoop e 1 it acc env)) := by subst he; first | rfl | with_unfolding_all rfl
theorem compTurn_in (e elt : Expr) (g g' : Comprehension) (t i : Expr) (ifs : List Expr) (scope : Scope) (pos : Pos) (it acc : Value) (env : Env) (he : e = .ListComp elt [g, g', ⟨t, i, ifs, 0⟩] scope pos) :
    compTurn e 2 it acc env = (standAt i.pos >>= fun _ => pyNext it >>= fun r => match r with
      | none => pure (.done .next)
      | some v => letOwnedTupleGo t it v >>= fun _ => assign t env v >>= fun _ =>
        (forIn ifs true fun c r => if r = true then do let ok ← isTrue c env (eval c env); pure (ForInStep.yield ok) else pure (ForInStep.yield r)) >>= fun ok =>
        if ok = true then (eval elt env >>= fun x => call (.builtin "list.append") [acc, x] >>= fun _ => pure ()) >>= fun _ => again (.compLoop e 2 it acc env)
        else again (.compLoop e 2 it acc env)) := by subst he; first | rfl | with_unfolding_all rfl
/-- the loop's rule at a depth: Body is what follows the assignment -/
def LR (prog : Program) (w : World) (A : Around) (e : Expr) (d : Nat) (t : Expr) (acc : Value) (env : Env) (Body : Shared → (Shared → Prop) → Prop) : Prop :=
  ∀ (it : Value) (R : Result → Shared → Prop) (I : Nat → Shared → Prop), (∀ v, letOwnedTupleGo t it v = pure ()) →
    (∀ n s, I n s → wpAny (model prog w) A (pyNext it) (fun r s₁ => match r with
      | none => R (.ok .next) s₁
      | some v => wpAny (model prog w) A (assign t env v) (fun _ s₂ => Body s₂ fun s₅ => ∃ m, m < n ∧ I m s₅) (fun _ _ => False) s₁) (fun _ _ => False) s) →
    ∀ n s, I n s → codeAny (model prog w) A (.compLoop e d it acc env) R s
def BodyOut (prog : Program) (w : World) (A : Around) (e : Expr) (d : Nat) (i2 : Expr) (acc : Value) (env : Env) (s₂ : Shared) (P : Shared → Prop) : Prop :=
  wpAny (model prog w) A (eval i2 env) (fun x s₃ => wpAny (model prog w) A (pyIter x) (fun it' s₄ => codeAny (model prog w) A (.compStart e (d + 1) it' acc env) (fun r s₅ => r = .ok .next ∧ P s₅) s₄) (fun _ _ => False) s₃) (fun _ _ => False) s₂
def BodyIn (prog : Program) (w : World) (A : Around) (elt : Expr) (ifs : List Expr) (acc : Value) (env : Env) (s₂ : Shared) (P : Shared → Prop) : Prop :=
  wpAny (model prog w) A (forIn ifs true fun c r => if r = true then do let ok ← isTrue c env (eval c env); pure (ForInStep.yield ok) else pure (ForInStep.yield r)) (fun ok s₃ =>
    if ok = true then wpAny (model prog w) A (eval elt env) (fun x s₄ => wpAny (model prog w) A (call (.builtin "list.append") [acc, x]) (fun _ s₅ => P s₅) (fun _ _ => False) s₄) (fun _ _ => False) s₃
    else P s₃) (fun _ _ => False) s₂
theorem lr_0 {e elt t i t2 i2 : Expr} {ifs2 : List Expr} {rest : List Comprehension} {scope : Scope} {pos : Pos} {acc : Value} {env : Env} (he : e = .ListComp elt (⟨t, i, [], 0⟩ :: ⟨t2, i2, ifs2, 0⟩ :: rest) scope pos) (hA : A.mark none = A)
    (hs : ∀ x, foldedSetIterable i2 env x = pure x) : LR prog w A e 0 t acc env (BodyOut prog w A e 0 i2 acc env) := by
  intro it R I ht turn n s h
  have hc : ∀ n s, I n s → wpAny (model prog w) A ((compTurn e 0 it acc env).onRaise (fun x => do noteFrame x env; theTreesLotGoes x)) (fun fin s' => match fin with | .done f => R (.ok f) s' | .again c' => c' = .compLoop e 0 it acc env ∧ ∃ m, m < n ∧ I m s') (fun e s' => R (.error e) s') s := by
    intro n s hI
    refine wpAny_onRaise (wpAny_mono (Q := fun fin s' => match fin with | .done f => R (.ok f) s' | .again c' => c' = .compLoop e 0 it acc env ∧ ∃ m, m < n ∧ I m s') (E := fun _ _ => False) ?_ (fun _ _ x => x) fun _ _ x => x.elim)
    rw [compTurn_out e elt t i t2 i2 ifs2 rest scope pos it acc env he]
    refine wpAny_bind (wpAny_standAt (wpAny_bind (wpAny_mono (turn n s hI) (fun r s₁ h₁ => ?_) fun _ _ h' => h')))
    cases r with
    | none => exact wpAny_pure h₁
    | some v =>
      refine wpAny_bind (wpAny_of_eq (ht v) (wpAny_bind (wpAny_mono h₁ (fun _ s₂ h₂ => ?_) fun _ _ h' => h')))
      refine wpAny_bind (wpAny_mono h₂ (fun x s₃ h₃ => ?_) fun _ _ h' => h')
      refine wpAny_bind (wpAny_standAt (wpAny_bind (wpAny_of_eq (hs x) (wpAny_bind (wpAny_holding (wpAny_mono h₃ (fun it' s₄ h₄ => ?_) fun _ _ h' => h'))))))
      refine wpAny_bind (wpAny_runOwn (h := none) ?_)
      rw [hA]
      refine codeAny_mono h₄ fun r s₅ h₅ => ?_
      obtain ⟨rfl, h₅⟩ := h₅
      exact wpAny_pure ⟨rfl, h₅⟩
  subst he
  exact codeAny_loop rfl I (fun n s hI => hc n s hI) n h
theorem lr_1 {e elt t i t2 i2 : Expr} {g : Comprehension} {ifs2 : List Expr} {rest : List Comprehension} {scope : Scope} {pos : Pos} {acc : Value} {env : Env} (he : e = .ListComp elt (g :: ⟨t, i, [], 0⟩ :: ⟨t2, i2, ifs2, 0⟩ :: rest) scope pos) (hA : A.mark none = A)
    (hs : ∀ x, foldedSetIterable i2 env x = pure x) : LR prog w A e 1 t acc env (BodyOut prog w A e 1 i2 acc env) := by
  intro it R I ht turn n s h
  have hc : ∀ n s, I n s → wpAny (model prog w) A ((compTurn e 1 it acc env).onRaise (fun x => do noteFrame x env; theTreesLotGoes x)) (fun fin s' => match fin with | .done f => R (.ok f) s' | .again c' => c' = .compLoop e 1 it acc env ∧ ∃ m, m < n ∧ I m s') (fun e s' => R (.error e) s') s := by
    intro n s hI
    refine wpAny_onRaise (wpAny_mono (Q := fun fin s' => match fin with | .done f => R (.ok f) s' | .again c' => c' = .compLoop e 1 it acc env ∧ ∃ m, m < n ∧ I m s') (E := fun _ _ => False) ?_ (fun _ _ x => x) fun _ _ x => x.elim)
    rw [compTurn_mid e elt g t i t2 i2 ifs2 rest scope pos it acc env he]
    refine wpAny_bind (wpAny_standAt (wpAny_bind (wpAny_mono (turn n s hI) (fun r s₁ h₁ => ?_) fun _ _ h' => h')))
    cases r with
    | none => exact wpAny_pure h₁
    | some v =>
      refine wpAny_bind (wpAny_of_eq (ht v) (wpAny_bind (wpAny_mono h₁ (fun _ s₂ h₂ => ?_) fun _ _ h' => h')))
      refine wpAny_bind (wpAny_mono h₂ (fun x s₃ h₃ => ?_) fun _ _ h' => h')
      refine wpAny_bind (wpAny_standAt (wpAny_bind (wpAny_of_eq (hs x) (wpAny_bind (wpAny_holding (wpAny_mono h₃ (fun it' s₄ h₄ => ?_) fun _ _ h' => h'))))))
      refine wpAny_bind (wpAny_runOwn (h := none) ?_)
      rw [hA]
      refine codeAny_mono h₄ fun r s₅ h₅ => ?_
      obtain ⟨rfl, h₅⟩ := h₅
      exact wpAny_pure ⟨rfl, h₅⟩
  subst he
  exact codeAny_loop rfl I (fun n s hI => hc n s hI) n h
theorem lr_2 {e elt t i : Expr} {g g' : Comprehension} {ifs : List Expr} {scope : Scope} {pos : Pos} {acc : Value} {env : Env} (he : e = .ListComp elt [g, g', ⟨t, i, ifs, 0⟩] scope pos) :
    LR prog w A e 2 t acc env (BodyIn prog w A elt ifs acc env) := by
  intro it R I ht turn n s h
  have hc : ∀ n s, I n s → wpAny (model prog w) A ((compTurn e 2 it acc env).onRaise (fun x => do noteFrame x env; theTreesLotGoes x)) (fun fin s' => match fin with | .done f => R (.ok f) s' | .again c' => c' = .compLoop e 2 it acc env ∧ ∃ m, m < n ∧ I m s') (fun e s' => R (.error e) s') s := by
    intro n s hI
    refine wpAny_onRaise (wpAny_mono (Q := fun fin s' => match fin with | .done f => R (.ok f) s' | .again c' => c' = .compLoop e 2 it acc env ∧ ∃ m, m < n ∧ I m s') (E := fun _ _ => False) ?_ (fun _ _ x => x) fun _ _ x => x.elim)
    rw [compTurn_in e elt g g' t i ifs scope pos it acc env he]
    refine wpAny_bind (wpAny_standAt (wpAny_bind (wpAny_mono (turn n s hI) (fun r s₁ h₁ => ?_) fun _ _ h' => h')))
    cases r with
    | none => exact wpAny_pure h₁
    | some v =>
      refine wpAny_bind (wpAny_of_eq (ht v) (wpAny_bind (wpAny_mono h₁ (fun _ s₂ h₂ => ?_) fun _ _ h' => h')))
      refine wpAny_bind (wpAny_mono h₂ (fun ok s₃ h₃ => ?_) fun _ _ h' => h')
      cases ok with
      | false => exact wpAny_pure ⟨rfl, h₃⟩
      | true => exact wpAny_bind (wpAny_bind (wpAny_mono h₃ (fun x s₄ h₄ => wpAny_bind (wpAny_mono h₄ (fun _ s₅ h₅ => wpAny_pure (wpAny_pure ⟨rfl, h₅⟩)) fun _ _ h' => h')) fun _ _ h' => h'))
  subst he
  exact codeAny_loop rfl I (fun n s hI => hc n s hI) n h
theorem codeAny_compStart_d {e : Expr} {d : Nat} {g : Comprehension} {it acc : Value} {env : Env} (hg : (clausesOf e)[d]? = some g) (ha : g.is_async = 0) (hq : (Code.compLoop e d it acc env).quiet = true)
    (hden : ∀ it, (model prog w).den (.compStart e d it acc env) = (compStart e d it acc env).onRaise (fun x => do noteFrame x env; standAt theWindowsPlace))
    (hq' : ∀ it, (Code.compLoop e d it acc env).quiet = true)
    (h0 : codeAny (model prog w) A (.compLoop e d it acc env) R s)
    (h : wpAny (model prog w) A (pyIter it) (fun it' s' => codeAny (model prog w) A (.compLoop e d it' acc env) R s') (fun _ _ => False) s)
    (hAu : A.under (.compStart e d it acc env) = A) :
    codeAny (model prog w) A (.compStart e d it acc env) R s := by
  refine codeAny_of_tree ?_
  rw [hden, hAu]
  refine wpAny_onRaise (wpAny_mono (Q := fun fin s' => match fin with | .done f => R (.ok f) s' | .again c' => c'.quiet = true ∧ codeAny (model prog w) A c' R s') (E := fun _ _ => False) ?_ (fun _ _ x => x) fun _ _ x => x.elim)
  unfold compStart
  rw [hg]
  simp only [Option.elim_some, ha, bne_self_eq_false, Bool.false_eq_true, if_false]
  show wpAny _ _ (ask >>= _) _ _ s
  refine wpAny_bind (wpAny_askSetting (wpAny_ite ?_))
  split
  · first
      | exact wpAny_bind (wpAny_pure (wpAny_pure (And.intro hq h0)))
      | exact wpAny_pure (And.intro hq h0)
  · first
      | exact wpAny_bind (wpAny_rule (wpAny_bind (wpAny_standAt (wpAny_bind (wpAny_mono h (fun it' s' h' => wpAny_pure (And.intro (hq' it') h')) fun _ _ x => x)))))
      | (refine wpAny_bind (wpAny_rule ?_); show wpAny _ _ (standAt g.iter.pos >>= _) _ _ s; exact wpAny_bind (wpAny_standAt (wpAny_bind (wpAny_mono h (fun it' s' h' => wpAny_pure (And.intro (hq' it') h')) fun _ _ x => x))))
theorem bodyOut_mono {e : Expr} {d : Nat} {i2 : Expr} {acc : Value} {env : Env} {s₂ : Shared} {P P' : Shared → Prop} (hP : ∀ s, P s → P' s) (h : BodyOut prog w A e d i2 acc env s₂ P) : BodyOut prog w A e d i2 acc env s₂ P' :=
  wpAny_mono h (fun _ _ h₁ => wpAny_mono h₁ (fun _ _ h₂ => codeAny_mono h₂ fun _ _ h₃ => ⟨h₃.1, hP _ h₃.2⟩) fun _ _ x => x) fun _ _ x => x
theorem bodyIn_mono {elt : Expr} {ifs : List Expr} {acc : Value} {env : Env} {s₂ : Shared} {P P' : Shared → Prop} (hP : ∀ s, P s → P' s) (h : BodyIn prog w A elt ifs acc env s₂ P) : BodyIn prog w A elt ifs acc env s₂ P' :=
  wpAny_mono h (fun ok s₃ h₁ => by
    cases ok with
    | false => simp only [Bool.false_eq_true, if_false] at h₁ ⊢; exact hP _ h₁
    | true => simp only [if_true] at h₁ ⊢; exact wpAny_mono h₁ (fun _ _ h₂ => wpAny_mono h₂ (fun _ _ h₃ => hP _ h₃) fun _ _ x => x) fun _ _ x => x) fun _ _ x => x
def FrameHas (out : List (Str × Value)) (mC : Str → Option Value) : Prop := ∀ p ∈ out, mC p.1 = some p.2
def CStN (h₀ : Heap) (L : Addr) (m : Str → Option Value) (C D : Addr) (news : List (Addr × Obj)) (s₁ : Shared) (out : List (Str × Value)) (Inv : List Value → Prop) (s' : Shared) : Prop :=
  ∃ h' tk ys oC mC, s' = { s₁ with heap := h', toks := tk } ∧ Fr h₀ L h' m ∧ News h₀ L h' ((C, oC) :: (D, lst ys) :: news) ∧ NsObj oC mC ∧ FrameHas out mC ∧ Inv ys
theorem nestLoop {h₀ : Heap} {L C D I : Addr} {m : Str → Option Value} {e : Expr} {d : Nat} {x : Str} {px : Pos} {acc : Value} {env : Env} {Body : Shared → (Shared → Prop) → Prop} {news : List (Addr × Obj)} {s₁ : Shared} {out : List (Str × Value)} {Inv : Nat → List Value → Prop} {k : Nat}
    (lr : LR prog w A e d (.Name x px) acc env Body) (hB : ∀ s P P', (∀ s, P s → P' s) → Body s P → Body s P') (hh : A.handled = none)
    (hx : env.kindOf x = some .local) (hp : (env.scope.kind == .class || (env.scope.kind == .module && env.locals != env.globals)) = false) (hC : env.locals = C) (hout : ∀ p ∈ out, p.1 ≠ x) (ht : ∀ v, letOwnedTupleGo (.Name x px) (.ref I) v = pure ())
    (hI₀ : h₀.get? I = none) (hIL : L ≠ I) (hIC : I ≠ C) (hID : I ≠ D) (offI : ∀ p ∈ news, p.1 ≠ I) (hCD : C ≠ D) (offC : ∀ p ∈ news, p.1 ≠ C)
    (turn : ∀ j t' oI ys oC mC h tk, j < k → Inv j ys → NsObj oC mC → mC x = some (.int (j : Int) t') → FrameHas out mC → Fr h₀ L h m → News h₀ L h ((C, oC) :: (D, lst ys) :: (I, oI) :: news) →
      Body { s₁ with heap := h, toks := tk } (fun s₅ => CStN h₀ L m C D ((I, oI) :: news) s₁ out (Inv (j + 1)) s₅))
    (hst : CStN h₀ L m C D news s₁ out (Inv 0) s) (hit : IsRangeIter s.heap I 0 (k : Int) 1) :
    codeAny (model prog w) A (.compLoop e d (.ref I) acc env) (fun rr s₅ => rr = .ok .next ∧ CStN h₀ L m C D news s₁ out (Inv k) s₅) s := by
  have W := range_walks (prog := prog) (w := w) (I := I) hh 0 k
  subst hC
  refine lr (.ref I) _ (fun q s' => ∃ j h' tk ys oC mC, s' = { s₁ with heap := h', toks := tk } ∧ j ≤ k ∧ q = k + 1 - j ∧ IsRangeIter h' I (0 + (j : Nat) * 1) ((k : Int) - (j : Nat)) 1 ∧ Fr h₀ L h' m ∧ News h₀ L h' ((env.locals, oC) :: (D, lst ys) :: news) ∧ NsObj oC mC ∧ FrameHas out mC ∧ Inv j ys) ht ?_ (k + 1) s ?_
  · rintro q s' ⟨j, h', tk, ys, oC, mC, rfl, hj, rfl, hst', F', N', hoC, hF, hI'⟩
    by_cases hlt : j < k
    · refine W.item j _ _ _ hlt hst' fun v h₂ tk₂ hPv hst₂ hk₂ => ?_
      obtain ⟨t', rfl⟩ := hPv
      rw [Int.zero_add]
      have zC := (N' _ List.mem_cons_self).1
      have hC0 := (N' _ List.mem_cons_self).2.2
      have hCL : env.locals ≠ L := (N' _ List.mem_cons_self).2.1
      have zC₂ : h₂.get? env.locals = some oC := hk₂ _ _ (by simpa using Ne.symm hIC) zC
      refine wpAny_assign_Name (wpAny_storeName_local hx (hoC.ns zC₂) (fun h₃ hn₃ hs₃ => ?_) hp)
      have hst₃ : IsRangeIter h₃ I (0 + ((j + 1 : Nat) : Int) * 1) ((k : Int) - ((j + 1 : Nat) : Int)) 1 := W.frame (j + 1) h₂ h₃ hst₂ fun b hb o e => hs₃.extBut b o (fun q => hIC (by rw [← List.mem_singleton.mp hb, q])) e
      have heI := hst₃
      obtain ⟨oC₃, heC, hoC₃⟩ := ns_obj hn₃
      have F₃ : Fr h₀ L h₃ m := (fr_but F' hk₂ hIL hI₀).change hs₃ hCL hC0
      have N₂ : News h₀ L h₂ ((D, lst ys) :: news) := news_but (fun p hp => N' p (List.mem_cons_of_mem _ hp)) hk₂ fun p hp => by
        rcases List.mem_cons.mp hp with rfl | hp
        · exact Ne.symm hID
        · exact offI p hp
      obtain ⟨oI, hoI⟩ : ∃ oI, h₃.get? I = some oI := ⟨_, heI⟩
      have N₃ : News h₀ L h₃ ((env.locals, oC₃) :: (D, lst ys) :: (I, oI) :: news) := fun p hp => by
        rcases List.mem_cons.mp hp with rfl | hp
        · exact ⟨heC, hCL, hC0⟩
        · rcases List.mem_cons.mp hp with rfl | hp
          · have z := N₂ _ List.mem_cons_self
            exact ⟨hs₃.extBut _ _ (Ne.symm hCD) z.1, z.2⟩
          · rcases List.mem_cons.mp hp with rfl | hp
            · exact ⟨hoI, Ne.symm hIL, hI₀⟩
            · have z := N₂ p (List.mem_cons_of_mem _ hp)
              exact ⟨hs₃.extBut _ _ (offC p hp) z.1, z.2⟩
      refine hB _ _ _ (fun s₅ h₅ => ?_) (turn j t' oI ys oC₃ _ h₃ _ hlt hI' hoC₃ (by simp) (fun p hp => (if_neg (hout p hp)).trans (hF p hp)) F₃ N₃)
      obtain ⟨h₆, tk₆, ys₆, oC₆, mC₆, rfl, F₆, N₆, hoC₆, hF₆, hI₆⟩ := h₅
      have hI6 : h₆.get? I = some oI := (N₆ (I, oI) (List.mem_cons_of_mem _ (List.mem_cons_of_mem _ List.mem_cons_self))).1
      refine ⟨k + 1 - (j + 1), by omega, j + 1, h₆, tk₆, ys₆, oC₆, mC₆, rfl, hlt, rfl, ?_, F₆, fun p hp => N₆ p ?_, hoC₆, hF₆, hI₆⟩
      · have e1 : h₃.get? I = some _ := hst₃
        show h₆.get? I = some _
        rw [hI6, ← hoI]; exact e1
      · rcases List.mem_cons.mp hp with h | hp
        · rw [h]; exact List.mem_cons_self
        · rcases List.mem_cons.mp hp with h | hp
          · rw [h]; exact List.mem_cons_of_mem _ List.mem_cons_self
          · exact List.mem_cons_of_mem _ (List.mem_cons_of_mem _ (List.mem_cons_of_mem _ hp))
    · obtain rfl : j = k := Nat.le_antisymm hj (Nat.not_lt.mp hlt)
      refine W.done _ _ _ hst' fun h₂ tk₂ hk₂ => ⟨rfl, h₂, tk₂, ys, oC, mC, rfl, fr_but F' hk₂ hIL hI₀, news_but N' hk₂ fun p hp => ?_, hoC, hF, hI'⟩
      rcases List.mem_cons.mp hp with rfl | hp
      · exact Ne.symm hIC
      · rcases List.mem_cons.mp hp with rfl | hp
        · exact Ne.symm hID
        · exact offI p hp
  · obtain ⟨h', tk, ys, oC, mC, rfl, F', N', hoC, hF, hI'⟩ := hst
    exact ⟨0, h', tk, ys, oC, mC, rfl, Nat.zero_le _, rfl, by simpa using hit, F', N', hoC, hF, hI'⟩
theorem nestStart {h₀ : Heap} {L C D : Addr} {m : Str → Option Value} {e : Expr} {d : Nat} {x : Str} {px : Pos} {acc : Value} {env : Env} {Body : Shared → (Shared → Prop) → Prop} {news : List (Addr × Obj)} {s₁ : Shared} {out : List (Str × Value)} {Inv : Nat → List Value → Prop} {k : Nat} {r : Addr} {b : Int} {t u v : Tok}
    (lr : LR prog w A e d (.Name x px) acc env Body) (hB : ∀ s P P', (∀ s, P s → P' s) → Body s P → Body s P') (hh : A.handled = none)
    (start : ∀ it' s' (R : Result → Shared → Prop), codeAny (model prog w) A (.compLoop e d it' acc env) R s' → wpAny (model prog w) A (pyIter it') (fun it'' s'' => codeAny (model prog w) A (.compLoop e d it'' acc env) R s'') (fun _ _ => False) s' → codeAny (model prog w) A (.compStart e d it' acc env) R s')
    (hx : env.kindOf x = some .local) (hp : (env.scope.kind == .class || (env.scope.kind == .module && env.locals != env.globals)) = false) (hC : env.locals = C) (hout : ∀ p ∈ out, p.1 ≠ x) (ht : ∀ I v, letOwnedTupleGo (.Name x px) (.ref I) v = pure ())
    (hCD : C ≠ D) (offC : ∀ p ∈ news, p.1 ≠ C)
    (hr : IsRange s.heap r 0 b 1 t u v) (hsm : Builtin.Range.small 0 b 1 = true) (hn : Builtin.Range.rangeSize 0 b 1 = ((k : Nat) : Int))
    (turn : ∀ I j t' oI ys oC mC h tk, I ≠ C → I ≠ D → (∀ p ∈ news, p.1 ≠ I) → j < k → Inv j ys → NsObj oC mC → mC x = some (.int (j : Int) t') → FrameHas out mC → Fr h₀ L h m → News h₀ L h ((C, oC) :: (D, lst ys) :: (I, oI) :: news) →
      Body { s₁ with heap := h, toks := tk } (fun s₅ => CStN h₀ L m C D ((I, oI) :: news) s₁ out (Inv (j + 1)) s₅))
    (hst : CStN h₀ L m C D news s₁ out (Inv 0) s) :
    wpAny (model prog w) A (pyIter (.ref r)) (fun it' s₄ => codeAny (model prog w) A (.compStart e d it' acc env) (fun rr s₅ => rr = .ok .next ∧ CStN h₀ L m C D news s₁ out (Inv k) s₅) s₄) (fun _ _ => False) s := by
  obtain ⟨h', tk, ys, oC, mC, rfl, F, N, hoC, hF, hI⟩ := hst
  refine wpAny_pyIter_range hr hsm ?_
  have lt : ∀ p ∈ (C, oC) :: (D, lst ys) :: news, p.1 < h'.objs.size := fun p hp => Heap.lt_size (N p hp).1
  have hIC : h'.objs.size ≠ C := Ne.symm (Nat.ne_of_lt (lt _ List.mem_cons_self))
  have hID : h'.objs.size ≠ D := Ne.symm (Nat.ne_of_lt (lt _ (List.mem_cons_of_mem _ List.mem_cons_self)))
  have offI : ∀ p ∈ news, p.1 ≠ h'.objs.size := fun p hp => Nat.ne_of_lt (lt _ (List.mem_cons_of_mem _ (List.mem_cons_of_mem _ hp)))
  rw [hn]
  have hit : IsRangeIter (h'.push { cls := .type "range_iterator", data := .fields #[rawInt 0, rawInt ((k : Nat) : Int), rawInt 1] }) h'.objs.size 0 (k : Int) 1 := Heap.get?_push_size _ rfl
  have loop := nestLoop (s := { s₁ with heap := h'.push { cls := .type "range_iterator", data := .fields #[rawInt 0, rawInt ((k : Nat) : Int), rawInt 1] }, toks := tk }) lr hB hh hx hp hC hout (ht _) (next_is_new F) (Nat.ne_of_lt F.ns.lt) hIC hID offI hCD offC (fun j t' oI ys oC mC h tk => turn _ j t' oI ys oC mC h tk hIC hID offI)
    ⟨_, tk, ys, oC, mC, rfl, F.keeps fun _ _ e => Heap.get?_push_of_some _ e, N.grown fun _ _ e => Heap.get?_push_of_some _ e, hoC, hF, hI⟩ hit
  exact start _ _ _ loop ((range_walks hh 0 k).self 0 _ _ _ (by simpa using hit) loop)
/-- the source of the outermost clause: a range -/
def SrcN (prog : Program) (w : World) (A : Around) (h₀ : Heap) (L : Addr) (m : Str → Option Value) (env : Env) (x : Str) (scope : Scope) (cl : List (Str × Addr)) (Body : Addr → Addr → Shared → (Shared → Prop) → Prop) (Fin : Shared → (Nat → List Value → Prop) → Nat → List (Addr × Obj) → Prop) (xv : Value) (s₁ : Shared) : Prop :=
  ∃ (k : Nat) (Inv : Nat → List Value → Prop) (news : List (Addr × Obj)) (r : Addr) (b : Int) (t u v : Tok), xv = .ref r ∧ IsRange s₁.heap r 0 b 1 t u v ∧ Builtin.Range.small 0 b 1 = true ∧ Builtin.Range.rangeSize 0 b 1 = ((k : Nat) : Int) ∧
    A.handled = none ∧ Fr h₀ L s₁.heap m ∧ News h₀ L s₁.heap news ∧ Inv 0 [] ∧
    (∀ C D : Addr, C ≠ D → (∀ p ∈ news, p.1 ≠ C) → (∀ p ∈ news, p.1 ≠ D) → ∀ I j t' oI ys oC mC h tk, I ≠ C → I ≠ D → (∀ p ∈ news, p.1 ≠ I) → j < k → Inv j ys → NsObj oC mC → mC x = some (.int (j : Int) t') → Fr h₀ L h m → News h₀ L h ((C, oC) :: (D, lst ys) :: (I, oI) :: news) →
      Body C D { s₁ with heap := h, toks := tk } (fun s₅ => CStN h₀ L m C D ((I, oI) :: news) s₁ [] (Inv (j + 1)) s₅)) ∧
    Fin s₁ Inv k news
theorem nestGA {h₀ : Heap} {L : Addr} {m : Str → Option Value} {elt ia : Expr} {g2 : Comprehension} {rest : List Comprehension} {x y : Str} {px py : Pos} {scope : Scope} {cl : List (Str × Addr)} {pos spos : Pos} {env : Env} {Q : Flow → Shared → Prop} {Body : Addr → Addr → Shared → (Shared → Prop) → Prop} (_F₀ : Fr h₀ L s.heap m) (hLe : env.locals = L)
    (lr : ∀ C D : Addr, LR prog w A (.ListComp elt (⟨.Name x px, ia, [], 0⟩ :: g2 :: rest) scope pos) 0 (.Name x px) (.ref D) (compEnvC scope cl C env) (Body C D)) (hB : ∀ C D s P P', (∀ s, P s → P' s) → Body C D s P → Body C D s P')
    (hsw : swapsWith (.ListComp elt (⟨.Name x px, ia, [], 0⟩ :: g2 :: rest) scope pos) (some (.Name y py)) spos.line env = pure true)
    (hclos : closureFor scope env = pure cl) (hcell : ∀ z ∈ scope.names, z.2 ≠ .cell) (hkind : scope.kind = .function)
    (hnames : ∀ z ∈ scope.names, z.2 = .local → scope.names.lookup z.1 = some .local) (hx : scope.names.lookup x = some .local)
    (hy : env.kindOf y = some .local) (hp : (env.scope.kind == .class || (env.scope.kind == .module && env.locals != env.globals)) = false)
    (h : wpAny (model prog w) A (eval ia env) (SrcN prog w A h₀ L m env x scope cl Body
      (fun s₁ Inv k news => ∀ D h tk ys, Fr h₀ L h (fun z => if z = y then some (.ref D) else m z) → News h₀ L h ((D, lst ys) :: news) → (∀ p ∈ news, p.1 ≠ D) → Inv k ys → Q .next { s₁ with heap := h, toks := tk })) E s)
    (hs : ∀ x, foldedSetIterable ia env x = pure x := by intro _; rfl) :
    wpAny (model prog w) A (exec (.Assign [.Name y py] (.ListComp elt (⟨.Name x px, ia, [], 0⟩ :: g2 :: rest) scope pos) spos) env) Q E s := by
  subst hLe
  rw [exec_Assign_Name_used _ _ _ _ hsw]
  refine wpAny_bind (wpAny_standAt (wpAny_bind ?_))
  show wpAny _ A (do let _ ← comprehension (.ListComp elt (⟨.Name x px, ia, [], 0⟩ :: g2 :: rest) scope pos) scope env _ (newList []) false (eval ia env) (some (assign (.Name y py) env))) _ _ s
  refine wpAny_bind (wpAny_mono (wpAny_comprehension_free (use := some (assign (.Name y py) env)) (Q := fun _ s' => Q .next s') rfl hs hclos hkind hnames
    (wpAny_mono h (fun xv s₁ h₁ => ?_) fun _ _ e => e)) (fun _ s' hq => wpAny_pure (wpAny_pure hq)) fun _ _ e => e)
  obtain ⟨k, Inv, news, r, b, t, u, v, rfl, hr, hsm, hn, hh, F, N, hI0, turn, fin⟩ := h₁
  refine wpAny_pyIter_range hr hsm ?_
  rw [hn]
  generalize hH1 : s₁.heap.push { cls := .type "range_iterator", data := .fields #[rawInt 0, rawInt ((k : Nat) : Int), rawInt 1] } = H1
  have hit1 : IsRangeIter H1 s₁.heap.objs.size 0 (k : Int) 1 := by rw [← hH1]; exact Heap.get?_push_size _ rfl
  have up1 : ∀ b o, s₁.heap.get? b = some o → H1.get? b = some o := fun b o e => by rw [← hH1]; exact Heap.get?_push_of_some _ e
  have hs1 : H1.objs.size = s₁.heap.objs.size + 1 := by rw [← hH1, Heap.size_push]
  refine wpAny_newObj_type (wpAny_newFunctionEnv hcell (by intro y hy; simp at hy) (fun h₁ hns₁ hsb₁ => ?_) hkind)
  dsimp only at hns₁ hsb₁ ⊢
  generalize hH2 : H1.push { cls := .type "list", dict := none, data := .seq ([] : List Value).toArray } = H2 at hns₁ hsb₁ ⊢
  have hC : H2.objs.size = H1.objs.size + 1 := by rw [← hH2, Heap.size_push]
  have old2 : ∀ b o, H1.get? b = some o → h₁.get? b = some o := fun b o e => hsb₁.extBut b o (by have := Heap.lt_size e; rw [hC]; exact Nat.ne_of_lt (Nat.lt_succ_of_lt this)) (Heap.get?_push_of_some _ (hH2 ▸ Heap.get?_push_of_some _ e))
  have old : ∀ b o, s₁.heap.get? b = some o → h₁.get? b = some o := fun b o e => old2 b o (up1 b o e)
  have hacc : h₁.get? H1.objs.size = some (lst []) := hsb₁.extBut _ _ (by rw [hC]; exact Nat.ne_of_lt (Nat.lt_succ_self _)) (Heap.get?_push_of_some _ (hH2 ▸ Heap.get?_push_size _ rfl))
  have fresh₀ : ∀ a, s₁.heap.objs.size ≤ a → h₀.get? a = none := fun a ha => by
    cases e : h₀.get? a with
    | none => rfl
    | some o' => exact absurd (Heap.lt_size (F.keep a o' e)) (Nat.not_lt.mpr ha)
  have hLlt : env.locals < s₁.heap.objs.size := F.ns.lt
  obtain ⟨oC, heC, hoC⟩ := ns_obj hns₁
  have l1 : s₁.heap.objs.size < H1.objs.size := by rw [hs1]; exact Nat.lt_succ_self _
  have l12 : H1.objs.size < H2.objs.size := by rw [hC]; exact Nat.lt_succ_self _
  have l2 := Nat.lt_trans l1 l12
  have hCL : H2.objs.size ≠ env.locals := Ne.symm (Nat.ne_of_lt (Nat.lt_trans hLlt l2))
  have hDL : H1.objs.size ≠ env.locals := Ne.symm (Nat.ne_of_lt (Nat.lt_trans hLlt l1))
  have hCD : H2.objs.size ≠ H1.objs.size := Ne.symm (Nat.ne_of_lt l12)
  have offC : ∀ p ∈ news, p.1 ≠ H2.objs.size := fun p hp => Nat.ne_of_lt (Nat.lt_trans (Heap.lt_size (N p hp).1) l2)
  have offI : ∀ p ∈ news, p.1 ≠ s₁.heap.objs.size := fun p hp => Nat.ne_of_lt (Heap.lt_size (N p hp).1)
  have N₁ : News h₀ env.locals h₁ ((H2.objs.size, oC) :: (H1.objs.size, lst []) :: news) := fun p hp => by
    rcases List.mem_cons.mp hp with rfl | hp
    · exact ⟨heC, hCL, fresh₀ _ (Nat.le_of_lt l2)⟩
    · rcases List.mem_cons.mp hp with rfl | hp
      · exact ⟨hacc, hDL, fresh₀ _ (Nat.le_of_lt l1)⟩
      · exact ⟨old _ _ (N p hp).1, (N p hp).2⟩
  have loop := nestLoop (s := { s₁ with heap := h₁, toks := s₁.toks + ([] : List (Str × Value)).length }) (out := []) (lr H2.objs.size H1.objs.size) (hB _ _) hh (lookup_relabel_local hx) (by simp [compEnvC, relabel, hkind]) rfl (fun _ h => nomatch h) (by intro _; rfl) (next_is_new F) (Nat.ne_of_lt hLlt) (Nat.ne_of_lt l2) (Nat.ne_of_lt l1) offI hCD offC
    (fun j t' oI ys oC mC h tk a1 a2 a3 a4 _ a6 a7 => turn _ _ hCD offC (fun p hp => Nat.ne_of_lt (Nat.lt_trans (Heap.lt_size (N p hp).1) l1)) _ j t' oI ys oC mC h tk (Nat.ne_of_lt l2) (Nat.ne_of_lt l1) offI a1 a2 a3 a4 a6 a7)
    ⟨h₁, _, [], oC, _, rfl, F.keeps old, N₁, hoC, (fun _ h => nomatch h), hI0⟩ (old2 _ _ hit1)
  refine codeAny_mono (codeAny_compStart_list loop ((range_walks hh 0 k).self 0 _ _ _ (by simpa using old2 _ _ hit1) loop)) fun rr s' h' => ?_
  obtain ⟨rfl, h', tk, ys, oC', mC, rfl, F', N', hoC', _, hI'⟩ := h'
  show wpAny _ A (assign (.Name y py) env (.ref H1.objs.size)) _ _ _
  refine wpAny_assign_Name (wpAny_storeName_local hy F'.ns (fun h₂ hn₂ hs₂ => ?_) hp)
  have hL₀ : h₀.get? env.locals = none := Heap.get?_none_of_le F'.above
  have F₂ : Fr h₀ env.locals h₂ (fun z => if z = y then some (.ref H1.objs.size) else m z) := ⟨hn₂, fun b o e => hs₂.extBut b o (fun q => by rw [q, hL₀] at e; cases e) (F'.keep b o e), F'.above⟩
  refine ⟨mC, (hoC'.ns (N' _ List.mem_cons_self).1).sameBut hs₂ hCL, fun h'' hs'' => fin H1.objs.size h'' _ ys (F₂.change hs'' hCL (N' _ List.mem_cons_self).2.2) (fun p hp => ?_) (fun p hp => Nat.ne_of_lt (Nat.lt_trans (Heap.lt_size (N p hp).1) l1)) hI'⟩
  have z : h₂.get? p.1 = some p.2 := hs₂.extBut _ _ (N' p (List.mem_cons_of_mem _ hp)).2.1 (N' p (List.mem_cons_of_mem _ hp)).1
  refine ⟨hs''.extBut _ _ ?_ z, (N' p (List.mem_cons_of_mem _ hp)).2⟩
  rcases List.mem_cons.mp hp with rfl | hp
  · exact Ne.symm hCD
  · exact offC p hp
/-- a turn that appends, a turn that does not -/
theorem cStN_append {h₀ : Heap} {L C D : Addr} {m mC : Str → Option Value} {oC : Obj} {news : List (Addr × Obj)} {s₁ : Shared} {out : List (Str × Value)} {Inv : List Value → Prop} {h : Heap} {tk : Nat} {ys : List Value} {x : Value}
    (F : Fr h₀ L h m) (N : News h₀ L h ((C, oC) :: (D, lst ys) :: news)) (hCD : C ≠ D) (offD : ∀ p ∈ news, p.1 ≠ D) (hoC : NsObj oC mC) (hfr : FrameHas out mC) (hsz : ys.length ≤ sizeLine) (hI : Inv (ys ++ [x])) :
    wpAny (model prog w) A (call (.builtin "list.append") [.ref D, x]) (fun _ s₅ => CStN h₀ L m C D news s₁ out Inv s₅) E { s₁ with heap := h, toks := tk } := by
  have zD := N (D, lst ys) (List.mem_cons_of_mem _ List.mem_cons_self)
  refine append_at (hsz := by show ys.toArray.size ≤ sizeLine; rw [List.size_toArray]; exact hsz) zD.1 fun h₆ hs₆ hD₆ => ?_
  refine ⟨h₆, tk, ys ++ [x], oC, mC, rfl, F.change hs₆ zD.2.1 zD.2.2, fun p hp => ?_, hoC, hfr, hI⟩
  rcases List.mem_cons.mp hp with rfl | hp
  · exact ⟨hs₆.extBut _ _ hCD (N _ List.mem_cons_self).1, (N _ List.mem_cons_self).2⟩
  · rcases List.mem_cons.mp hp with rfl | hp
    · exact ⟨hD₆.trans (congrArg some (lst_snoc ys x)), zD.2⟩
    · have z := N p (List.mem_cons_of_mem _ (List.mem_cons_of_mem _ hp))
      exact ⟨hs₆.extBut _ _ (offD p hp) z.1, z.2⟩
end
end Mine
end
/-! Law1 -/
section
open PySem PySem.W PyProof.Rows PySem.Calls
namespace Mine
theorem words_Law1 : True := by (k_with_none; w_top off; trivial)
theorem kfl : ∀ P h, (hd.heap_39 P).In h → PySem.Challenge.rw_gf0001_01 = PySem.Challenge.rw_gf0001_01 := by k_fill; intros; rfl
local macro_rules | `(tactic| walk_at "eval ListComp") => `(tactic| refine Stop.intro ?_)
local macro_rules | `(tactic| walk_at "subscriptTail") => `(tactic| ((with_reducible show wpAny _ _ (subscriptTail (Expr.Name _ _) _ _ _) _ _ _); refine Stop.intro ?_))
local macro_rules | `(tactic| walk_at "pyIter ref") => `(tactic| refine Stop.intro ?_)
local macro_rules | `(tactic| walk_at "newTuple") => `(tactic| refine Stop.intro ?_)
local macro_rules | `(tactic| walk_at "call ref") => `(tactic| refine Stop.intro ?_)
local macro_rules | `(tactic| walk_at "call builtin:list.append") => `(tactic| refine Stop.intro ?_)
local macro_rules | `(tactic| walk_at "compareOp In") => `(tactic| refine Stop.intro ?_)
local macro_rules | `(tactic| walk_at "call builtin:bytes.index") => `(tactic| refine Stop.intro ?_)
local macro_rules | `(tactic| walk_at "getMethod bytes") => `(tactic| with_reducible refine getMethod_by_index ?_)
local macro_rules | `(tactic| walk_at "call builtin:len") => `(tactic| refine Stop.intro ?_)
local macro_rules | `(tactic| walk_at "eval Name") => `(tactic| ((with_reducible show wpAny _ _ (eval (Expr.Name _ _) (compEnvC _ _ _ _)) _ _ _); refine' LCgL.ld_built (by k_asm) (by k_asm) (by k_asm) ?q1 ?q2 ?q3 ?_; (case q1 => k_is); (case q2 => boot_by_name); (case q3 => decide)))
local macro_rules | `(tactic| walk_at "eval Name") => `(tactic| ((with_reducible show wpAny _ _ (eval (Expr.Name _ _) (compEnvC _ _ _ _)) _ _ _); refine' LCgL.ld_global (by k_asm) (by k_asm) (by k_asm) ?q1 ?_; (case q1 => k_is)))
theorem octO_len (n : Nat) : (octO n).length = n := by simp [octO]
theorem octO_in {n : Nat} (h : n < 5) : KBa.In (octO n) := fun x hx => by
  obtain ⟨k, hk, rfl⟩ := List.mem_map.mp hx
  have := List.mem_range.mp hk
  show 0 ≤ (k : Int) ∧ (k : Int) < 256
  omega
theorem many_is (k : Int) : ∃ n : Nat, k.fmod 5 = (n : Int) ∧ n < 5 := by
  have h := fmod_in (n := k) (k := 5) (by decide)
  have e : ((5 : Nat) : Int) = 5 := rfl
  rw [e] at h
  exact ⟨(k.fmod 5).toNat, by omega, by omega⟩
theorem newsCons {h₀ h h' : Heap} {L D : Addr} {m : Str → Option Value} {news : List (Addr × Obj)} {o : Obj} (F : Fr h₀ L h m) (N : News h₀ L h news) (hk : Kp h h') (hD₀ : h.get? D = none) (hD : h'.get? D = some o) : News h₀ L h' ((D, o) :: news) := fun p hp => by
  rcases List.mem_cons.mp hp with rfl | hp
  · refine ⟨hD, fun e => ?_, ?_⟩
    · obtain ⟨o', _, _, eo, _⟩ := F.ns
      have e' : D = L := e
      rw [e'] at hD₀
      exact absurd (hD₀.symm.trans eo) (fun q => nomatch q)
    · cases e : h₀.get? D with
      | none => rfl
      | some o' => exact absurd (hD₀.symm.trans (F.keep _ _ e)) (fun q => nomatch q)
  · exact (N.grown hk) p hp
theorem good_mem {n : Nat} {r : Str} (h : r ∈ goodRows n) : r ∈ rowsP (n : Int) := (List.mem_filter.mp h).1
theorem gVal_good {n : Nat} (h : n < 5) {r : Str} (hr : r ∈ goodRows n) (t : Tok) : gVal (octO n) (KStt.codes r) t = .bytes (byteArr (givenOf n r)) t := by
  unfold gVal
  rw [good_given h r hr]
theorem newsSub {h₀ h : Heap} {L : Addr} {as bs : List (Addr × Obj)} (N : News h₀ L h as) (sub : ∀ p ∈ bs, p ∈ as) : News h₀ L h bs := fun p hp => N p (sub p hp)
theorem BAre.len_eq {vs : List Value} {xs : List (List Int)} (h : BAre vs xs) : vs.length = xs.length := by
  induction h with
  | nil => rfl
  | cons _ ih => simp [ih]
theorem BAre.snoc {vs : List Value} {xs : List (List Int)} (h : BAre vs xs) (x : List Int) (t : Tok) : BAre (vs ++ [Value.bytes (byteArr x) t]) (xs ++ [x]) := by
  induction h with
  | nil => exact .cons .nil
  | cons _ ih => exact .cons ih
theorem BAre.item {vs : List Value} {xs : List (List Int)} (h : BAre vs xs) : ∀ (i : Nat) (v : Value), vs[i]? = some v → ∃ x t, v = Value.bytes (byteArr x) t ∧ xs[i]? = some x := by
  induction h with
  | nil => intro i v e; simp at e
  | cons _ ih =>
    intro i v e
    cases i with
    | zero => simp at e; exact ⟨_, _, e.symm, rfl⟩
    | succ i => simpa using ih i v (by simpa using e)
theorem map_take_succ {α β : Type} (f : α → β) (l : List α) (j : Nat) (r : α) (h : l[j]? = some r) : (l.take (j + 1)).map f = (l.take j).map f ++ [f r] := by
  rw [List.take_add_one, h, List.map_append]; rfl
theorem PairsAt.snoc {prog : Program} {w : World} {K : Type} [DecidableEq K] {knd : KeyKind prog w K} {h : Heap} {vs : List Value} {kvs : List (K × Value)} {P : Addr → Prop} {t : Addr} {o : Obj} {k : K} {key val : Value} {nl : Nat} (x : PairsAt knd h vs kvs P) (ht : P t) (e : h.get? t = some o) (hc : o.cls = .type "tuple") (hd : o.data = .seq #[key, val] nl) (hk : knd.is k key = true) : PairsAt knd h (vs ++ [.ref t]) (kvs ++ [(k, val)]) P := by
  refine ⟨by simp [x.1], fun i v ev => ?_⟩
  rcases Nat.lt_trichotomy i vs.length with hi | hi | hi
  · rw [List.getElem?_append_left hi] at ev
    rw [List.getElem?_append_left (by rw [← x.1]; exact hi)]
    exact x.2 i v ev
  · subst hi
    rw [List.getElem?_append_right (Nat.le_refl _), Nat.sub_self] at ev
    rw [List.getElem?_append_right (by rw [x.1]; exact Nat.le_refl _), x.1, Nat.sub_self]
    exact ⟨t, o, k, key, val, nl, (Option.some.inj ev).symm, ht, e, hc, hd, rfl, hk⟩
  · rw [List.getElem?_eq_none (by rw [List.length_append]; exact hi)] at ev
    exact nomatch ev
theorem PairsAt.mono {prog : Program} {w : World} {K : Type} [DecidableEq K] {knd : KeyKind prog w K} {h : Heap} {vs : List Value} {kvs : List (K × Value)} {P P' : Addr → Prop} (x : PairsAt knd h vs kvs P) (k : ∀ a o, P a → h.get? a = some o → P' a) : PairsAt knd h vs kvs P' :=
  ⟨x.1, fun i v e => let ⟨t, o, kk, key, val, nl, e1, e2, e3, r⟩ := x.2 i v e; ⟨t, o, kk, key, val, nl, e1, k _ _ e2 e3, e3, r⟩⟩
/-- the end of one evaluation within a comprehension's turn -/
theorem cEndGH {GI : Shared → Prop} {h₀ : Heap} {L I C D : Addr} {m : Str → Option Value} {s₁ : Shared} {oI oC oD : Obj} {news : List (Addr × Obj)} {α : Type} {rest : α → Heap → Prop} {y : α} {h' : Heap} {tk : Nat} {all : List (Addr × Obj)} (g : Array GenState)
    (hg : GI { s₁ with gens := g }) (F : Fr h₀ L h' m) (N : News h₀ L h' all) (sub : ∀ p ∈ (I, oI) :: (C, oC) :: (D, oD) :: news, p ∈ all) (r : rest y h') :
    CEndH GI h₀ L m s₁ I oI C oC D oD news rest y { s₁ with heap := h', toks := tk, gens := g } := ⟨h', { s₁ with gens := g }, tk, rfl, ⟨g, rfl⟩, hg, F, fun p hp => N p (sub p hp), r⟩
theorem small_facts {k : Nat} (h : k ≤ 14) : Builtin.Range.small 0 (k : Int) 1 = true ∧ Builtin.Range.rangeSize 0 (k : Int) 1 = ((k : Nat) : Int) := by
  have key : ∀ k : Fin 15, Builtin.Range.small 0 (k.val : Int) 1 = true ∧ Builtin.Range.rangeSize 0 (k.val : Int) 1 = ((k.val : Nat) : Int) := by decide +kernel
  exact key ⟨k, by omega⟩
def TailG (h₀ : Heap) (L : Addr) (m : Str → Option Value) (news : List (Addr × Obj)) (g : Array GenState) (s s' : Shared) : Prop :=
  ∃ h' tk', s' = { s with heap := h', gens := g, toks := tk' } ∧ Fr h₀ L h' m ∧ News h₀ L h' news
theorem stmtG {M : Model} {A : Around} {E : Value → Shared → Prop} {h₀ : Heap} {L : Addr} {m : Str → Option Value} {news : List (Addr × Obj)} {g : Array GenState} {s s₁ : Shared} {env : Env} {st : Stmt} {rest : List Stmt} {prog : Program} {w : World} {Q : Flow → Shared → Prop} (hM : M = model prog w)
    (hst : wpG M A (exec st env) (fun f s' => f = .next ∧ TailG h₀ L m news g s s') E s₁)
    (hrest : ∀ h' tk', Fr h₀ L h' m → News h₀ L h' news → wpG M A (execs rest env) Q E { s with heap := h', gens := g, toks := tk' }) : wpG M A (execs (st :: rest) env) Q E s₁ := by
  subst hM
  refine wpG_execs_cons (wpG_mono hst (fun f s' h => ?_) fun _ _ x => x)
  obtain ⟨rfl, h', tk', rfl, F, N⟩ := h
  exact hrest h' tk' F N
theorem G_callWith_def2 {prog : Program} {w : World} {A : Around} {E : Value → Shared → Prop} {s : Shared} {env : Env} {h₀ : Heap} {pos : Pos} {f : Addr} {o : Obj} {fd : FuncData} {e : Expr} {rest : List Expr} {Q : Value → Shared → Prop} (hf : h₀.get? f = some o) (hdat : o.data = .func fd)
    (h : wpAny (model prog w) A (spliced (backTo pos (starEach (e :: rest) env))) (fun vs s₁ => (∀ b o, h₀.get? b = some o → s₁.heap.get? b = some o) ∧ wpG (model prog w) A (call (.ref f) vs) Q E s₁) E s)
    (he : starEach (e :: rest) env = (false, eval e env) :: starEach rest env := by rfl)
    (hplain : (backTo pos (starEach rest env)).any (·.1) = false := by rfl) (hlen : (backTo pos (starEach rest env)).length ≤ 29 := by decide) :
    wpG (model prog w) A (callWith pos (.ref f) [] (backTo pos (starEach (e :: rest) env)) []) Q E s :=
  G_callWith_def1 hdat (wpAny_mono h (fun _ _ x => ⟨x.1 _ _ hf, x.2⟩) fun _ _ x => x) he hplain hlen
theorem news_ne {h₀ h : Heap} {L : Addr} {news : List (Addr × Obj)} (N : News h₀ L h news) {a b : Addr} {oa ob : Obj} (ha : (a, oa) ∈ news) (hb : (b, ob) ∈ news) (hd : oa.data ≠ ob.data) : a ≠ b := fun e => by
  subst e
  exact hd (congrArg Obj.data (Option.some.inj ((N _ ha).1.symm.trans (N _ hb).1)))
def Ones (ys : List Value) (c : Nat) : Prop := IntsAre ys (List.replicate c 1)
theorem ints_snoc1 : ∀ {vs : List Value} {ns : List Int} (_ : IntsAre vs ns) (t : Tok), IntsAre (vs ++ [.int 1 t]) (ns ++ [1])
  | _, _, .nil, t => .cons 1 t .nil
  | _, _, .cons n u h, t => .cons n u (ints_snoc1 h t)
theorem ints_snocG : ∀ {vs : List Value} {ns : List Int} (_ : IntsAre vs ns) (k : Int) (t : Tok), IntsAre (vs ++ [.int k t]) (ns ++ [k])
  | _, _, .nil, k, t => .cons k t .nil
  | _, _, .cons n u h, k, t => .cons n u (ints_snocG h k t)
theorem Ones.snoc {ys : List Value} {c : Nat} (h : Ones ys c) (t : Tok) : Ones (ys ++ [.int 1 t]) (c + 1) := by
  unfold Ones
  rw [List.replicate_succ']
  exact ints_snoc1 h t
theorem Ones.len {ys : List Value} {c : Nat} (h : Ones ys c) : ys.length = c := by
  have := IntsAre.length h
  rw [List.length_replicate] at this
  exact this
set_option maxHeartbeats 2000000 in
theorem law_ok (w : World) {loose : List Str} {mean : ExcName → Option Value} {mg mb : Str → Option Value} (ns : List Int) (hlen : ns.length ≤ 63) (l : Addr) (vs : List Value) (nl : Nat) (hvs : IntsAre vs ns)
   (Q E : Value → Shared → Prop) (s : Shared) (hl : s.heap.IsList l vs.toArray) (X : (hd.heap_39 w.params).In s.heap) (T : Top hd.view_39 loose mean mg mb s.heap) (hB : AllBare s.gens)
   (hret : ∀ h' g' tk', Kp s.heap h' → AllBare g' → Q (.bool true) { s with heap := h', gens := g', toks := tk' }) :
   wpG (model PR w) AL (call (.ref 73) [.ref l]) Q E s := by
  refine wpG_call ?_
  refine' enterCQ (fun y => if y = Str.ofString "script" then some (.ref l) else none) (fun _ => none) X T.nolimit ?k1 ?k2 ?k3 ?k4 ?k5 ?k6 ?k8 ?k9 ?c1 ?c2 ?c3 ?k7
  case k1 => k_is
  case k2 => k_is
  case k3 => decide
  case k4 => exact BindsTo.of_eq rfl
  case k5 => exact rfl
  case k6 => decide +kernel
  case k8 => rfl
  case k9 => rfl
  case c1 => rfl
  case c2 => rfl
  case c3 => rfl
  intro h₁ tk cells F N Y
  k_cells Y
  rename_i oW oV oU oT dW dV dU dT
  refine wpG_noRaise ?_
  refine wpG_execs_cons (wpG_of ?_)
  k_steps
  obtain ⟨n, hn, hn5⟩ := many_is ns.sum
  rename_i F₁ N₁
  rw [hn] at F₁
  obtain ⟨tm, F₁⟩ : ∃ tm, Fr s.heap s.heap.objs.size _ (fun y => if y = Str.ofString "many" then some (.int (n : Int) tm) else if y = Str.ofString "script" then some (.ref l) else none) := ⟨_, F₁⟩
  refine wpG_execs_cons (wpG_of ?_)
  k_steps
  rename_i h₂ tk₂ t₂ u₂ v₂ hR₂ F₂ N₂ hk₂
  refine call_bytes_range rfl hR₂ (by omega) fun h₃ t₃ k₃ hk₃ => ?_
  replace F₂ := F₂.keeps hk₃
  replace N₂ := N₂.grown hk₃
  clear hR₂ hk₂ hk₃
  k_steps
  refine wpG_execs_cons (wpG_of ?_)
  k_steps
  unfold Stop
  rename_i h₄ oO F₄ N₄ dO
  have X₄ : (hd.heap_39 w.params).In h₄ := fun a o e => F₄.keep _ _ (X a o e)
  have T₄ := T.keeps F₄.keep
  refine' compG (cl := []) (h₀ := s.heap) (L := s.heap.objs.size) (fun s' => AllBare s'.gens) F₄ ?clos (by decide) rfl (by decide) rfl ?_
  case clos => with_unfolding_all rfl
  k_steps
  unfold Stop
  refine weaken (B := AA) (rows_ok w (n : Int) tm (by omega) (by omega) _ _ { s with heap := h₄, toks := _ } X₄ T₄ fun D rv rn h₅ k₅ hk₅ hD₀ hD hrv => ?_) rfl (by show 401 ≤ 500; decide) (by show 603 ≤ 1100; decide) rfl rfl
  have F₅ := F₄.keeps hk₅
  have N₅ := newsCons F₄ N₄ hk₅ hD₀ hD
  clear N₄ hk₅ hD₀ hD X₄ T₄ F₄
  have hlen5 := StrsAre.len_eq hrv
  refine ⟨rv.size, _, fun j qs => StrsAre qs (((rowsP (n : Int)).take j).filter fun r => cOut r.cps.toList), _, .inl ⟨D, rv, rfl, .inr ⟨_, List.mem_cons_self, rfl, _, rfl⟩, rfl, rfl⟩, rfl, F₅, N₅, by
      have := rowsP_len hn5
      simp only [Array.length_toList] at hlen5
      rw [hlen5]; exact this, hB, fun _ _ _ e => e, .nil, fun i ys h => by
      have h1 := StrsAre.len_eq h
      have h2 := List.length_filter_le (fun r : Str => cOut r.cps.toList) ((rowsP (n : Int)).take i)
      have h3 := List.length_take_le i (rowsP (n : Int))
      omega, fun hp => ?turn, fun hp => ?fin⟩
  case turn =>
    rintro j v qs I oI C oC Dq m₂ h₆ tk₆ s₆ E' hj hv hqs ⟨g₆, rfl⟩ hg₆ hC hx F₆ N₆ o6 dd
    obtain ⟨r, tr, rfl, hr⟩ := StrsAre.item hrv j v (by simpa using hv)
    obtain ⟨f1, f2, f3, f4⟩ := rows_fine hn5 r (List.mem_of_getElem? hr)
    have hstep := take_succ_filter (fun r : Str => cOut r.cps.toList) (rowsP (n : Int)) j r hr
    refine wpAny_tests_one ?_
    clear F₅ N₅
    have hF6 := F₆
    have hN6 := N₆
    k_steps
    unfold Stop
    refine weaken (B := AA) (check_ok w r tr f1 f2 f3 _ _ _ (fun a o e => hF6.keep _ _ (X a o e)) (T.keeps hF6.keep) hg₆ fun h₇ g₇ k₇ hk₇ hg₇ => ?_) rfl (by show 401 ≤ 500; decide) (by show 603 ≤ 1100; decide) rfl rfl
    have F₇ := hF6.keeps hk₇
    have N₇ := hN6.grown hk₇
    clear hF6 hN6 hk₇
    cases hc : cOut r.cps.toList with
    | true =>
      k_steps
      refine cEndG (s₁ := { s with heap := hp, gens := g₆, toks := k₅ }) (GI := fun s' => AllBare s'.gens) g₇ hg₇ F₇ N₇ (fun p hp => hp) ?_
      rw [hstep, if_pos hc]
      exact strsAre_snoc hqs
    | false =>
      k_steps
      refine cEndG (s₁ := { s with heap := hp, gens := g₆, toks := k₅ }) (GI := fun s' => AllBare s'.gens) g₇ hg₇ F₇ N₇ (fun p hp => hp) ?_
      rw [hstep, if_neg (by rw [hc]; exact Bool.false_ne_true), List.append_nil]
      exact hqs
  case fin =>
    rintro Dr h₆ tk₆ qs s₆ ⟨g₆, rfl⟩ hg₆ F₆ N₆ o6 hqs
    rw [Array.length_toList] at hlen5
    rw [hlen5, List.take_length] at hqs
    replace hqs : StrsAre qs (goodRows n) := hqs
    replace N₆ : News s.heap s.heap.objs.size h₆ ((Dr, LCg.lst qs) :: _) := fun p hp => N₆ p (by
      rcases List.mem_cons.mp hp with h | h
      · rw [h]; exact List.mem_cons_self
      · exact List.mem_cons_of_mem _ (List.mem_cons_of_mem _ h))
    clear F₅ N₅ hrv hlen5 o6
    have hql := StrsAre.len_eq hqs
    k_steps
    refine wpG_execs_cons (wpG_of ?_)
    k_steps
    rename_i h₇ oR F₇ N₇ dR
    replace N₇ : News s.heap s.heap.objs.size h₇ [(Dr, LCg.lst qs), (s.heap.objs.size + 1 + 1 + 1 + 1, _), (s.heap.objs.size + 1 + 1 + 1, _), (s.heap.objs.size + 1 + 1, oR), (s.heap.objs.size + 1, oO)] := N₇
    have hq14 := good_len hn5
    rw [← hql] at hq14
    have hqs14 : qs.length ≤ 14 := by rw [hq14]; obtain rfl | rfl | rfl | rfl | rfl : n = 0 ∨ n = 1 ∨ n = 2 ∨ n = 3 ∨ n = 4 := by omega
                                      all_goals decide
    unfold Stop
    refine call_len_list (items := qs.toArray) ⟨_, (N₇ _ List.mem_cons_self).1, rfl, _, rfl⟩ (by rw [List.size_toArray]; omega) ?_
    have hcond : ((qs.toArray.size : Nat) : Int) = [1, 1, 2, 5, 14].getD ((n : Int)).toNat 0 := by
      rw [List.size_toArray, Int.toNat_natCast, hq14]
      obtain rfl | rfl | rfl | rfl | rfl : n = 0 ∨ n = 1 ∨ n = 2 ∨ n = 3 ∨ n = 4 := by omega
      all_goals rfl
    k_steps
    · exact absurd hcond (by assumption)
    unfold Stop
    rename_i lC h₈ F₈ N₈ lt₈ t₈ c₈
    refine' compG (cl := [(Str.ofString "octets", s.heap.objs.size + 1)]) (h₀ := s.heap) (L := s.heap.objs.size) (fun s' => AllBare s'.gens) F₈ ?clos (by decide) rfl (by decide) rfl ?_
    case clos => with_unfolding_all rfl
    k_steps
    refine ⟨qs.toArray.size, _, fun j zs => zs = [], _, .inl ⟨Dr, qs.toArray, rfl, .inr ⟨_, List.mem_cons_of_mem _ List.mem_cons_self, rfl, _, rfl⟩, rfl, rfl⟩, rfl, F₈, N₈, by
        rw [List.size_toArray]; unfold sizeLine; omega, hg₆, fun _ _ _ e => e, rfl, fun i ys h => by rw [h]; exact Nat.zero_le _, fun hp => ?turn3, fun hp => ?fin3⟩
    case turn3 =>
      rintro j v zs I oI C oC Dq m₂ h₉ tk₉ s₉ E' hj hv rfl ⟨g₉, rfl⟩ hg₉ hC hx F₉ N₉ o9 dd
      obtain ⟨r, tr, rfl, hr⟩ := StrsAre.item hqs j v (by simpa using hv)
      have hrm := List.mem_of_getElem? hr
      obtain ⟨f1, f2, f3, f4⟩ := rows_fine hn5 r (good_mem hrm)
      refine wpAny_tests_one ?_
      clear F₈ N₈
      have hF9 := F₉
      have hN9 := N₉
      k_steps
      unfold Stop
      refine weaken (B := AA) (given_ok w r tr _ _ (octO n) (KBa.ints_make (octO_in hn5)) (octO_in hn5) f2 (by rw [octO_len]; omega) (by rw [octO_len]; exact f4) _ _ _ (fun a o e => hF9.keep _ _ (X a o e)) (T.keeps hF9.keep) fun t hA kA hkA => ?_) rfl (by show 401 ≤ 500; decide) (by show 603 ≤ 1100; decide) rfl rfl
      rw [gVal_good hn5 hrm]
      have FA := hF9.keeps hkA
      have NA := hN9.grown hkA
      clear hF9 hN9 hkA
      k_steps
      exact cEndG (s₁ := { s with heap := hp, gens := g₆, toks := _ }) (GI := fun s' => AllBare s'.gens) g₉ hg₉ FA NA (fun p hp => hp) rfl
    case fin3 =>
      rintro Dz hA kA zs sA ⟨gA, rfl⟩ hgA FA NA oA rfl
      clear F₈ N₈
      k_steps
      replace hgA : AllBare gA := hgA
      replace hg₆ : AllBare g₆ := hg₆
      refine wpG_execs_cons (wpG_of ?_)
      k_steps
      unfold Stop
      rename_i lE hB FB NB ltB
      refine' compG (cl := [(Str.ofString "octets", s.heap.objs.size + 1)]) (h₀ := s.heap) (L := s.heap.objs.size) (fun s' => AllBare s'.gens) FB ?clos (by decide) rfl (by decide) rfl ?_
      case clos => with_unfolding_all rfl
      k_steps
      refine ⟨qs.toArray.size, _, fun j zs => BAre zs (((goodRows n).take j).map (givenOf n)), _, .inl ⟨Dr, qs.toArray, rfl, .inr ⟨_, List.mem_cons_of_mem _ (List.mem_cons_of_mem _ (List.mem_cons_of_mem _ List.mem_cons_self)), rfl, _, rfl⟩, rfl, rfl⟩, rfl, FB, NB, by
        rw [List.size_toArray]; unfold sizeLine; omega, hgA, fun _ _ _ e => e, .nil, fun i ys h => by
          have h1 := h.len_eq
          have h3 := List.length_take_le i (goodRows n)
          rw [List.length_map] at h1
          omega, fun hp => ?turn4, fun hp => ?fin4⟩
      case turn4 =>
        rintro j v zs I oI C oC Dq m₂ h₉ tk₉ s₉ E' hj hv hzs ⟨g₉, rfl⟩ hg₉ hC hx F₉ N₉ o9 dd
        obtain ⟨r, tr, rfl, hr⟩ := StrsAre.item hqs j v (by simpa using hv)
        have hrm := List.mem_of_getElem? hr
        obtain ⟨f1, f2, f3, f4⟩ := rows_fine hn5 r (good_mem hrm)
        refine wpAny_tests_nil ?_
        clear FB NB
        have hF9 := F₉
        have hN9 := N₉
        k_steps
        unfold Stop
        refine weaken (B := AA) (given_ok w r tr _ _ (octO n) (KBa.ints_make (octO_in hn5)) (octO_in hn5) f2 (by rw [octO_len]; omega) (by rw [octO_len]; exact f4) _ _ _ (fun a o e => hF9.keep _ _ (X a o e)) (T.keeps hF9.keep) fun t hX kX hkX => ?_) rfl (by show 401 ≤ 500; decide) (by show 603 ≤ 1100; decide) rfl rfl
        rw [gVal_good hn5 hrm]
        have FX := hF9.keeps hkX
        have NX := hN9.grown hkX
        clear hF9 hN9 hkX
        k_steps
        refine cEndG (s₁ := { s with heap := hp, gens := gA, toks := _ }) (GI := fun s' => AllBare s'.gens) g₉ hg₉ FX NX (fun p hp => hp) ?_
        show BAre (zs ++ [Value.bytes (byteArr (givenOf n r)) _]) (((goodRows n).take (j + 1)).map (givenOf n))
        rw [map_take_succ _ _ _ _ hr]
        exact hzs.snoc _ _
      case fin4 =>
        rintro Dg hC kC zs sC ⟨gC, rfl⟩ hgC FC NC oC hzs
        replace hgC : AllBare gC := hgC
        rw [List.size_toArray, hql, List.take_length] at hzs
        replace NC := newsSub NC fun p (hp : p ∈ [(Dg, LCg.lst zs), (Dr, LCg.lst qs), (s.heap.objs.size + 1 + 1 + 1 + 1, _), (s.heap.objs.size + 1 + 1 + 1, _), (s.heap.objs.size + 1 + 1, oR), (s.heap.objs.size + 1, oO)]) => by
          rcases List.mem_cons.mp hp with h | h
          · rw [h]; exact List.mem_cons_self
          · exact List.mem_cons_of_mem _ (List.mem_cons_of_mem _ (List.mem_cons_of_mem _ (List.mem_cons_of_mem _ h)))
        clear FB NB oC oA hgA hg₆
        k_steps
        rename_i hD oG FD ND dG
        replace ND : News s.heap s.heap.objs.size hD [(Dg, LCg.lst zs), (Dr, LCg.lst qs), (s.heap.objs.size + 1 + 1 + 1 + 1, _), (s.heap.objs.size + 1 + 1 + 1, oG), (s.heap.objs.size + 1 + 1, oR), (s.heap.objs.size + 1, oO)] := ND
        refine wpG_execs_cons (wpG_of ?_)
        k_steps
        unfold Stop
        rename_i FD ND
        have hzl : zs.length = qs.length := by rw [hzs.len_eq, List.length_map, hql]
        refine' compH (cl := []) (h₀ := s.heap) (L := s.heap.objs.size) (fun s' => AllBare s'.gens) FD ?clos (by decide) rfl (by decide) rfl ?_
        case clos => with_unfolding_all rfl
        k_steps
        refine ⟨fun C h i ys => ∃ kvs, kvs.map (·.1) = (((goodRows n).take i).map fun r => (byteArr (givenOf n r)).toList) ∧ PairsAt (bytesKind PR w) h ys kvs (fun t => C < t), _, Dg, zs.toArray, rfl, .inr ⟨_, List.mem_cons_self, rfl, _, rfl⟩, rfl, FD, ND, by
          rw [List.size_toArray]; unfold sizeLine; omega, hgC, fun _ _ _ e => e, fun _ _ => ⟨[], rfl, rfl, fun i v e => by simp at e⟩, fun C h i ys hi => ?le5, fun C h h' i ys hi hk => ?st5, fun hp => ?turn5, ?fin5⟩
        case le5 =>
          obtain ⟨kvs, e1, e2, _⟩ := hi
          have h1 := congrArg List.length e1
          rw [List.length_map, List.length_map] at h1
          have h3 := List.length_take_le i (goodRows n)
          omega
        case st5 =>
          obtain ⟨kvs, e1, e2⟩ := hi
          exact ⟨kvs, e1, e2.keeps hk⟩
        case turn5 =>
          rintro j v ys I oI C oC Dq m₂ h₉ tk₉ s₉ E' hj hv hys ⟨g₉, rfl⟩ hg₉ hC hx F₉ N₉ o9 dd
          obtain ⟨x, tx, rfl, hx'⟩ := hzs.item j v (by simpa using hv)
          refine wpAny_tests_nil ?_
          clear FD ND
          have hCm := (N₉ _ (List.mem_cons_of_mem _ List.mem_cons_self)).1
          have hF9 := F₉
          have hN9 := N₉
          k_steps
          unfold Stop
          refine wpAny_newTuple ?_ (by show 2 ≤ sizeLine; decide)
          have F₉ := hF9.keeps fun b o e => Heap.get?_push_of_some { cls := .type "tuple", data := .seq #[Value.bytes (byteArr x) tx, Value.int 1 tk₉] } e
          have N₉ := hN9.grown fun b o e => Heap.get?_push_of_some { cls := .type "tuple", data := .seq #[Value.bytes (byteArr x) tx, Value.int 1 tk₉] } e
          clear hF9 hN9
          k_steps
          refine cEndGH (s₁ := { s with heap := hp, gens := g₉, toks := _ }) (GI := fun s' => AllBare s'.gens) g₉ hg₉ F₉ N₉ (fun p hp => hp) ?_
          obtain ⟨kvs, e1, e2⟩ := hys
          rw [List.getElem?_map] at hx'
          obtain ⟨r, hr, rfl⟩ := Option.map_eq_some_iff.mp hx'
          refine ⟨kvs ++ [((byteArr (givenOf n r)).toList, .int 1 tk₉)], ?_, (e2.keeps fun a o _ e => Heap.get?_push_of_some _ e).snoc (Heap.lt_size hCm) (Heap.get?_push_size _ rfl) rfl rfl (by simpa using bytesKind_is PR w (byteArr (givenOf n r)).toList tx)⟩
          rw [List.map_append, e1, map_take_succ _ _ _ _ hr]
          rfl
        case fin5 =>
          rintro hp D₅ C₅ hE kE ys sE ⟨gE, rfl⟩ hgE FE NE oE hys
          replace hgE : AllBare gE := hgE
          clear FD ND
          obtain ⟨kvs, hkv, hpa⟩ := hys
          rw [List.size_toArray, hzl, hql, List.take_length] at hkv
          have hkn : (kvs.map (·.1)).Nodup := by rw [hkv]; exact given_nodup hn5
          have hkl : kvs.length = qs.length := by have := congrArg List.length hkv; rw [List.length_map, List.length_map, ← hql] at this; exact this
          have hFE := FE
          have hNE := NE
          k_steps
          refine call_dict_pairs (nl := ys.length) rfl (hNE _ List.mem_cons_self).1 (hpa.mono fun t o _ e => Heap.lt_size e) (by unfold sizeLine; omega) fun Dd hF kF hkF hDd hdd => ?_
          rw [merged_nil_of_nodup kvs hkn] at hdd
          have FF := hFE.keeps hkF
          have NF := hNE.grown hkF
          clear hFE hNE hpa
          k_steps
          unfold Stop
          refine call_len_dict (kvs := kvs) ?_ hdd (by omega) ?_
          · have h1 : 73 < hE.objs.size := Heap.lt_size (FE.keep _ _ (X 73 _ rfl))
            have h2 : hE.objs.size ≤ Dd := hDd
            exact beq_eq_false_iff_ne.mpr fun e => by
              have e' : Dd = 1 := e
              omega
          clear hDd hdd FE NE oE hkF hp
          replace NF : News s.heap s.heap.objs.size hF [(Dg, LCg.lst zs), (Dr, LCg.lst qs), (s.heap.objs.size + 1 + 1 + 1 + 1, _), (s.heap.objs.size + 1 + 1 + 1, oG), (s.heap.objs.size + 1 + 1, oR), (s.heap.objs.size + 1, oO)] := newsSub NF fun p hp => List.mem_cons_of_mem _ hp
          k_steps
          unfold Stop
          rename Fr _ _ _ _ => FF; rename News _ _ _ _ => NF
          refine call_len_list (items := qs.toArray) ⟨_, (NF _ (List.mem_cons_of_mem _ List.mem_cons_self)).1, rfl, _, rfl⟩ (by rw [List.size_toArray]; omega) ?_
          have hcmp : ((kvs.length : Nat) : Int) = ((qs.toArray.size : Nat) : Int) := by rw [hkl, List.size_toArray]
          k_steps
          · exact absurd hcmp (by assumption)
          unfold Stop
          rename Fr _ _ _ _ => FF; rename News _ _ _ _ => NF
          refine' compG (cl := [(Str.ofString "rows", s.heap.objs.size + 1 + 1), (Str.ofString "given", s.heap.objs.size + 1 + 1 + 1)]) (h₀ := s.heap) (L := s.heap.objs.size) (fun s' => AllBare s'.gens) FF ?clos (by decide) rfl (by decide) rfl ?_
          case clos => with_unfolding_all rfl
          k_steps
          unfold Stop
          rename Fr _ _ _ _ => FF; rename News _ _ _ _ => NF
          refine call_len_list (items := qs.toArray) ⟨_, (NF _ (List.mem_cons_of_mem _ List.mem_cons_self)).1, rfl, _, rfl⟩ (by rw [List.size_toArray]; omega) ?_
          k_steps
          rename_i hG tkG tG uG vG hRG FG NG hkG
          obtain ⟨p1, p2⟩ := small_facts hqs14
          refine ⟨qs.length, _, fun j ys => ys = [], _, .inr ⟨_, _, _, tG, uG, vG, rfl, hRG, p1, p2, rfl⟩, rfl, FG, NG, by unfold sizeLine; omega, hgE, fun _ _ _ e => e, rfl, fun i ys h => by rw [h]; exact Nat.zero_le _, fun hp => ?turn6, fun hp => ?fin6⟩
          case turn6 =>
            rintro j v ws I oI C oC Dq m₂ h₉ tk₉ s₉ E' hj ⟨t', rfl⟩ rfl ⟨g₉, rfl⟩ hg₉ hC hx F₉ N₉ o9 dd
            rw [Int.zero_add] at hx
            refine wpAny_tests_one ?_
            clear FG NG hRG hkG
            dsimp only at hg₉ ⊢
            obtain ⟨r, hr⟩ : ∃ r, (goodRows n)[j]? = some r := ⟨_, List.getElem?_eq_getElem (by omega)⟩
            have hrm := List.mem_of_getElem? hr
            have hzj : zs[j]? = some zs[j] := List.getElem?_eq_getElem (by omega)
            have hqj : qs[j]? = some qs[j] := List.getElem?_eq_getElem (by omega)
            obtain ⟨x, tx, hzx, hx1⟩ := hzs.item j _ hzj
            obtain ⟨r', tr, hqx, hr1⟩ := StrsAre.item hqs j _ hqj
            obtain rfl : r = r' := Option.some.inj (hr.symm.trans hr1)
            rw [List.getElem?_map, hr] at hx1
            obtain rfl : givenOf n r = x := Option.some.inj hx1
            rw [hzx] at hzj
            rw [hqx] at hqj
            have hF9 := F₉
            have hN9 := N₉
            k_steps
            unfold Stop
            refine item_listL (l := zs) ⟨_, (hN9 _ (List.mem_cons_of_mem _ (List.mem_cons_of_mem _ (List.mem_cons_of_mem _ List.mem_cons_self)))).1, rfl, _, rfl⟩ (Int.natCast_nonneg _) (by omega) hzj ?_
            k_steps
            unfold Stop
            rename Fr _ _ _ _ => hF9; rename News _ _ _ _ => hN9
            obtain ⟨b1, b2, b3, b4, b5⟩ := good_back hn5 hrm
            refine weaken (B := AA) (back_ok w _ tx _ (KBa.ints_make b3) b1 b2 b4 _ _ _ (fun a o e => hF9.keep _ _ (X a o e)) (T.keeps hF9.keep) fun t hX kX hkX => ?_) rfl (by show 401 ≤ 500; decide) (by show 603 ≤ 1100; decide) rfl rfl
            rw [b5]
            have FX := hF9.keeps hkX
            have NX := hN9.grown hkX
            clear hF9 hN9 hkX
            k_steps
            unfold Stop
            rename News _ _ _ _ => NX
            refine item_listL (l := qs) ⟨_, (NX _ (List.mem_cons_of_mem _ (List.mem_cons_of_mem _ (List.mem_cons_of_mem _ (List.mem_cons_of_mem _ List.mem_cons_self))))).1, rfl, _, rfl⟩ (Int.natCast_nonneg _) (by omega) hqj ?_
            k_steps
            · rename_i hne
              exact absurd hne (by simp)
            exact cEndG (s₁ := { s with heap := hp, gens := g₉, toks := _ }) (GI := fun s' => AllBare s'.gens) g₉ hg₉ FX NX (fun p hp => hp) rfl
          case fin6 =>
            rintro Dz₂ hH kH ws sH ⟨gH, rfl⟩ hgH FH NH oH rfl
            clear FG NG hRG hkG
            k_steps
            rename Fr _ _ _ _ => FH; rename News _ _ _ _ => NH
            replace hgH : AllBare gH := hgH
            replace NH := newsSub NH fun p (hp : p ∈ [(Dg, LCg.lst zs), (Dr, LCg.lst qs), (s.heap.objs.size + 1 + 1 + 1 + 1, oW), (s.heap.objs.size + 1 + 1 + 1, oG), (s.heap.objs.size + 1 + 1, oR), (s.heap.objs.size + 1, oO)]) => List.mem_cons_of_mem _ (List.mem_cons_of_mem _ hp)
            obtain ⟨c1, c2, c3⟩ := deep_ok hn5
            dsimp only
            refine stmtG (s := s) (g := gH) rfl (h₀ := s.heap) (L := s.heap.objs.size) (news := [(Dg, LCg.lst zs), (Dr, LCg.lst qs), (s.heap.objs.size + 1 + 1 + 1 + 1, oW), (s.heap.objs.size + 1 + 1 + 1, oG), (s.heap.objs.size + 1 + 1, oR), (s.heap.objs.size + 1, oO)]) (m := fun y => if y = Str.ofString "many" then some (.int (n : Int) tm) else if y = Str.ofString "script" then some (.ref l) else none) (G_If_And ?_) fun hI kI FI NI => ?_
            · have hFH := FH
              have hNH := NH
              k_steps
              · refine wpG_of ?_
                k_steps
                unfold Stop
                clear FH NH
                refine weaken (B := AA) (given_ok w (deepS n) _ _ _ (octO n) (KBa.ints_make (octO_in hn5)) (octO_in hn5) c1 (by rw [octO_len]; omega) (by rw [octO_len]; exact c2) _ _ _ (fun a o e => hFH.keep _ _ (X a o e)) (T.keeps hFH.keep) fun t hX kX hkX => ?_) rfl (by show 401 ≤ 500; decide) (by show 603 ≤ 1100; decide) rfl rfl
                rw [c3]
                have FX := hFH.keeps hkX
                have NX := hNH.grown hkX
                clear hFH hNH hkX
                k_steps
                refine G_Call_Name ?_
                k_steps
                refine G_callWith_def2 (X 42 _ rfl) rfl ?_ (hlen := by show 1 ≤ 29; decide)
                k_steps
                rename Fr _ _ _ _ => hFH; rename News _ _ _ _ => hNH
                refine weakenG (B := AA) (swap_ok w _ _ (octO n) (KBa.ints_make (octO_in hn5)) (octO_in hn5) _ _ (by rw [octO_len]) (by assumption) (by omega) _ _ _ (fun a o e => hFH.keep _ _ (X a o e)) (T.keeps hFH.keep) fun t' hY kY hkY => ?_) rfl (by show 401 ≤ 500; decide) (by show 603 ≤ 1100; decide) rfl rfl
                have FX := hFH.keeps hkY
                have NX := hNH.grown hkY
                clear hFH hNH hkY
                k_steps
                · rename_i hne
                  exact absurd hne (by simp)
                · trivial
                · exact ⟨_, _, rfl, FX, NX⟩
              · exact ⟨_, _, rfl, by assumption, by assumption⟩
            · clear FH NH
              refine wpG_execs_cons (wpG_of ?_)
              k_steps
              unfold Stop
              refine weaken (B := AA) (order_ok w l vs ns (n : Int) tm (by omega) (by omega) (by assumption) hlen _ _ _ (by obtain ⟨o, e, r⟩ := hl; exact ⟨o, FI.keep _ _ e, r⟩) (fun a o e => FI.keep _ _ (X a o e)) (T.keeps FI.keep) fun tW hJ kJ hkJ => ?_) rfl (by show 401 ≤ 500; decide) (by show 603 ≤ 1100; decide) rfl rfl
              have FJ := FI.keeps hkJ
              have NJ := NI.grown hkJ
              clear FI NI hkJ
              have DF := drawn_facts ns hn5
              unfold oVal
              have ne1 : @Ne Nat Dg (s.heap.objs.size + 1 + 1 + 1 + 1) := news_ne NJ (a := Dg) List.mem_cons_self (List.mem_cons_of_mem _ (List.mem_cons_of_mem _ List.mem_cons_self)) (by rw [dW]; exact fun q => nomatch q)
              have ne2 : @Ne Nat Dr (s.heap.objs.size + 1 + 1 + 1 + 1) := news_ne NJ (a := Dr) (List.mem_cons_of_mem _ List.mem_cons_self) (List.mem_cons_of_mem _ (List.mem_cons_of_mem _ List.mem_cons_self)) (by rw [dW]; exact fun q => nomatch q)
              k_steps
              rename Fr _ _ _ _ => FK; rename News _ _ _ _ => NK
              refine wpG_execs_cons (wpG_of ?_)
              refine' nestGA (h₀ := s.heap) (L := s.heap.objs.size) (cl := [(Str.ofString "drawn", s.heap.objs.size + 1 + 1 + 1 + 1)]) FK rfl (fun C D => lr_0 rfl rfl (by intro _; rfl)) (fun C D s P P' => bodyOut_mono) ?hsw ?clos (by decide) rfl (by decide) rfl rfl rfl ?_
              case hsw => with_unfolding_all rfl
              case clos => with_unfolding_all rfl
              rename_i hK oD dD
              obtain ⟨p1, p2⟩ := small_facts (k := n) (by omega)
              k_steps
              rename_i hM tkM tR uR vR hRM FM NM hkM
              refine ⟨n, fun j ys => Ones ys (cA (oOut ns n) j) ∧ cA (oOut ns n) j ≤ 16 * j, _, _, _, tR, uR, vR, rfl, hRM, p1, p2, rfl, FM, NM, ⟨.nil, Nat.le_refl _⟩, fun C D hCD offC offD I j t' oI ys oC mC h tk hIC hID offI hj hinv hoC hmx F N => ?turnA, fun D h tk ys F N offD hinv => ?finA⟩
              case turnA =>
                unfold BodyOut
                clear FM NM hRM hkM
                k_steps
                unfold Stop
                rename_i hP tkP tS uS vS hRS FS NS hkS
                obtain ⟨q1, q2⟩ := small_facts (k := j) (by omega)
                have hinv1 : Ones ys (cA (oOut ns n) j) := hinv.1
                have hinv2 : cA (oOut ns n) j ≤ 16 * j := hinv.2
                refine wpAny_mono (nestStart (k := j) (s₁ := { s with heap := h, gens := gH, toks := tk }) (out := [(Str.ofString "a", .int (j : Int) t')]) (Inv := fun b ys => Ones ys (cA (oOut ns n) j + cB (oOut ns n) j b) ∧ cA (oOut ns n) j + cB (oOut ns n) j b ≤ 16 * j + 4 * b) (lr_1 rfl rfl (by intro _; rfl)) (fun s P P' => bodyOut_mono) rfl (fun it' s' R h0 h1 => codeAny_compStart_d rfl rfl rfl (fun _ => rfl) (fun _ => rfl) h0 h1 rfl) rfl rfl rfl (by intro p hp; rw [List.mem_singleton.mp hp]; show Str.ofString "a" ≠ Str.ofString "b"; decide) (by intro _ _; rfl) hCD (fun p hp => by
                    rcases List.mem_cons.mp hp with rfl | hp
                    · exact hIC
                    · exact offC p hp) hRS q1 q2 (fun I₂ j₂ t₂' oI₂ ys₂ oC₂ mC₂ h₂' tk₂' hIC₂ hID₂ offI₂ hj₂ hinv₂ hoC₂ hmx₂ hfr₂ F₂' N₂' => ?turnB) ⟨hP, _, ys, oC, mC, rfl, FS, NS, hoC, (fun p hp => by rw [List.mem_singleton.mp hp]; exact hmx), hinv1, by show cA (oOut ns n) j + 0 ≤ _; omega⟩) (fun it' s₄ hh => codeAny_mono hh fun rr s₅ hx => ⟨hx.1, ?convB⟩) (fun _ _ x => x)
                case convB =>
                  obtain ⟨_, h', tk', ys', oC', mC', e1, e2, e3, e4, _, e5, e6⟩ := hx
                  exact ⟨h', tk', ys', oC', mC', e1, e2, e3, e4, (fun _ h => nomatch h), by rw [cA_succ]; exact e5, by rw [cA_succ]; omega⟩
                case turnB =>
                  unfold BodyOut
                  clear FS NS hRS hkS
                  have hmxa := hfr₂ _ List.mem_cons_self
                  k_steps
                  unfold Stop
                  rename_i hP₂ tkP₂ tS₂ uS₂ vS₂ hRS₂ FS₂ NS₂ hkS₂
                  obtain ⟨z1, z2⟩ := small_facts (k := j₂) (by omega)
                  have hv1 : Ones ys₂ (cA (oOut ns n) j + cB (oOut ns n) j j₂) := hinv₂.1
                  have hv2 : cA (oOut ns n) j + cB (oOut ns n) j j₂ ≤ 16 * j + 4 * j₂ := hinv₂.2
                  refine wpAny_mono (nestStart (k := j₂) (s₁ := { s with heap := h₂', gens := gH, toks := tk₂' }) (out := [(Str.ofString "b", .int (j₂ : Int) t₂'), (Str.ofString "a", .int (j : Int) t')]) (Inv := fun c ys => Ones ys (cA (oOut ns n) j + cB (oOut ns n) j j₂ + cC (oOut ns n) j j₂ c) ∧ cA (oOut ns n) j + cB (oOut ns n) j j₂ + cC (oOut ns n) j j₂ c ≤ 16 * j + 4 * j₂ + c) (lr_2 rfl) (fun s P P' => bodyIn_mono) rfl (fun it' s' R h0 h1 => codeAny_compStart_d rfl rfl rfl (fun _ => rfl) (fun _ => rfl) h0 h1 rfl) rfl rfl rfl (by
                    intro p hp
                    rcases List.mem_cons.mp hp with rfl | hp
                    · show Str.ofString "b" ≠ Str.ofString "c"; decide
                    · rw [List.mem_singleton.mp hp]; show Str.ofString "a" ≠ Str.ofString "c"; decide) (by intro _ _; rfl) hCD (fun p hp => by
                    rcases List.mem_cons.mp hp with rfl | hp
                    · exact hIC₂
                    · rcases List.mem_cons.mp hp with rfl | hp
                      · exact hIC
                      · exact offC p hp) hRS₂ z1 z2 (fun I₃ j₃ t₃' oI₃ ys₃ oC₃ mC₃ h₃' tk₃' hIC₃ hID₃ offI₃ hj₃ hinv₃ hoC₃ hmx₃ hfr₃ F₃' N₃' => ?turnC) ⟨hP₂, _, ys₂, oC₂, mC₂, rfl, FS₂, NS₂, hoC₂, (fun p hp => by
                    rcases List.mem_cons.mp hp with rfl | hp
                    · exact hmx₂
                    · rw [List.mem_singleton.mp hp]; exact hmxa), hv1, by show cA (oOut ns n) j + cB (oOut ns n) j j₂ + 0 ≤ _; omega⟩) (fun it' s₄ hh => codeAny_mono hh fun rr s₅ hx => ⟨hx.1, ?convC⟩) (fun _ _ x => x)
                  case convC =>
                    obtain ⟨_, h', tk', ys', oC', mC', e1, e2, e3, e4, e7, e5, e6⟩ := hx
                    exact ⟨h', tk', ys', oC', mC', e1, e2, e3, e4, (fun p hp => e7 p (List.mem_cons_of_mem _ hp)), by rw [cB_succ, ← Nat.add_assoc]; exact e5, by rw [cB_succ]; omega⟩
                  case turnC =>
                    unfold BodyIn
                    clear FS₂ NS₂ hRS₂ hkS₂
                    have hmxb : mC₃ (Str.ofString "b") = some (.int (j₂ : Int) t₂') := hfr₃ _ List.mem_cons_self
                    have hmxa₃ : mC₃ (Str.ofString "a") = some (.int (j : Int) t') := hfr₃ _ (List.mem_cons_of_mem _ List.mem_cons_self)
                    have hI1 : Ones ys₃ (cA (oOut ns n) j + cB (oOut ns n) j j₂ + cC (oOut ns n) j j₂ j₃) := hinv₃.1
                    have hI2 : cA (oOut ns n) j + cB (oOut ns n) j j₂ + cC (oOut ns n) j j₂ j₃ ≤ 16 * j + 4 * j₂ + j₃ := hinv₃.2
                    refine wpAny_tests_one ?_
                    k_steps
                    unfold Stop
                    refine KBw.item_K (KBa.ints_make DF.isIn) (by rw [DF.len]; omega) (Int.natCast_nonneg _) (by rw [DF.len]; omega) (fun tb₁ kb₁ hb0 hb1 => ?_)
                    k_steps
                    unfold Stop
                    refine KBw.item_K (KBa.ints_make DF.isIn) (by rw [DF.len]; omega) (Int.natCast_nonneg _) (by rw [DF.len]; omega) (fun tb₂ kb₂ ha0 ha1 => ?_)
                    have offD₃ : ∀ p ∈ [(I₃, oI₃), (I₂, oI₂), (I, oI), (Dg, LCg.lst zs), (Dr, LCg.lst qs), (s.heap.objs.size + 1 + 1 + 1 + 1, oD), (s.heap.objs.size + 1 + 1 + 1, oG), (s.heap.objs.size + 1 + 1, oR), (s.heap.objs.size + 1, oO)], p.1 ≠ D := fun p hp => by
                      rcases List.mem_cons.mp hp with rfl | hp
                      · exact hID₃
                      · rcases List.mem_cons.mp hp with rfl | hp
                        · exact hID₂
                        · rcases List.mem_cons.mp hp with rfl | hp
                          · exact hID
                          · exact offD p hp
                    have hF3 := F₃'
                    have hN3 := N₃'
                    k_steps
                    · unfold Stop
                      refine KBw.item_K (KBa.ints_make DF.isIn) (by rw [DF.len]; omega) (Int.natCast_nonneg _) (by rw [DF.len]; omega) (fun tb₃ kb₃ hc0 hc1 => ?_)
                      k_steps
                      · unfold Stop
                        have hbad : badP (oOut ns n) j j₂ j₃ = true := decide_eq_true ⟨by assumption, by assumption⟩
                        refine cStN_append (s₁ := { s with heap := h₂', gens := gH, toks := tk₂' }) hF3 hN3 hCD offD₃ hoC₃ hfr₃ (by rw [hI1.len]; unfold sizeLine; omega) ⟨?_, ?_⟩
                        · rw [cC_succ, if_pos hbad, ← Nat.add_assoc]; exact hI1.snoc _
                        · rw [cC_succ, if_pos hbad]; omega
                      · have hbad : ¬ badP (oOut ns n) j j₂ j₃ = true := fun q => absurd (of_decide_eq_true q).2 (by assumption)
                        exact ⟨h₃', _, ys₃, oC₃, mC₃, rfl, hF3, hN3, hoC₃, hfr₃, by rw [cC_succ, if_neg hbad]; exact hI1, by rw [cC_succ, if_neg hbad]; omega⟩
                    · have hbad : ¬ badP (oOut ns n) j j₂ j₃ = true := fun q => absurd (of_decide_eq_true q).1 (by assumption)
                      exact ⟨h₃', _, ys₃, oC₃, mC₃, rfl, hF3, hN3, hoC₃, hfr₃, by rw [cC_succ, if_neg hbad]; exact hI1, by rw [cC_succ, if_neg hbad]; omega⟩
              case finA =>
                clear FM NM hRM hkM
                dsimp only
                obtain ⟨hO, hO2⟩ : Ones ys (cA (oOut ns n) n) ∧ cA (oOut ns n) n ≤ 16 * n := hinv
                have hzL := hzs
                rw [given_eqL hn5] at hzL
                by_cases hz : cA (oOut ns n) n = 0
                · obtain ⟨g1, r, g2, g3, g4, g5, g6⟩ := DF.good hz
                  rw [hz] at hO
                  obtain rfl : ys = [] := List.eq_nil_of_length_eq_zero hO.len
                  refine wpG_execs_cons (wpG_of ?_)
                  k_steps
                  unfold Stop
                  rename Fr _ _ _ _ => hF; rename News _ _ _ _ => hN
                  refine in_list_bytes (vs := zs) (xs := givenL n) ⟨_, (hN _ (List.mem_cons_of_mem _ List.mem_cons_self)).1, rfl, _, rfl⟩ hzL ?_
                  rw [g1]
                  k_steps
                  unfold Stop
                  clear hF hN
                  rename Fr _ _ _ _ => hF; rename News _ _ _ _ => hN
                  refine weaken (B := AA) (back_ok w _ tW _ (KBa.ints_make DF.isIn) (by rw [DF.len]; omega) DF.small DF.noNone _ _ _ (fun a o e => hF.keep _ _ (X a o e)) (T.keeps hF.keep) fun tb₁ hX kX hkX => ?_) rfl (by show 401 ≤ 500; decide) (by show 603 ≤ 1100; decide) rfl rfl
                  rw [g2]
                  have FX := hF.keeps hkX
                  have NX := hN.grown hkX
                  clear hF hN hkX
                  k_steps
                  clear FX NX
                  rename Fr _ _ _ _ => hF; rename News _ _ _ _ => hN
                  replace hN := newsSub hN fun p (hp : p ∈ [(D, LCg.lst []), (Dg, LCg.lst zs), (Dr, LCg.lst qs), (s.heap.objs.size + 1 + 1 + 1 + 1, oD), (s.heap.objs.size + 1 + 1 + 1, oG), (s.heap.objs.size + 1 + 1, oR), (s.heap.objs.size + 1, oO)]) => List.mem_cons_of_mem _ (List.mem_cons_of_mem _ hp)
                  refine wpG_execs_cons (wpG_of ?_)
                  k_steps
                  unfold Stop
                  clear hF hN
                  rename Fr _ _ _ _ => hF; rename News _ _ _ _ => hN
                  replace hN := newsSub hN fun p (hp : p ∈ [(D, LCg.lst []), (Dg, LCg.lst zs), (Dr, LCg.lst qs), (s.heap.objs.size + 1 + 1 + 1 + 1, oD), (s.heap.objs.size + 1 + 1 + 1, oG), (s.heap.objs.size + 1 + 1, oR), (s.heap.objs.size + 1, oO)]) => List.mem_cons_of_mem _ hp
                  refine' compG (cl := [(Str.ofString "drawn", s.heap.objs.size + 1 + 1 + 1 + 1)]) (h₀ := s.heap) (L := s.heap.objs.size) (fun s' => AllBare s'.gens) hF ?clos (by decide) rfl (by decide) rfl ?_
                  case clos => with_unfolding_all rfl
                  k_steps
                  rename_i hU tkU tU uU vU hRU FU NU hkU
                  refine ⟨n, _, fun j ys => IntsAre ys ((List.range j).map fun k => ((plOf (oOut ns n) k : Nat) : Int)), _, .inr ⟨_, _, _, tU, uU, vU, rfl, hRU, p1, p2, rfl⟩, rfl, FU, NU, by unfold sizeLine; omega, hgH, fun _ _ _ e => e, .nil, fun i ys h => by have := IntsAre.length h; rw [List.length_map, List.length_range] at this; exact Nat.le_of_eq this, fun hp => ?turn8, fun hp => ?fin8⟩
                  case turn8 =>
                    rintro j v ws I oI C oC Dq m₂ h₉ tk₉ s₉ E' hj ⟨t', rfl⟩ hws ⟨g₉, rfl⟩ hg₉ hC hx F₉ N₉ o9 dd
                    rw [Int.zero_add] at hx
                    refine wpAny_tests_nil ?_
                    clear FU NU hRU hkU
                    dsimp only at hg₉ ⊢
                    obtain ⟨i1, i2⟩ := g6 j hj
                    have hF9 := F₉
                    have hN9 := N₉
                    k_steps
                    unfold Stop
                    refine call_by_index (Int.natCast_nonneg _) (by omega) i1 (by rw [byteArr_size, DF.len]; omega) fun t₈ k₈ => ?_
                    refine cEndG (s₁ := { s with heap := hp, gens := g₉, toks := _ }) (GI := fun s' => AllBare s'.gens) g₉ hg₉ hF9 hN9 (fun p hp => hp) ?_
                    rw [List.range_succ, List.map_append]
                    exact ints_snocG hws _ t₈
                  case fin8 =>
                    rintro Dp hV kV ws sV ⟨gV, rfl⟩ hgV FV NV oV hws
                    clear FU NU hRU hkU
                    replace hgV : AllBare gV := hgV
                    have plIn := placesOf_in (d := oOut ns n) hn5 fun k hk => (g6 k hk).2
                    k_steps
                    refine KBa.make_K FV NV rfl ⟨_, (NV _ List.mem_cons_self).1, rfl, _, rfl⟩ hws plIn (by rw [List.length_map, List.length_range]; omega) fun hW tp kW FW NW _ => ?_
                    clear FV NV oV
                    k_steps
                    unfold Stop
                    try clear FW
                    rename Fr _ _ _ _ => hF; rename News _ _ _ _ => hN
                    refine weaken (B := AA) (back_ok w _ tW _ (KBa.ints_make DF.isIn) (by rw [DF.len]; omega) DF.small DF.noNone _ _ _ (fun a o e => hF.keep _ _ (X a o e)) (T.keeps hF.keep) fun tb₂ hX kX hkX => ?_) rfl (by show 401 ≤ 500; decide) (by show 603 ≤ 1100; decide) rfl rfl
                    rw [g2]
                    have FX := hF.keeps hkX
                    have NX := hN.grown hkX
                    clear hF hN hkX
                    k_steps
                    unfold Stop
                    rename Fr _ _ _ _ => hF; rename News _ _ _ _ => hN
                    have plL := placesOf_len n (oOut ns n)
                    refine weaken (B := AA) (given_ok w r _ _ _ (placesOf n (oOut ns n)) (KBa.ints_make plIn) plIn g3 (by rw [plL]; omega) (by rw [plL]; exact g4) _ _ _ (fun a o e => hF.keep _ _ (X a o e)) (T.keeps hF.keep) fun tg hY kY hkY => ?_) rfl (by show 401 ≤ 500; decide) (by show 603 ≤ 1100; decide) rfl rfl
                    rw [g5]
                    have FY := hF.keeps hkY
                    have NY := hN.grown hkY
                    clear hF hN hkY
                    k_steps
                    have e9 : ((byteArr (octO n)).toList == (byteArr (List.map Int.ofNat (List.range n))).toList) = true := beq_self_eq_true (byteArr (octO n)).toList
                    rw [e9]
                    exact hret _ _ _ FY.keep hgV
                · obtain ⟨g1, g2⟩ := DF.bad hz
                  obtain ⟨c, hc⟩ := Nat.exists_eq_succ_of_ne_zero hz
                  have hO1 : IntsAre ys (1 :: List.replicate c 1) := by rw [hc] at hO; exact hO
                  clear hO
                  refine wpG_execs_cons (wpG_of ?_)
                  k_steps
                  unfold Stop
                  rename Fr _ _ _ _ => hF; rename News _ _ _ _ => hN
                  refine in_list_bytes (vs := zs) (xs := givenL n) ⟨_, (hN _ (List.mem_cons_of_mem _ List.mem_cons_self)).1, rfl, _, rfl⟩ hzL ?_
                  rw [g1]
                  have hdec : decide ((1 :: List.replicate c 1 : List Int) = []) = false := decide_eq_false fun q => nomatch q
                  k_steps
                  all_goals try (exfalso; rename_i hx; rw [hdec] at hx; exact Bool.false_ne_true hx)
                  rename_i hx
                  clear hx
                  unfold Stop
                  try clear hF
                  try clear hN
                  rename Fr _ _ _ _ => hF; rename News _ _ _ _ => hN
                  refine weaken (B := AA) (back_ok w _ tW _ (KBa.ints_make DF.isIn) (by rw [DF.len]; omega) DF.small DF.noNone _ _ _ (fun a o e => hF.keep _ _ (X a o e)) (T.keeps hF.keep) fun tb₁ hX kX hkX => ?_) rfl (by show 401 ≤ 500; decide) (by show 603 ≤ 1100; decide) rfl rfl
                  rw [g2]
                  have FX := hF.keeps hkX
                  have NX := hN.grown hkX
                  clear hF hN hkX
                  k_steps
                  all_goals try (exfalso; rename_i hx; rw [hdec] at hx; exact Bool.false_ne_true hx)
                  rename_i hx
                  clear hx
                  rename Fr _ _ _ _ => hF; rename News _ _ _ _ => hN
                  refine wpG_execs_cons (wpG_of ?_)
                  k_steps
                  all_goals try (exfalso; rename_i hx; rw [hdec] at hx; exact Bool.false_ne_true hx)
                  rename Fr _ _ _ _ => hF; rename News _ _ _ _ => hN
                  refine wpG_execs_cons (wpG_of ?_)
                  k_steps
                  exact hret _ _ _ hF.keep hgH
end Mine
end
/-! Fin -/
section
open PySem PySem.W PyProof.Rows PySem.Calls
namespace Mine
theorem words_Fin : True := by (k_with_none; w_top off; trivial)
set_option maxHeartbeats 4000000 in
theorem hold1 : PySem.Challenge.rw_gf0001_01.Holds := hd (by
  intro w s₀ s₁ mg mb G Y fa o pm cd doc dV kV ho hd' hcd hD hmg hg args vals as hpre hlay hrd hwl hlo
  have KX := kIn_of Y
  have T := Ground.T G
  replace hmg : mg (Str.ofString "law") = some (.ref fa) := hmg
  have e73 := mg_of KX T.g (n := Str.ofString "law") (v := .ref 73) (by kernel_rfl)
  rw [hmg] at e73
  obtain rfl : fa = 73 := by injection e73 with e73; injection e73
  wrow_args hpre hlay hrd hwl hlo
  clear Y G ho hd' hcd hD
  rename_i ns _ _ _ _ _ _ _ l vs _ hL _ _ _ hI _ hc _
  refine weakenG (B := AL) (law_ok w ns (by omega) l vs 0 hI _ _ _ hL KX T (by rw [hg]; exact AllBare.empty) fun h' g' tk' hk hb => ?_) rfl (by show 301 ≤ 400; decide) (by show 4 ≤ 600; decide) rfl rfl
  exact ⟨.inl ⟨_, .bool true, [], rfl, fun _ => rfl, ReadsW.bool true, (by first | rfl | wrow_post), fun _ => ⟨List.nodup_nil, fun _ h => nomatch h⟩⟩, OldK.of_keep hk, rfl, hb⟩)
end Mine
end
theorem PySem.Challenge.cw_gf0001_01_holds : PySem.Challenge.rw_gf0001_01.Holds :=
  Mine.hold1
