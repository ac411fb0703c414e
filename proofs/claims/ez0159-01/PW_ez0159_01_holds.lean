import PyProof.Rows.All
import Wide.All
import OpenK.AllK
import Wide.FinOn
import Lean
import PySem.Challenge.RW_ez0159_01
set_option Elab.async false
section -- Hd
open PySem PySem.W PyProof.Rows
set_option maxRecDepth 100000
set_option maxHeartbeats 0
namespace Mine
open_top hd for PySem.Challenge.rw_ez0159_01
end Mine
end
-- the head leaves the walker set for the top: turn that off
theorem Mine.topOff : True := by
  w_top off
  exact True.intro
section -- M0
open PySem PySem.W PySem.Calls PyProof.Rows
namespace Mine
/-- the law's own terms -/
inductive Kd where
  | row | lst | dct
def Kd.nm : Kd → Str
  | .row => Str.ofString "row"
  | .lst => Str.ofString "list"
  | .dct => Str.ofString "dict"
inductive Tm where
  | num (n : Int)
  | var (i : Int)
  | node (k : Kd) (ts : List Tm)
mutual
def Tm.depth : Tm → Nat
  | .num _ => 0
  | .var _ => 0
  | .node _ ts => Tm.depths ts + 1
def Tm.depths : List Tm → Nat
  | [] => 0
  | t :: r => max t.depth (Tm.depths r)
end
-- how a heap bears a term at a value; the addresses of X are not touched
mutual
def TmAt (h : Heap) (X : List Addr) : Tm → Value → Prop
  | .num n, v => ∃ a t1 t2, v = .ref a ∧ a ∉ X ∧ IsTup h a #[.str (Str.ofString "num") t1, .int n t2]
  | .var i, v => ∃ a t1 t2, v = .ref a ∧ a ∉ X ∧ IsTup h a #[.str (Str.ofString "var") t1, .int i t2]
  | .node k ts, v => ∃ a t1 l vs, v = .ref a ∧ a ∉ X ∧ l ∉ X ∧ IsTup h a #[.str k.nm t1, .ref l] ∧ h.IsList l vs.toArray ∧ TmsAt h X ts vs
def TmsAt (h : Heap) (X : List Addr) : List Tm → List Value → Prop
  | [], vs => vs = []
  | t :: r, vs => ∃ v vs', vs = v :: vs' ∧ TmAt h X t v ∧ TmsAt h X r vs'
end
/-- what stands outside X stays -/
def KeepX (X : List Addr) (h h' : Heap) : Prop := ∀ b o, b ∉ X → h.get? b = some o → h'.get? b = some o
theorem KeepX.refl {X h} : KeepX X h h := fun _ _ _ e => e
theorem KeepX.trans {X h h' h''} (a : KeepX X h h') (b : KeepX X h' h'') : KeepX X h h'' := fun c o n e => b c o n (a c o n e)
theorem KeepX.of {X h h'} (k : ∀ b o, h.get? b = some o → h'.get? b = some o) : KeepX X h h' := fun b o _ e => k b o e
theorem isTup_at {h h' : Heap} {a : Addr} {xs : Array Value} (x : IsTup h a xs) (e : ∀ o, h.get? a = some o → h'.get? a = some o) : IsTup h' a xs := let ⟨o, ho, r⟩ := x; ⟨o, e o ho, r⟩
mutual
theorem TmAt.keep {h h' : Heap} {X : List Addr} (k : KeepX X h h') : ∀ (t : Tm) {v : Value}, TmAt h X t v → TmAt h' X t v
  | .num _, _, x => by
    unfold TmAt at x ⊢
    obtain ⟨a, t1, t2, e, n, i⟩ := x
    exact ⟨a, t1, t2, e, n, isTup_at i fun o => k a o n⟩
  | .var _, _, x => by
    unfold TmAt at x ⊢
    obtain ⟨a, t1, t2, e, n, i⟩ := x
    exact ⟨a, t1, t2, e, n, isTup_at i fun o => k a o n⟩
  | .node _ ts, _, x => by
    unfold TmAt at x ⊢
    obtain ⟨a, t1, l, vs, e, n, nl, i, il, r⟩ := x
    exact ⟨a, t1, l, vs, e, n, nl, isTup_at i fun o => k a o n, il.at fun o => k l o nl, TmsAt.keep k ts r⟩
theorem TmsAt.keep {h h' : Heap} {X : List Addr} (k : KeepX X h h') : ∀ (ts : List Tm) {vs : List Value}, TmsAt h X ts vs → TmsAt h' X ts vs
  | [], _, x => by unfold TmsAt at x ⊢; exact x
  | t :: r, _, x => by
    unfold TmsAt at x ⊢
    obtain ⟨v, vs', e, a, b⟩ := x
    exact ⟨v, vs', e, TmAt.keep k t a, TmsAt.keep k r b⟩
end
mutual
-- another set of untouched addresses: those that the heap does not bear may be added
theorem TmAt.setX {h : Heap} {X Y : List Addr} (k : ∀ b o, b ∉ X → h.get? b = some o → b ∉ Y) : ∀ (t : Tm) {v : Value}, TmAt h X t v → TmAt h Y t v
  | .num _, _, x => by
    unfold TmAt at x ⊢
    obtain ⟨a, t1, t2, e, n, i⟩ := x
    exact ⟨a, t1, t2, e, (let ⟨o, ho, _⟩ := i; k a o n ho), i⟩
  | .var _, _, x => by
    unfold TmAt at x ⊢
    obtain ⟨a, t1, t2, e, n, i⟩ := x
    exact ⟨a, t1, t2, e, (let ⟨o, ho, _⟩ := i; k a o n ho), i⟩
  | .node _ ts, _, x => by
    unfold TmAt at x ⊢
    obtain ⟨a, t1, l, vs, e, n, nl, i, il, r⟩ := x
    exact ⟨a, t1, l, vs, e, (let ⟨o, ho, _⟩ := i; k a o n ho), (let ⟨o, ho, _⟩ := il; k l o nl ho), i, il, TmsAt.setX k ts r⟩
theorem TmsAt.setX {h : Heap} {X Y : List Addr} (k : ∀ b o, b ∉ X → h.get? b = some o → b ∉ Y) : ∀ (ts : List Tm) {vs : List Value}, TmsAt h X ts vs → TmsAt h Y ts vs
  | [], _, x => by unfold TmsAt at x ⊢; exact x
  | t :: r, _, x => by
    unfold TmsAt at x ⊢
    obtain ⟨v, vs', e, a, b⟩ := x
    exact ⟨v, vs', e, TmAt.setX k t a, TmsAt.setX k r b⟩
end
theorem TmsAt.snoc {h : Heap} {X : List Addr} {t : Tm} {v : Value} : ∀ {ts : List Tm} {vs : List Value}, TmsAt h X ts vs → TmAt h X t v → TmsAt h X (ts ++ [t]) (vs ++ [v])
  | [], _, x, y => by
    unfold TmsAt at x; subst x
    show TmsAt h X [t] [v]
    unfold TmsAt; exact ⟨v, [], rfl, y, by unfold TmsAt; rfl⟩
  | u :: r, _, x, y => by
    unfold TmsAt at x
    obtain ⟨w, vs', rfl, a, b⟩ := x
    show TmsAt h X (u :: (r ++ [t])) (w :: (vs' ++ [v]))
    unfold TmsAt; exact ⟨w, _, rfl, a, TmsAt.snoc b y⟩
theorem TmsAt.length {h : Heap} {X : List Addr} : ∀ {ts : List Tm} {vs : List Value}, TmsAt h X ts vs → vs.length = ts.length
  | [], _, x => by unfold TmsAt at x; subst x; rfl
  | u :: r, _, x => by
    unfold TmsAt at x
    obtain ⟨w, vs', rfl, _, b⟩ := x
    simp [TmsAt.length b]
theorem TmsAt.item {h : Heap} {X : List Addr} : ∀ {ts : List Tm} {vs : List Value} {j : Nat} {v : Value}, TmsAt h X ts vs → vs[j]? = some v → ∃ t, ts[j]? = some t ∧ TmAt h X t v
  | [], _, j, v, x, e => by unfold TmsAt at x; subst x; simp at e
  | u :: r, _, j, v, x, e => by
    unfold TmsAt at x
    obtain ⟨w, vs', rfl, a, b⟩ := x
    cases j with
    | zero => simp at e; subst e; exact ⟨u, rfl, a⟩
    | succ j => simp at e; obtain ⟨t, h1, h2⟩ := TmsAt.item b e; exact ⟨t, by simpa using h1, h2⟩
end Mine
end
section -- M1
open PySem PySem.W PySem.Calls PyProof.Rows
namespace Mine
/-- the heap bears an object at each of these -/
def Has (h : Heap) (X : List Addr) : Prop := ∀ b ∈ X, ∃ o, h.get? b = some o
/-- what a piece of a turn leaves: all but mu stands -/
def Kp (mu : List Addr) (s s' : Shared) : Prop := ∃ h' tk, s' = { s with heap := h', toks := tk } ∧ KeepX mu s.heap h'
section
variable {prog : Program} {w : World} {A : Around} {E : Value → Shared → Prop} {env : Env}
abbrev TestsOf (prog : Program) (w : World) (A : Around) (ifs : List Expr) (cenv : Env) (Q : Bool → Shared → Prop) (E : Value → Shared → Prop) (s : Shared) : Prop :=
  wpAny (model prog w) A (forIn ifs true fun c r => if r = true then do let ok ← isTrue c cenv (eval c cenv); pure (ForInStep.yield ok) else pure (ForInStep.yield r)) Q E s

theorem loop_gen {elt iter : Expr} {x : Str} {px : Pos} {ifs : List Expr} {scope : Scope} {pos : Pos} {s : Shared} {R : Result → Shared → Prop} {I D : Addr} {fp wr mu : List Addr} {n : Nat} {P : Nat → Value → Prop} {St : Nat → Heap → Prop}
    {J : List Value → List Value → Heap → Prop} {cenv : Env} {m : Str → Option Value} (W : Walks prog w A I fp wr n P St)
    (hx : cenv.kindOf x = some .local) (hp : (cenv.scope.kind == .class || (cenv.scope.kind == .module && cenv.locals != cenv.globals)) = false)
    (hDC : D ≠ cenv.locals) (hDf : D ∉ fp) (hCf : cenv.locals ∉ fp) (hmf : ∀ b ∈ mu, b ∉ fp ∧ b ≠ D ∧ b ≠ cenv.locals)
    (hst : St 0 s.heap) (hacc : s.heap.PlainList D #[]) (hn : s.heap.Ns cenv.locals m)
    (stab : ∀ vs ys h h', J vs ys h → KeepX (cenv.locals :: D :: wr) h h' → J vs ys h') (hJ : J [] [] s.heap) (hsz : n ≤ sizeLine)
    (turn : ∀ v vs ys s₂ m₂, vs.length < n → P vs.length v → s₂.heap.Ns cenv.locals m₂ → m₂ x = some v → J vs ys s₂.heap → s₂.heap.PlainList D ys.toArray → St (vs.length + 1) s₂.heap →
      (∀ b o, b ≠ cenv.locals → b ∉ wr → b ≠ D → b ∉ mu → s.heap.get? b = some o → s₂.heap.get? b = some o) → s₂.os = s.os → s₂.gens = s.gens → s₂.drawn = s.drawn →
      TestsOf prog w A ifs cenv (fun ok s₃ =>
        if ok = true then wpAny (model prog w) A (eval elt cenv) (fun y s₄ => Kp mu s₂ s₄ ∧ J (vs ++ [v]) (ys ++ [y]) s₄.heap) (notedBy (model prog w) A cenv fun e s' => R (.error e) s') s₃
        else Kp mu s₂ s₃ ∧ J (vs ++ [v]) ys s₃.heap) (notedBy (model prog w) A cenv fun e s' => R (.error e) s') s₂)
    (hR : ∀ h' tk m' vs ys, h'.Ns cenv.locals m' → h'.PlainList D ys.toArray → vs.length = n → (∀ j v, vs[j]? = some v → P j v) → J vs ys h' →
      (∀ b o, b ≠ cenv.locals → b ∉ wr → b ≠ D → b ∉ mu → s.heap.get? b = some o → h'.get? b = some o) → R (.ok .next) { s with heap := h', toks := tk }) :
    codeAny (model prog w) A (.compLoop (.ListComp elt [⟨.Name x px, iter, ifs, 0⟩] scope pos) 0 (.ref I) (.ref D) cenv) R s := by
  refine codeAny_compLoop_tests
    (fun k s' => ∃ h' tk m' ys, ∃ vs : List Value, s' = { s with heap := h', toks := tk } ∧ St vs.length h' ∧ h'.PlainList D ys.toArray ∧ h'.Ns cenv.locals m' ∧ (∀ j v, vs[j]? = some v → P j v) ∧
      J vs ys h' ∧ vs.length ≤ n ∧ ys.length ≤ vs.length ∧ k = n + 1 - vs.length ∧
      (∀ b o, b ≠ cenv.locals → b ∉ wr → b ≠ D → b ∉ mu → s.heap.get? b = some o → h'.get? b = some o)) ?_ (n + 1)
    ⟨s.heap, s.toks, m, [], [], rfl, hst, hacc, hn, by simp, hJ, Nat.zero_le _, Nat.le_refl _, rfl, fun _ _ _ _ _ _ e => e⟩
  rintro k s' ⟨H, tk, m', ys, vs, rfl, hst', hacc', hn', hP, hJ', hi, hyl, rfl, hk⟩
  have hCw : cenv.locals ∉ wr := fun h => hCf (W.sub _ h)
  have hDw : D ∉ wr := fun h => hDf (W.sub _ h)
  by_cases hlt : vs.length < n
  · refine W.item vs.length _ _ _ hlt hst' fun v h₁ tk₁ hPv hst₁ hk₁ => ?_
    refine wpAny_assign_Name (wpAny_storeName_local hx (hn'.at' fun o e => hk₁ _ o hCw e) (fun h₂ hn₂ hs₂ => ?_) hp)
    have up₂ : ∀ b o, b ≠ cenv.locals → b ∉ wr → H.get? b = some o → h₂.get? b = some o := fun b o hbC hbf e => hs₂.extBut b o hbC (hk₁ b o hbf e)
    have hst₂ : St (vs.length + 1) h₂ := W.frame _ _ _ hst₁ fun b hb o e => hs₂.extBut b o (fun h => hCf (h ▸ hb)) e
    have hacc₂ : h₂.PlainList D ys.toArray := hacc'.at fun o e => up₂ D o hDC hDw e
    have hJ₂ : J vs ys h₂ := stab _ _ _ _ hJ' fun b o hb e => up₂ b o (fun q => hb (by simp [q])) (fun q => hb (by simp [q])) e
    have hk₂ : ∀ b o, b ≠ cenv.locals → b ∉ wr → b ≠ D → b ∉ mu → s.heap.get? b = some o → h₂.get? b = some o := fun b o a1 a2 a3 a4 e => up₂ b o a1 a2 (hk b o a1 a2 a3 a4 e)
    have hP' : ∀ j u, (vs ++ [v])[j]? = some u → P j u := fun j u hj => by
      rcases Nat.lt_trichotomy j vs.length with h | h | h
      · exact hP j u (by rwa [List.getElem?_append_left h] at hj)
      · subst h; simp at hj; subst hj; exact hPv
      · have hnone : (vs ++ [v])[j]? = none := List.getElem?_eq_none (by rw [List.length_append, List.length_singleton]; omega)
        rw [hnone] at hj; cases hj
    refine wpAny_mono (turn v vs ys _ _ hlt hPv hn₂ (by simp) hJ₂ hacc₂ hst₂ hk₂ rfl rfl rfl) (fun ok s₃ h₃ => ?_) fun _ _ e => e
    have mC : cenv.locals ∉ mu := fun q => (hmf _ q).2.2 rfl
    have mD : D ∉ mu := fun q => (hmf _ q).2.1 rfl
    cases ok with
    | false =>
      simp only [Bool.false_eq_true, if_false] at h₃ ⊢
      obtain ⟨⟨h₃', tk₃, rfl, kk⟩, hJ₃⟩ := h₃
      refine ⟨n + 1 - (vs.length + 1), by omega, h₃', tk₃, _, ys, vs ++ [v], rfl, ?_, hacc₂.at fun o e => kk D o mD e, hn₂.at' fun o e => kk _ o mC e, hP', hJ₃, ?_, ?_, ?_, ?_⟩
      · have := W.frame _ _ h₃' hst₂ fun b hb o e => kk b o (fun q => (hmf b q).1 hb) e
        simpa using this
      · simp only [List.length_append, List.length_singleton]; omega
      · simp only [List.length_append, List.length_singleton]; omega
      · simp only [List.length_append, List.length_singleton]
      · exact fun b o a1 a2 a3 a4 e => kk b o a4 (hk₂ b o a1 a2 a3 a4 e)
    | true =>
      simp only [if_true] at h₃ ⊢
      refine wpAny_mono h₃ (fun y s₄ h₄ => ?_) fun _ _ e => e
      obtain ⟨⟨h₄', tk₄, rfl, kk⟩, hJ₄⟩ := h₄
      have hacc₄ : h₄'.PlainList D ys.toArray := hacc₂.at fun o e => kk D o mD e
      refine wpAny_list_append_plain (hsz := by rw [List.size_toArray]; omega) hacc₄ fun h₅ hl₅ hs₅ => ?_
      refine ⟨n + 1 - (vs.length + 1), by omega, h₅, tk₄, _, ys ++ [y], vs ++ [v], rfl, ?_, by simpa using hl₅, (hn₂.at' fun o e => kk _ o mC e).sameBut hs₅ (Ne.symm hDC), hP', ?_, ?_, ?_, ?_, ?_⟩
      · have := W.frame _ _ h₅ hst₂ fun b hb o e => hs₅.extBut b o (fun h => hDf (h ▸ hb)) (kk b o (fun q => (hmf b q).1 hb) e)
        simpa using this
      · exact stab _ _ _ _ hJ₄ fun b o hb e => hs₅.extBut b o (fun q => hb (by simp [q])) e
      · simp only [List.length_append, List.length_singleton]; omega
      · simp only [List.length_append, List.length_singleton]; omega
      · simp only [List.length_append, List.length_singleton]
      · exact fun b o a1 a2 a3 a4 e => hs₅.extBut b o a3 (kk b o a4 (hk₂ b o a1 a2 a3 a4 e))
  · have hin : vs.length = n := by omega
    refine W.done _ _ _ (hin ▸ hst') fun h₁ tk₁ hk₁ => ?_
    refine hR h₁ tk₁ m' vs ys (hn'.at' fun o e => hk₁ _ o hCw e) (hacc'.at fun o e => hk₁ _ o hDw e) hin hP (stab _ _ _ _ hJ' fun b o hb e => hk₁ b o (fun q => hb (by simp [q])) e)
      fun b o a1 a2 a3 a4 e => hk₁ b o a2 (hk b o a1 a2 a3 a4 e)

theorem fresh_of {h : Heap} {a : Addr} (ha : h.objs.size ≤ a) : h.get? a = none := by
  cases e : h.get? a with
  | none => rfl
  | some o' => exact absurd (Heap.lt_size e) (Nat.not_lt.mpr ha)

/-- a list comprehension over whatever walks, by an invariant of what is taken and what is made; its turns may turn the objects of mu -/
theorem comp_gen {s : Shared} {elt iter : Expr} {x : Str} {px : Pos} {ifs : List Expr} {scope : Scope} {cl : List (Str × Addr)} {pos : Pos} {Q : Value → Shared → Prop}
    (hclos : closureFor scope env = pure cl) (hcell : ∀ y ∈ scope.names, y.2 ≠ .cell) (hkind : scope.kind = .function)
    (hnames : ∀ y ∈ scope.names, y.2 = .local → scope.names.lookup y.1 = some .local) (hx : scope.names.lookup x = some .local)
    (h : wpAny (model prog w) A (eval iter env) (fun xv s₁ => wpAny (model prog w) A (pyIter xv) (fun it s₂ => ∃ I fp wr n P St, ∃ mu : List Addr, ∃ J : List Addr → List Value → List Value → Heap → Prop, it = .ref I ∧ Walks prog w A I fp wr n P St ∧ n ≤ sizeLine ∧ St 0 s₂.heap ∧ (∀ b ∈ fp, b < s₂.heap.objs.size) ∧ (∀ b ∈ mu, b ∉ fp ∧ b < s₂.heap.objs.size) ∧ (∀ i h, St i h → Has h wr) ∧
      (∀ O vs ys h h', J O vs ys h → KeepX O h h' → J O vs ys h') ∧
      (∀ C D, s₂.heap.objs.size ≤ C → s₂.heap.objs.size ≤ D → J (C :: D :: wr) [] [] s₂.heap) ∧
      (∀ C D v vs ys s₃ m₃ E', s₂.heap.objs.size ≤ C → s₂.heap.objs.size ≤ D → Has s₃.heap (C :: D :: wr) → vs.length < n → P vs.length v → s₃.heap.Ns C m₃ → m₃ x = some v → J (C :: D :: wr) vs ys s₃.heap →
        KeepX (wr ++ mu) s₂.heap s₃.heap → s₃.os = s₂.os → s₃.gens = s₂.gens → s₃.drawn = s₂.drawn →
        TestsOf prog w A ifs (compEnvC scope cl C env) (fun ok s₄ =>
          if ok = true then wpAny (model prog w) A (eval elt (compEnvC scope cl C env)) (fun y s₅ => Kp mu s₃ s₅ ∧ J (C :: D :: wr) (vs ++ [v]) (ys ++ [y]) s₅.heap) E' s₄
          else Kp mu s₃ s₄ ∧ J (C :: D :: wr) (vs ++ [v]) ys s₄.heap) E' s₃) ∧
      (∀ C D h' tk vs ys, s₂.heap.objs.size ≤ C → s₂.heap.objs.size ≤ D → h'.PlainList D ys.toArray → vs.length = n → (∀ j v, vs[j]? = some v → P j v) → J (C :: D :: wr) vs ys h' → KeepX (wr ++ mu) s₂.heap h' →
        Q (.ref D) { s₂ with heap := h', toks := tk })) E s₁) E s)
    (hs : ∀ x, foldedSetIterable iter env x = pure x := by intro _; rfl) :
    wpAny (model prog w) A (eval (.ListComp elt [⟨.Name x px, iter, ifs, 0⟩] scope pos) env) Q E s := by
  rw [eval_ListComp]
  refine wpAny_comprehension_free (use := none) rfl hs hclos hkind hnames (wpAny_mono h (fun xv s₁ h₁ => wpAny_mono h₁ (fun it s₂ h₂ => ?_) fun _ _ e => e) fun _ _ e => e)
  obtain ⟨I, fp, wr, n, P, St, mu, J, rfl, W, hsz, hst, hfp, hmut, hwr, stab, hJ0, hturn, hend⟩ := h₂
  refine wpAny_newObj_type (wpAny_newFunctionEnv hcell (by intro y hy; simp at hy) (fun h₁ hns₁ hsb₁ => ?_) hkind)
  dsimp only at hns₁ hsb₁ ⊢
  generalize hH2 : s₂.heap.push { cls := .type "list", dict := none, data := .seq ([] : List Value).toArray } = H2 at hns₁ hsb₁ ⊢
  have hC : H2.objs.size = s₂.heap.objs.size + 1 := by rw [← hH2, Heap.size_push]
  have hDC : s₂.heap.objs.size ≠ H2.objs.size := by rw [hC]; exact Nat.ne_of_lt (Nat.lt_succ_self _)
  have hCle : s₂.heap.objs.size ≤ H2.objs.size := by rw [hC]; exact Nat.le_succ _
  have below : ∀ b, b < s₂.heap.objs.size → b ≠ H2.objs.size ∧ b ≠ s₂.heap.objs.size := fun b hb => ⟨by rw [hC]; exact Nat.ne_of_lt (Nat.lt_succ_of_lt hb), Nat.ne_of_lt hb⟩
  have hDf : s₂.heap.objs.size ∉ fp := fun hm => Nat.lt_irrefl _ (hfp _ hm)
  have hCf : H2.objs.size ∉ fp := fun hm => by have := hfp _ hm; rw [hC] at this; exact Nat.lt_irrefl _ (Nat.lt_of_succ_lt this)
  have old : ∀ b o, s₂.heap.get? b = some o → h₁.get? b = some o := fun b o e => hsb₁.extBut b o (below b (Heap.lt_size e)).1 (Heap.get?_push_of_some _ (hH2 ▸ Heap.get?_push_of_some _ e))
  have hacc : h₁.PlainList s₂.heap.objs.size #[] := ⟨_, hsb₁.extBut _ _ hDC (Heap.get?_push_of_some _ (hH2 ▸ Heap.get?_push_size _ rfl))⟩
  have hst₁ : St 0 h₁ := W.frame _ _ _ hst fun b _ o e => old b o e
  have hJ₁ := stab _ _ _ _ h₁ (hJ0 H2.objs.size s₂.heap.objs.size hCle (Nat.le_refl _)) (KeepX.of old)
  have loop : ∀ s₃ : Shared, s₃ = { s₂ with heap := h₁, toks := s₂.toks + ([] : List (Str × Value)).length } →
      codeAny (model prog w) A (.compLoop (.ListComp elt [⟨.Name x px, iter, ifs, 0⟩] scope pos) 0 (.ref I) (.ref s₂.heap.objs.size) (compEnvC scope cl H2.objs.size env))
        (compPost (model prog w) A E none Q (.ref s₂.heap.objs.size) H2.objs.size) s₃ := by
    rintro s₃ rfl
    refine loop_gen (mu := mu) (J := J (H2.objs.size :: s₂.heap.objs.size :: wr)) (cenv := compEnvC scope cl H2.objs.size env) W (lookup_relabel_local hx) (by simp [compEnvC, relabel, hkind]) hDC hDf hCf
      (fun b hb => ⟨(hmut b hb).1, (below b (hmut b hb).2).2, (below b (hmut b hb).2).1⟩) hst₁ hacc hns₁ (fun vs ys h h' a b => stab _ vs ys h h' a b) hJ₁ hsz
      (fun v vs ys s₃ m₃ hlt hv hn hm hj hacc₃ hst₃ hk e1 e2 e3 => ?_) (fun h' tk m' vs ys hn hl hlen hP hj hk => ?_)
    · refine hturn _ _ v vs ys s₃ m₃ _ hCle (Nat.le_refl _) ?_ hlt hv hn hm hj ?_ e1 e2 e3
      · intro b hb
        rcases List.mem_cons.mp hb with rfl | hb
        · obtain ⟨o, _, _, ho, _⟩ := hn; exact ⟨o, ho⟩
        · rcases List.mem_cons.mp hb with rfl | hb
          · obtain ⟨_, q⟩ := hacc₃; exact ⟨_, q⟩
          · exact hwr _ _ hst₃ b hb
      · intro b o hb e
        have l := below b (Heap.lt_size e)
        exact hk b o l.1 (fun q => hb (List.mem_append.mpr (.inl q))) l.2 (fun q => hb (List.mem_append.mpr (.inr q))) (old b o e)
    · refine ⟨m', hn, fun h'' hs'' => ?_⟩
      refine hend _ _ h'' tk vs ys hCle (Nat.le_refl _) (hl.extBut hs''.extBut hDC) hlen hP (stab _ _ _ _ _ hj fun b o hb e => hs''.extBut b o (fun q => hb (by simp [q])) e) ?_
      intro b o hb e
      have l := below b (Heap.lt_size e)
      exact hs''.extBut b o l.1 (hk b o l.1 (fun q => hb (List.mem_append.mpr (.inl q))) l.2 (fun q => hb (List.mem_append.mpr (.inr q))) (old b o e))
  exact codeAny_compStart_list (loop _ rfl) (W.self 0 _ _ _ hst₁ (loop _ rfl))
end
end Mine
end
section -- M2
open PySem PySem.W PySem.Calls PyProof.Rows
namespace Mine
section
variable {prog : Program} {w : World} {A : Around} {E : Value → Shared → Prop} {env : Env}
/-- one turn of a comprehension without tests -/
abbrev CTurn (prog : Program) (w : World) (A : Around) (env : Env) (scope : Scope) (cl : List (Str × Addr)) (x : Str) (elt : Expr) (mu : List Addr) (J : List Addr → List Value → List Value → Heap → Prop) (n : Nat) (P : Nat → Value → Prop) (s₁ : Shared) : Prop :=
  ∀ O C v vs ys s₃ m₃ E', (∀ b ∈ O, s₁.heap.objs.size ≤ b) → Has s₃.heap O → s₁.heap.objs.size ≤ C → vs.length < n → P vs.length v → s₃.heap.Ns C m₃ → m₃ x = some v → J O vs ys s₃.heap →
    KeepX mu s₁.heap s₃.heap → s₃.os = s₁.os → s₃.gens = s₁.gens → s₃.drawn = s₁.drawn →
    wpAny (model prog w) A (eval elt (compEnvC scope cl C env)) (fun y s₅ => Kp mu s₃ s₅ ∧ J O (vs ++ [v]) (ys ++ [y]) s₅.heap) E' s₃
/-- the same with tests -/
abbrev CTurnT (prog : Program) (w : World) (A : Around) (env : Env) (scope : Scope) (cl : List (Str × Addr)) (x : Str) (ifs : List Expr) (elt : Expr) (mu : List Addr) (J : List Addr → List Value → List Value → Heap → Prop) (n : Nat) (P : Nat → Value → Prop) (s₁ : Shared) : Prop :=
  ∀ O C v vs ys s₃ m₃ E', (∀ b ∈ O, s₁.heap.objs.size ≤ b) → Has s₃.heap O → s₁.heap.objs.size ≤ C → vs.length < n → P vs.length v → s₃.heap.Ns C m₃ → m₃ x = some v → J O vs ys s₃.heap →
    KeepX mu s₁.heap s₃.heap → s₃.os = s₁.os → s₃.gens = s₁.gens → s₃.drawn = s₁.drawn →
    TestsOf prog w A ifs (compEnvC scope cl C env) (fun ok s₄ =>
          if ok = true then wpAny (model prog w) A (eval elt (compEnvC scope cl C env)) (fun y s₅ => Kp mu s₃ s₅ ∧ J O (vs ++ [v]) (ys ++ [y]) s₅.heap) E' s₄
          else Kp mu s₃ s₄ ∧ J O (vs ++ [v]) ys s₄.heap) E' s₃
abbrev CEnd (mu : List Addr) (J : List Addr → List Value → List Value → Heap → Prop) (n : Nat) (P : Nat → Value → Prop) (Q : Value → Shared → Prop) (s₁ : Shared) : Prop :=
  ∀ O D h' tk vs ys, (∀ b ∈ O, s₁.heap.objs.size ≤ b) → D ∈ O → h'.PlainList D ys.toArray → vs.length = n → (∀ j v, vs[j]? = some v → P j v) → J O vs ys h' → KeepX mu s₁.heap h' → Q (.ref D) { s₁ with heap := h', toks := tk }

theorem CTurn.toT {scope : Scope} {cl : List (Str × Addr)} {x : Str} {elt : Expr} {mu : List Addr} {J : List Addr → List Value → List Value → Heap → Prop} {n : Nat} {P : Nat → Value → Prop} {s₁ : Shared}
    (h : CTurn prog w A env scope cl x elt mu J n P s₁) : CTurnT prog w A env scope cl x [] elt mu J n P s₁ := by
  intro O C v vs ys s₃ m₃ E' a1 a1' a2 a3 a4 a5 a6 a7 a8 a9 a10 a11
  refine wpAny_tests_nil ?_
  rw [if_pos rfl]
  exact h O C v vs ys s₃ m₃ E' a1 a1' a2 a3 a4 a5 a6 a7 a8 a9 a10 a11

theorem comp_listT {s : Shared} {elt iter : Expr} {x : Str} {px : Pos} {ifs : List Expr} {scope : Scope} {cl : List (Str × Addr)} {pos : Pos} {Q : Value → Shared → Prop}
    (hh : A.handled = none) (hclos : closureFor scope env = pure cl) (hcell : ∀ y ∈ scope.names, y.2 ≠ .cell) (hkind : scope.kind = .function)
    (hnames : ∀ y ∈ scope.names, y.2 = .local → scope.names.lookup y.1 = some .local) (hx : scope.names.lookup x = some .local)
    (h : wpAny (model prog w) A (eval iter env) (fun xv s₁ => ∃ ax, ∃ vs0 : List Value, ∃ mu : List Addr, ∃ J : List Addr → List Value → List Value → Heap → Prop, xv = .ref ax ∧ s₁.heap.IsList ax vs0.toArray ∧ vs0.length ≤ sizeLine ∧ ax ∉ mu ∧ (∀ b ∈ mu, b < s₁.heap.objs.size) ∧
      (∀ O vs ys h h', J O vs ys h → KeepX O h h' → J O vs ys h') ∧
      (∀ O, (∀ b ∈ O, s₁.heap.objs.size ≤ b) → J O [] [] s₁.heap) ∧
      CTurnT prog w A env scope cl x ifs elt mu J vs0.length (fun j v => vs0[j]? = some v) s₁ ∧
      CEnd mu J vs0.length (fun j v => vs0[j]? = some v) Q s₁) E s)
    (hs : ∀ x, foldedSetIterable iter env x = pure x := by intro _; rfl) :
    wpAny (model prog w) A (eval (.ListComp elt [⟨.Name x px, iter, ifs, 0⟩] scope pos) env) Q E s := by
  refine comp_gen hclos hcell hkind hnames hx (wpAny_mono h (fun xv s₁ h₁ => ?_) fun _ _ e => e) hs
  obtain ⟨ax, vs0, mu, J, rfl, hl, hsz, hax, hmu, stab, hJ0, hturn, hend⟩ := h₁
  have hlt : ax < s₁.heap.objs.size := by obtain ⟨_, e, _⟩ := hl; exact Heap.lt_size e
  have up : ∀ {h₃ : Heap}, KeepX ([s₁.heap.objs.size] ++ mu) (s₁.heap.push { cls := .type "list_iterator", data := .fields #[.ref ax, .int 0 0] }) h₃ → KeepX mu s₁.heap h₃ :=
    fun hk b o n e => hk b o (fun q => (List.mem_append.mp q).elim (fun q => Nat.lt_irrefl _ (List.mem_singleton.mp q ▸ Heap.lt_size e)) n) (Heap.get?_push_of_some _ e)
  refine wpAny_pyIter_list hl ⟨s₁.heap.objs.size, [s₁.heap.objs.size, ax], [s₁.heap.objs.size], vs0.toArray.size, _, _, mu, J, rfl, Walks.list hh _ _ (Nat.ne_of_lt hlt) vs0.toArray, (by rw [List.size_toArray]; exact hsz), ⟨⟨_, Heap.get?_push_size _ rfl, rfl, rfl⟩, hl.push _⟩, ?_, ?_, ?_, stab, ?_, ?_, ?_⟩
  · intro b hb
    show b < (s₁.heap.push _).objs.size
    rw [Heap.size_push]
    rcases List.mem_cons.mp hb with rfl | hb
    · exact Nat.lt_succ_self _
    · rw [List.mem_singleton.mp hb]; exact Nat.lt_succ_of_lt hlt
  · intro b hb
    refine ⟨fun q => ?_, ?_⟩
    · rcases List.mem_cons.mp q with e | q
      · exact Nat.lt_irrefl _ (e ▸ hmu b hb)
      · exact hax (List.mem_singleton.mp q ▸ hb)
    · show b < (s₁.heap.push _).objs.size
      rw [Heap.size_push]; exact Nat.lt_succ_of_lt (hmu b hb)
  · intro i h hs b hb
    rw [List.mem_singleton.mp hb]
    first | exact ⟨_, hs⟩ | (obtain ⟨⟨o, ho, _⟩, _⟩ := hs; exact ⟨o, ho⟩)
  · intro C D hC hD
    refine stab _ _ _ _ _ (hJ0 _ ?_) (KeepX.of fun b o e => Heap.get?_push_of_some _ e)
    intro b hb
    have hC' : (s₁.heap.push _).objs.size ≤ C := hC
    have hD' : (s₁.heap.push _).objs.size ≤ D := hD
    rw [Heap.size_push] at hC' hD'
    rcases List.mem_cons.mp hb with rfl | hb
    · exact Nat.le_of_succ_le hC'
    · rcases List.mem_cons.mp hb with rfl | hb
      · exact Nat.le_of_succ_le hD'
      · rw [List.mem_singleton.mp hb]; exact Nat.le_refl _
  · intro C D v vs ys s₃ m₃ E' hC hD hHas hlt' hP hn hm hj hk e1 e2 e3
    have hC' : (s₁.heap.push _).objs.size ≤ C := hC
    have hD' : (s₁.heap.push _).objs.size ≤ D := hD
    rw [Heap.size_push] at hC' hD'
    refine hturn _ C v vs ys s₃ m₃ E' ?_ hHas (Nat.le_of_succ_le hC') (by simpa using hlt') (by simpa using hP) hn hm hj (up hk) e1 e2 e3
    intro b hb
    rcases List.mem_cons.mp hb with rfl | hb
    · exact Nat.le_of_succ_le hC'
    · rcases List.mem_cons.mp hb with rfl | hb
      · exact Nat.le_of_succ_le hD'
      · rw [List.mem_singleton.mp hb]; exact Nat.le_refl _
  · intro C D h' tk vs ys hC hD hl' hlen hP hj hk
    have hC' : (s₁.heap.push _).objs.size ≤ C := hC
    have hD' : (s₁.heap.push _).objs.size ≤ D := hD
    rw [Heap.size_push] at hC' hD'
    refine hend _ D h' tk vs ys ?_ (by simp) hl' (by simpa using hlen) (fun j v e => by simpa using hP j v e) hj (up hk)
    intro b hb
    rcases List.mem_cons.mp hb with rfl | hb
    · exact Nat.le_of_succ_le hC'
    · rcases List.mem_cons.mp hb with rfl | hb
      · exact Nat.le_of_succ_le hD'
      · rw [List.mem_singleton.mp hb]; exact Nat.le_refl _

theorem comp_rangeT {s : Shared} {elt iter : Expr} {x : Str} {px : Pos} {ifs : List Expr} {scope : Scope} {cl : List (Str × Addr)} {pos : Pos} {Q : Value → Shared → Prop}
    (hh : A.handled = none) (hclos : closureFor scope env = pure cl) (hcell : ∀ y ∈ scope.names, y.2 ≠ .cell) (hkind : scope.kind = .function)
    (hnames : ∀ y ∈ scope.names, y.2 = .local → scope.names.lookup y.1 = some .local) (hx : scope.names.lookup x = some .local)
    (h : wpAny (model prog w) A (eval iter env) (fun xv s₁ => ∃ r b₀ t₀ u₀ v₀, ∃ n : Nat, ∃ mu : List Addr, ∃ J : List Addr → List Value → List Value → Heap → Prop, xv = .ref r ∧ IsRange s₁.heap r 0 b₀ 1 t₀ u₀ v₀ ∧ b₀ = (n : Int) ∧ n ≤ 1000 ∧ (∀ b ∈ mu, b < s₁.heap.objs.size) ∧
      (∀ O vs ys h h', J O vs ys h → KeepX O h h' → J O vs ys h') ∧
      (∀ O, (∀ b ∈ O, s₁.heap.objs.size ≤ b) → J O [] [] s₁.heap) ∧
      CTurnT prog w A env scope cl x ifs elt mu J n (fun j v => ∃ t, v = .int (j : Int) t) s₁ ∧
      CEnd mu J n (fun j v => ∃ t, v = .int (j : Int) t) Q s₁) E s)
    (hs : ∀ x, foldedSetIterable iter env x = pure x := by intro _; rfl) :
    wpAny (model prog w) A (eval (.ListComp elt [⟨.Name x px, iter, ifs, 0⟩] scope pos) env) Q E s := by
  refine comp_gen hclos hcell hkind hnames hx (wpAny_mono h (fun xv s₁ h₁ => ?_) fun _ _ e => e) hs
  obtain ⟨r, b₀, t₀, u₀, v₀, n, mu, J, rfl, hr, hb₀, hsz, hmu, stab, hJ0, hturn, hend⟩ := h₁
  subst hb₀
  have hsize : Builtin.Range.rangeSize 0 (n : Int) 1 = (n : Int) := by
    unfold Builtin.Range.rangeSize
    split <;> (try split) <;> (try simp) <;> omega
  have hsmall : Builtin.Range.small 0 (n : Int) 1 = true := by
    unfold Builtin.Range.small
    rw [hsize]
    simp [Builtin.Range.rangeFitsLong]
    omega
  have up : ∀ {ob : Obj} {h₃ : Heap}, KeepX ([s₁.heap.objs.size] ++ mu) (s₁.heap.push ob) h₃ → KeepX mu s₁.heap h₃ :=
    fun hk b o n e => hk b o (fun q => (List.mem_append.mp q).elim (fun q => Nat.lt_irrefl _ (List.mem_singleton.mp q ▸ Heap.lt_size e)) n) (Heap.get?_push_of_some _ e)
  refine wpAny_pyIter_range hr hsmall ⟨s₁.heap.objs.size, [s₁.heap.objs.size], [s₁.heap.objs.size], n, _, _, mu, J, rfl, Walks.range hh _ 0 1 n, Nat.le_trans hsz (by decide), ?_, ?_, ?_, ?_, stab, ?_, ?_, ?_⟩
  · show IsRangeIter _ _ _ _ _; rw [hsize]; simpa using Heap.get?_push_size _ rfl
  · intro b hb
    show b < (s₁.heap.push _).objs.size
    rw [Heap.size_push, List.mem_singleton.mp hb]
    exact Nat.lt_succ_self _
  · intro b hb
    refine ⟨fun q => Nat.lt_irrefl _ (List.mem_singleton.mp q ▸ hmu b hb), ?_⟩
    show b < (s₁.heap.push _).objs.size
    rw [Heap.size_push]; exact Nat.lt_succ_of_lt (hmu b hb)
  · intro i h hs b hb
    rw [List.mem_singleton.mp hb]
    first | exact ⟨_, hs⟩ | (obtain ⟨⟨o, ho, _⟩, _⟩ := hs; exact ⟨o, ho⟩)
  · intro C D hC hD
    refine stab _ _ _ _ _ (hJ0 _ ?_) (KeepX.of fun b o e => Heap.get?_push_of_some _ e)
    intro b hb
    have hC' : (s₁.heap.push _).objs.size ≤ C := hC
    have hD' : (s₁.heap.push _).objs.size ≤ D := hD
    rw [Heap.size_push] at hC' hD'
    rcases List.mem_cons.mp hb with rfl | hb
    · exact Nat.le_of_succ_le hC'
    · rcases List.mem_cons.mp hb with rfl | hb
      · exact Nat.le_of_succ_le hD'
      · rw [List.mem_singleton.mp hb]; exact Nat.le_refl _
  · intro C D v vs ys s₃ m₃ E' hC hD hHas hlt' hP hn hm hj hk e1 e2 e3
    have hC' : (s₁.heap.push _).objs.size ≤ C := hC
    have hD' : (s₁.heap.push _).objs.size ≤ D := hD
    rw [Heap.size_push] at hC' hD'
    refine hturn _ C v vs ys s₃ m₃ E' ?_ hHas (Nat.le_of_succ_le hC') hlt' (by simpa using hP) hn hm hj (up hk) e1 e2 e3
    intro b hb
    rcases List.mem_cons.mp hb with rfl | hb
    · exact Nat.le_of_succ_le hC'
    · rcases List.mem_cons.mp hb with rfl | hb
      · exact Nat.le_of_succ_le hD'
      · rw [List.mem_singleton.mp hb]; exact Nat.le_refl _
  · intro C D h' tk vs ys hC hD hl' hlen hP hj hk
    have hC' : (s₁.heap.push _).objs.size ≤ C := hC
    have hD' : (s₁.heap.push _).objs.size ≤ D := hD
    rw [Heap.size_push] at hC' hD'
    refine hend _ D h' tk vs ys ?_ (by simp) hl' hlen (fun j v e => by simpa using hP j v e) hj (up hk)
    intro b hb
    rcases List.mem_cons.mp hb with rfl | hb
    · exact Nat.le_of_succ_le hC'
    · rcases List.mem_cons.mp hb with rfl | hb
      · exact Nat.le_of_succ_le hD'
      · rw [List.mem_singleton.mp hb]; exact Nat.le_refl _
end
end Mine
end
section -- M3
open PySem PySem.W PySem.Calls PyProof.Rows
namespace Mine
section
variable {prog : Program} {w : World} {A₀ A : Around} {s : Shared} {K : Frag} {base h₀ : Heap} {outer : List Env} {L : Addr} {m mg mb : Str → Option Value} {env : Env} {news : List (Addr × Obj)} {p : Program} {loose : List Str} {mean : ExcName → Option Value}
/-- the call of a def with cells, with what its ground keeps -/
theorem code_defCG {R : Result → Shared → Prop} {name qual : Str} {params : Arguments} {body : List Stmt} {scope : Scope} {dV kV doc pm cdv ct oc : Value} {an od : Option Addr} {osl : Array (Option Value)} {f : Addr} {args : Args} {binds : List (Str × Value)}
    (B : Below A₀ base outer h₀) (F : Fr h₀ L s.heap m) (X₀ : K.In h₀) (N : News h₀ L s.heap news) (T : Top p loose mean mg mb h₀) (hA : A.frames = some (env :: outer)) (hf : env.frame = some L) (hke : env.scope.kind = .function)
    (ho : K.lookup f = some ⟨oc, od, .func (fnOf name qual params body scope dV kV doc pm an cdv ct), osl⟩) (hcd : codeIn K cdv qual = true) (hroom : A.depth < recursionLimit)
    (hbind : BindsTo s (fnOf name qual params body scope dV kV doc pm an cdv ct) args binds) (hkind : (binds.all fun y => scope.names.lookup y.1 == some .local || scope.names.lookup y.1 == some .cell) = true)
    (hnd : ((cellsFrom 0 scope.names []).map (·.1)).Nodup)
    (h : ∀ g L' h₁ tk cells, Fr h₀ L g m → Fr g L' h₁ (bindL (envOfC qual scope L' f cdv).kindOf binds fun _ => none) → News g L' h₁ (cells ++ news) →
      CellsAre (bindC (envOfC qual scope L' f cdv).kindOf binds fun _ => none) (cellsFrom (L' + 1) scope.names []) cells → Below A base (env :: outer) g → K.In g → Top p loose mean mg mb g → (∀ p ∈ news, p.1 < L') → GSub s.heap g (news.map (·.1)) →
      wpAny (model prog w) (A.deeper (envOfC qual scope L' f cdv)) (execs body (envOfC qual scope L' f cdv))
        (fun fl s' => LeaveK h₀ L m g R (match fl with | .ret v => v | _ => .none) s')
        (fun e s' => wpAny (model prog w) (A.deeper (envOfC qual scope L' f cdv)) (leaving (envOfC qual scope L' f cdv) e) (fun _ s'' => R (.error e) s'') (fun e' s'' => R (.error e') s'') s')
        { s with heap := h₁, toks := tk })
    (hco : scope.isCoroutine = false) (hgen : scope.isGenerator = false) (hk : scope.kind = .function) : codeAny (model prog w) A (.call (.ref f) args) R s := by
  have ground := groundX (R := R) B F N hA hf hke
  have X := X₀.keeps F.keep
  refine codeAny_call_function hroom (X _ _ ho) rfl hco hgen rfl (codeRec_of X hcd) (hbind _ _ _ _ ?_)
  refine wpAny_newFunctionEnv_cells hk (kindsX hkind _) fun env' he s' x => ?_
  subst he
  refine ⟨(T.nolimit.keeps F.keep).keeps x.toInCall.keep, codeAny_func ?_⟩
  obtain ⟨h₁, tk, rfl, _⟩ := x.done
  have stays := x.toInCall.keep
  obtain ⟨cells, made, told⟩ := Cl.news (h₀ := s.heap) (Nat.le_refl _) fun n c hm =>
    ⟨x.cell n c (lookup_of_mem_nodup (cellsFrom_names scope.names 0 (s.heap.objs.size + 1) [] [] rfl ▸ hnd) hm), x.above n c hm⟩
  have hid : ∀ q, s.heap.get? q = none → (hideAll s.heap (news.map (·.1))).get? q = none := fun q e => by
    cases e' : (hideAll s.heap (news.map (·.1))).get? q with
    | none => rfl
    | some o => rw [of_hideAll _ e'] at e; cases e
  refine wpAny_mono (h _ s.heap.objs.size h₁ tk cells ground.1 ⟨x.toInCall.ns, fun b o e => stays b o (of_hideAll _ e), Nat.le_of_eq (hideAll_size _ _)⟩ ?_ told ground.2.1 (X₀.keeps ground.2.2.1) (T.keeps ground.2.2.1)
    (fun q hq => Heap.lt_size (N q hq).1) (fun b o e n => hideAll_get _ e n)) (fun fl s' hl => ground.2.2.2 _ _ hl) fun _ _ y => y
  intro q hq
  cases List.mem_append.mp hq with
  | inl hq => exact ⟨(made q hq).1, (made q hq).2.1, hid _ (made q hq).2.2⟩
  | inr hq => exact ⟨stays _ _ (N q hq).1, Nat.ne_of_lt (Heap.lt_size (N q hq).1), hideAll_none _ (List.mem_map_of_mem hq)⟩
end
theorem gkeep {h₀ g h' : Heap} {L : Addr} {m : Str → Option Value} {ds : List Addr} (G : GSub h₀ g ds) (F : Fr g L h' m) : KeepX ds h₀ h' := fun b o n e => F.keep b o (G b o e n)
theorem new_notin {h₀ g h' : Heap} {L D : Addr} {o : Obj} {Xs ds : List Addr} {news : List (Addr × Obj)} (hX : Has h₀ Xs) (G : GSub h₀ g ds) (N : News g L h' news) (hm : (D, o) ∈ news) (hD : D ∉ ds) : D ∉ Xs := fun hx => by
  obtain ⟨o', ho⟩ := hX D hx
  have e := G D o' ho hD
  rw [(N _ hm).2.2] at e; cases e
theorem fmod_in (a : Int) {m : Int} (h : 0 < m) : 0 ≤ a.fmod m ∧ a.fmod m < m := ⟨Int.fmod_nonneg_of_pos _ h, Int.fmod_lt_of_pos _ h⟩
end Mine
end
section -- M4
open PySem PySem.W PySem.Calls PyProof.Rows
namespace Mine
/-- a frame behind a piece that turned but objects of the ledger -/
theorem fr_kept {g h h' : Heap} {L : Addr} {m : Str → Option Value} {mu : List Addr} {news : List (Addr × Obj)} (F : Fr g L h m) (N : News g L h news) (k : KeepX mu h h') (hmu : ∀ b ∈ mu, ∃ o, (b, o) ∈ news) : Fr g L h' m := by
  have nm : ∀ b o, g.get? b = some o → b ∉ mu := fun b o e q => by
    obtain ⟨o', ho⟩ := hmu b q
    rw [(N _ ho).2.2] at e; cases e
  obtain ⟨oL, es, ep, hL, r⟩ := F.ns
  refine ⟨⟨oL, es, ep, k L oL (fun q => ?_) hL, r⟩, fun b o e => k b o (nm b o e) (F.keep b o e), F.above⟩
  obtain ⟨o', ho⟩ := hmu L q
  exact (N _ ho).2.1 rfl
/-- all that a heap bears beside the ground, the frame and ex, as a ledger -/
theorem coverage (g h : Heap) (L : Addr) (ex : List Addr) : ∃ rest : List (Addr × Obj), News g L h rest ∧ (∀ q ∈ rest, q.1 ∉ ex) ∧ ∀ b o, h.get? b = some o → b ≠ L → b ∉ ex → g.get? b = none → (b, o) ∈ rest := by
  refine ⟨(List.range h.objs.size).filterMap fun b => if b ≠ L ∧ b ∉ ex ∧ g.get? b = none then (h.get? b).map fun o => (b, o) else none, ?_, ?_, ?_⟩
  · intro q hq
    obtain ⟨b, _, e⟩ := List.mem_filterMap.mp hq
    split at e
    · rename_i c
      cases e' : h.get? b with
      | none => rw [e'] at e; cases e
      | some o => rw [e'] at e; cases e; exact ⟨e', c.1, c.2.2⟩
    · cases e
  · intro q hq
    obtain ⟨b, _, e⟩ := List.mem_filterMap.mp hq
    split at e
    · rename_i c
      cases e' : h.get? b with
      | none => rw [e'] at e; cases e
      | some o => rw [e'] at e; cases e; exact c.2.1
    · cases e
  · intro b o e n1 n2 n3
    refine List.mem_filterMap.mpr ⟨b, List.mem_range.mpr (Heap.lt_size e), ?_⟩
    rw [if_pos ⟨n1, n2, n3⟩, e]; rfl
theorem cov_keep {g h h' : Heap} {L : Addr} {ex : List Addr} {m m' : Str → Option Value} {rest : List (Addr × Obj)} (F : Fr g L h m) (cov : ∀ b o, h.get? b = some o → b ≠ L → b ∉ ex → g.get? b = none → (b, o) ∈ rest)
    (F' : Fr g L h' m') (N' : News g L h' rest) : KeepX (L :: ex) h h' := fun b o n e => by
  have n1 : b ≠ L := fun q => n (by simp [q])
  have n2 : b ∉ ex := fun q => n (by simp [q])
  cases q : g.get? b with
  | none => exact (N' _ (cov b o e n1 n2 q)).1
  | some o' =>
    have := F.keep b o' q
    rw [e] at this; cases this
    exact F'.keep b o q
theorem KeepX.mono {X Y : List Addr} {h h' : Heap} (k : KeepX X h h') (s : ∀ b ∈ X, b ∈ Y) : KeepX Y h h' := fun b o n e => k b o (fun q => n (s b q)) e
theorem news_append {g h : Heap} {L : Addr} {l l' : List (Addr × Obj)} (N : News g L h l) (N' : News g L h l') : News g L h (l ++ l') := fun q hq => (List.mem_append.mp hq).elim (N q) (N' q)
theorem news_cons {g h : Heap} {L a : Addr} {o : Obj} {l : List (Addr × Obj)} (e : h.get? a = some o) (n : a ≠ L) (f : g.get? a = none) (N : News g L h l) : News g L h ((a, o) :: l) := fun q hq => by
  rcases List.mem_cons.mp hq with rfl | hq
  · exact ⟨e, n, f⟩
  · exact N q hq
theorem news_sub {h₀ h : Heap} {L : Addr} {l l' : List (Addr × Obj)} (N : News h₀ L h l) (hs : ∀ q ∈ l', q ∈ l) : News h₀ L h l' := fun q hq => N q (hs q hq)
theorem nin1 {a b : Addr} {o : Obj} (h : a ≠ b) : a ∉ ([(b, o)] : List (Addr × Obj)).map (fun x => x.1) := by simpa using h
def Here (P : Prop) : Prop := P
theorem of_here {P : Prop} (h : Here P) : P := h
theorem wpAny_here {α : Type} {M : Model} {A : Around} {E : Value → Shared → Prop} {s : Shared} {t : Sem α} {Q : α → Shared → Prop} (h : wpAny M A t (fun a s' => Here (Q a s')) E s) : wpAny M A t Q E s := h
theorem isList_keep {h₀ h : Heap} {L l : Addr} {m : Str → Option Value} {xs : Array Value} (F : Fr h₀ L h m) (x : h₀.IsList l xs) : h.IsList l xs := x.at fun o => F.keep l o
theorem has_kept {h₀ g h' : Heap} {L : Addr} {m : Str → Option Value} {ds Xs : List Addr} (hX : Has h₀ Xs) (G : GSub h₀ g ds) (F : Fr g L h' m) (hd : Has h' ds) : Has h' Xs := fun b hb => by
  by_cases q : b ∈ ds
  · exact hd b q
  · obtain ⟨o, ho⟩ := hX b hb
    exact ⟨o, F.keep b o (G b o ho q)⟩
theorem has_one {h : Heap} {a : Addr} {o : Obj} (e : h.get? a = some o) : Has h [a] := fun b hb => by rw [List.mem_singleton.mp hb]; exact ⟨o, e⟩
theorem has_cons {h : Heap} {a : Addr} {o : Obj} {l : List Addr} (e : h.get? a = some o) (r : Has h l) : Has h (a :: l) := fun b hb => by
  rcases List.mem_cons.mp hb with rfl | hb
  · exact ⟨o, e⟩
  · exact r b hb
theorem has_append {h : Heap} {l l' : List Addr} (a : Has h l) (b : Has h l') : Has h (l ++ l') := fun c hc => (List.mem_append.mp hc).elim (a c) (b c)
theorem has_nil {h : Heap} : Has h [] := fun _ hb => nomatch hb
theorem has_frame {g h : Heap} {L : Addr} {m : Str → Option Value} (F : Fr g L h m) : ∃ o, h.get? L = some o := let ⟨o, _, _, e, _⟩ := F.ns; ⟨o, e⟩
theorem has_notin {h : Heap} {X : List Addr} {D : Addr} (H : Has h X) (hD : h.objs.size ≤ D) : D ∉ X := fun q => by
  obtain ⟨o, ho⟩ := H D q
  exact Nat.lt_irrefl _ (Nat.lt_of_lt_of_le (Heap.lt_size ho) hD)
theorem depths_snoc {t : Tm} : ∀ {ts : List Tm}, Tm.depths (ts ++ [t]) = max (Tm.depths ts) t.depth
  | [] => by simp [Tm.depths]
  | u :: r => by
    show Tm.depths (u :: (r ++ [t])) = _
    simp only [Tm.depths, depths_snoc]; omega
mutual
def Wf (lo hi : Int) : Tm → Prop
  | .num _ => True
  | .var i => lo ≤ i ∧ i < hi
  | .node _ ts => ts.length ≤ 3 ∧ Wfs lo hi ts
def Wfs (lo hi : Int) : List Tm → Prop
  | [] => True
  | t :: r => Wf lo hi t ∧ Wfs lo hi r
end
theorem wfs_snoc {lo hi : Int} {t : Tm} (h : Wf lo hi t) : ∀ {ts : List Tm}, Wfs lo hi ts → Wfs lo hi (ts ++ [t])
  | [], _ => by
    show Wfs lo hi [t]
    unfold Wfs; exact ⟨h, by unfold Wfs; trivial⟩
  | u :: r, x => by
    unfold Wfs at x
    show Wfs lo hi (u :: (r ++ [t]))
    unfold Wfs; exact ⟨x.1, wfs_snoc h x.2⟩
theorem nm_var (kd : Kd) : (kd.nm == Str.ofString "var") = false := by cases kd <;> decide +kernel
theorem nm_num (kd : Kd) : (kd.nm == Str.ofString "num") = false := by cases kd <;> decide +kernel
/-- a term of the caller's, seen within the callee's block -/
theorem tm_lift {s₀ g h₁ h₃ : Heap} {L : Addr} {m m' : Str → Option Value} {O Xs : List Addr} {t : Tm} {v : Value} (G : GSub s₀ g []) (F₁ : Fr g L h₁ m) (F₃ : Fr g L h₃ m') (hO : ∀ b ∈ O, h₁.objs.size ≤ b) (ht : TmAt s₀ Xs t v) : TmAt h₃ (O ++ L :: Xs) t v := by
  have up : ∀ b o, s₀.get? b = some o → g.get? b = some o := fun b o e => G b o e (by simp)
  have a : TmAt s₀ (O ++ L :: Xs) t v := TmAt.setX (fun b o n e q => by
    rcases List.mem_append.mp q with q | q
    · exact Nat.lt_irrefl _ (Nat.lt_of_lt_of_le (Heap.lt_size (F₁.keep b o (up b o e))) (hO b q))
    · rcases List.mem_cons.mp q with rfl | q
      · exact Nat.lt_irrefl _ (Nat.lt_of_lt_of_le (Heap.lt_size (up b o e)) F₁.above)
      · exact n q) t ht
  exact TmAt.keep (KeepX.of fun b o e => F₃.keep b o (up b o e)) t a
theorem depths_item {t : Tm} : ∀ {ts : List Tm} {j : Nat}, ts[j]? = some t → t.depth ≤ Tm.depths ts
  | [], j, e => by simp at e
  | u :: r, 0, e => by simp at e; subst e; simp only [Tm.depths]; omega
  | u :: r, j + 1, e => by
    have := depths_item (ts := r) (j := j) (by simpa using e)
    simp only [Tm.depths]; omega
theorem wfs_item {lo hi : Int} {t : Tm} : ∀ {ts : List Tm} {j : Nat}, Wfs lo hi ts → ts[j]? = some t → Wf lo hi t
  | [], j, _, e => by simp at e
  | u :: r, 0, w, e => by simp at e; subst e; unfold Wfs at w; exact w.1
  | u :: r, j + 1, w, e => by unfold Wfs at w; exact wfs_item (ts := r) (j := j) w.2 (by simpa using e)
/-- what a term comes to under a substitution, with its height -/
inductive Wh (sg : Int → Option Tm) : Nat → Tm → Tm → Prop
  | num {n : Nat} {k : Int} : Wh sg n (.num k) (.num k)
  | free {n : Nat} {i : Int} : sg i = none → Wh sg n (.var i) (.var i)
  | bound {n : Nat} {i : Int} {t u : Tm} : sg i = some t → Wh sg n t u → Wh sg (n + 1) (.var i) u
  | node {n : Nat} {kd : Kd} {ts us : List Tm} : ts.length = us.length → (∀ (j : Nat) (t u : Tm), ts[j]? = some t → us[j]? = some u → Wh sg n t u) → Wh sg (n + 1) (.node kd ts) (.node kd us)
theorem Wh.mono {sg : Int → Option Tm} {n : Nat} {t u : Tm} (h : Wh sg n t u) : ∀ {m : Nat}, n ≤ m → Wh sg m t u := by
  induction h with
  | num => intro m _; exact .num
  | free e => intro m _; exact .free e
  | bound e _ ih =>
    intro m hm
    obtain ⟨m, rfl⟩ : ∃ k, m = k + 1 := ⟨m - 1, by omega⟩
    exact .bound e (ih (by omega))
  | node l _ ih =>
    intro m hm
    obtain ⟨m, rfl⟩ : ∃ k, m = k + 1 := ⟨m - 1, by omega⟩
    exact .node l fun j t u a b => ih j t u a b (by omega)
/-- the dict of the law's s -/
def SubAt (h : Heap) (X : List Addr) (kvs : List (Int × Value)) (sg : Int → Option Tm) : Prop := ∀ k, match sg k, valueAt kvs k with
  | some t, some v => TmAt h X t v
  | none, none => True
  | _, _ => False
theorem SubAt.some {h : Heap} {X : List Addr} {kvs : List (Int × Value)} {sg : Int → Option Tm} (S : SubAt h X kvs sg) {k : Int} {t : Tm} (e : sg k = some t) : ∃ v, valueAt kvs k = some v ∧ TmAt h X t v := by
  have := S k
  rw [e] at this
  cases q : valueAt kvs k with
  | none => rw [q] at this; exact this.elim
  | some v => rw [q] at this; exact ⟨v, rfl, this⟩
theorem SubAt.none {h : Heap} {X : List Addr} {kvs : List (Int × Value)} {sg : Int → Option Tm} (S : SubAt h X kvs sg) {k : Int} (e : sg k = none) : valueAt kvs k = none := by
  have := S k
  rw [e] at this
  cases q : valueAt kvs k with
  | none => rfl
  | some v => rw [q] at this; exact this.elim
theorem SubAt.map {h h' : Heap} {X Y : List Addr} {kvs : List (Int × Value)} {sg : Int → Option Tm} (S : SubAt h X kvs sg) (f : ∀ t v, TmAt h X t v → TmAt h' Y t v) : SubAt h' Y kvs sg := fun k => by
  have := S k
  revert this
  cases sg k <;> cases valueAt kvs k <;> intro this
  · exact this
  · exact this
  · exact this
  · exact f _ _ this
theorem nm_leaf (kd : Kd) : ([Str.ofString "var", Str.ofString "num"].any fun x => x == kd.nm) = false := by cases kd <;> decide +kernel
end Mine
end
section -- M5
open PySem PySem.W PySem.Calls PyProof.Rows
set_option maxRecDepth 100000
set_option maxHeartbeats 4000000
namespace Mine
section
variable {prog : Program} {w : World} {A : Around} {E : Value → Shared → Prop} {s : Shared}
theorem keys_miss : typeLookup (.type "list") (Str.ofString "keys") = pure none := am_miss_of_fast (by decide +kernel)
theorem keys_quiet {a : Addr} {xs : Array Value} {Q : Option Value → Shared → Prop} (hl : s.heap.PlainList a xs) (hA : A.handled = none)
    (h : ∀ h' tk, (∀ b o, s.heap.get? b = some o → h'.get? b = some o) → Q none { s with heap := h', toks := tk }) : wpAny (model prog w) A (getAttr? (.ref a) (Str.ofString "keys")) Q E s := by
  obtain ⟨k, hx⟩ := hl
  obtain ⟨hp, g, d, tk, os⟩ := s
  have hT : ∀ tk', (⟨hp, g, d, tk', os⟩ : Shared).TypeIs (.ref a) "list" := fun _ => ⟨_, hx, rfl⟩
  have f1 := sub_AttributeError
  have f3 := F.slot_list_getattribute.lookup
  have f4 := F.slot_list_getattribute.bind (.ref a)
  have f5 := am_list_getattr_none
  unfold getAttr? getAttrBy? getAttrBy
  repeat (any_goals (first | assumption | exact hT _ | ((with_reducible show wpAny _ _ (call (Value.builtin "list.__getattribute__") _ _) _ _ _); refine call_meets F.slot_list_getattribute (hT _) am_entry_list_getattribute (F.args_list_getattribute_2 _ _) (meets_getattribute_miss_list a xs k #[] (Str.ofString "keys") _ keys_miss (by decide +kernel)) ⟨hx, hA, fun h' tk' e hx' => ?_⟩) | wp_step))
  obtain ⟨t', u', he⟩ := hx'.there
  show wpAny _ _ (getattributeRaised _ _ _ _ _ _ _) _ _ _
  unfold getattributeRaised
  repeat (any_goals (first | assumption | wp_step))
  exact h _ _ hx'.keeps
end
end Mine
end
section -- M6
open PySem PySem.W PySem.Calls PyProof.Rows
set_option maxRecDepth 100000
set_option maxHeartbeats 4000000
namespace Mine
section
variable {prog : Program} {w : World} {A : Around} {E : Value → Shared → Prop} {s : Shared}
theorem entry_update_loop : entryFor table "dict.update.loop" = some Builtin.«dict.update.loop» := entryFor_of_tree (by kernel_rfl)
theorem plain_update_loop : plainId "dict.update.loop" = true := by decide +kernel
theorem pair_items {a : Addr} {k x : Value} {Q : List Value → Shared → Prop} (ht : IsTup s.heap a #[k, x]) (h : Q [k, x] s) : wpAny (model prog w) A (Builtin.Dict.pairItems (.ref a)) Q E s := by
  obtain ⟨o, ho, hc, n, hd⟩ := ht
  have hT : s.TypeIs (.ref a) "tuple" := ⟨_, ho, hc⟩
  unfold Builtin.Dict.pairItems
  refine wpAny_bind (wpAny_typeOf hT ?_)
  show wpAny _ _ (do return ((← seqItems? (.ref a)).getD #[]).toList) _ _ s
  exact wpAny_bind (wpAny_seqItems ho hd (wpAny_pure h))
/-- what the steps of dict(..) over a list of pairs want -/
abbrev PairStep (prog : Program) (w : World) (A : Around) (d : Addr) (s₀ : Shared) (pairs : List (Value × Value)) (Pd : Nat → Obj → Prop) : Prop :=
  ∀ (i : Nat) (k x : Value) (s' : Shared) (o : Obj) (Q' : Unit → Shared → Prop) (E' : Value → Shared → Prop), pairs[i]? = some (k, x) → s'.heap.get? d = some o → Pd i o → (∀ b ob, s₀.heap.get? b = some ob → s'.heap.get? b = some ob) →
    s'.os = s₀.os → s'.gens = s₀.gens → s'.drawn = s₀.drawn →
    (∀ o' h' tk', Pd (i + 1) o' → h'.get? d = some o' → (∀ b ob, b ≠ d → s'.heap.get? b = some ob → h'.get? b = some ob) → Q' () { s' with heap := h', toks := tk' }) → wpAny (model prog w) A (dictSet d k x) Q' E' s'
theorem dict_loop {s₀ : Shared} {d I lst : Addr} {items : List Value} {pairs : List (Value × Value)} {Pd : Nat → Obj → Prop} {R : Result → Shared → Prop} (hh : A.handled = none) (hdI : d ≠ I) (hdl : d ≠ lst) (hIl : lst ≠ I)
    (hd0 : s₀.heap.get? d = none) (hI0 : s₀.heap.get? I = none)
    (hl : s₀.heap.IsList lst items.toArray) (hlen : items.length = pairs.length)
    (htup : ∀ (i : Nat) (v k x : Value), items[i]? = some v → pairs[i]? = some (k, x) → ∃ a, v = .ref a ∧ IsTup s₀.heap a #[k, x])
    (hstep : PairStep prog w A.in1 d s₀ pairs Pd)
    (h : ∀ o h' tk, Pd pairs.length o → h'.get? d = some o → (∀ b ob, s₀.heap.get? b = some ob → h'.get? b = some ob) → R (.ok (.ret .none)) { s₀ with heap := h', toks := tk }) :
    ∀ (j i : Nat), i + j = pairs.length → ∀ (o : Obj) (H : Heap) (tk : Nat) (ti : Tok), Pd i o → H.get? d = some o → H.IsListIter I lst i → (∀ b ob, s₀.heap.get? b = some ob → H.get? b = some ob) →
      codeAny (model prog w) A (.builtin "dict.update.loop" ⟨[.ref d, .ref I, .int i ti, .none], []⟩) R { s₀ with heap := H, toks := tk } := by
  intro j
  induction j with
  | zero =>
    intro i hij o H tk ti hP hd hit hk
    refine codeAny_builtin entry_update_loop ?_
    rw [Around.under_plainId plain_update_loop]
    show wpAny _ _ (pyNext (.ref I) >>= _) _ _ _
    have hl' : H.IsList lst items.toArray := hl.at fun o e => hk _ o e
    refine wpAny_bind (wpAny_pyNext_list_end hh hit hl' (by simp; omega) fun h₁ hs₁ => ?_)
    show wpAny _ _ (Builtin.Dict.addKeywords d [] >>= _) _ _ _
    refine wpAny_bind (wpAny_pure (wpAny_pure ?_))
    refine h o h₁ tk ?_ (hs₁ d o hdI hd) fun b ob e => hs₁ b ob (fun q => by rw [q, hI0] at e; cases e) (hk b ob e)
    have : i = pairs.length := by omega
    rw [← this]; exact hP
  | succ j ih =>
    intro i hij o H tk ti hP hd hit hk
    refine codeAny_builtin entry_update_loop ?_
    rw [Around.under_plainId plain_update_loop]
    show wpAny _ _ (pyNext (.ref I) >>= _) _ _ _
    have hl' : H.IsList lst items.toArray := hl.at fun o e => hk _ o e
    have hi : i < items.length := by omega
    have hip : i < pairs.length := by omega
    have hv : items[i]? = some items[i] := List.getElem?_eq_getElem hi
    have hp : pairs[i]? = some (pairs[i].1, pairs[i].2) := List.getElem?_eq_getElem hip
    obtain ⟨a, ea, ha⟩ := htup i _ _ _ hv hp
    refine wpAny_bind (wpAny_pyNext_list_item hit hl' (x := items[i]) (by simpa using hv) fun h₁ hit₁ hs₁ => ?_)
    show wpAny _ _ (holding [items[i]] _ >>= _) _ _ _
    rw [ea]
    refine wpAny_bind (wpAny_holding (wpAny_bind (wpAny_tryCatch (m := Builtin.Dict.pairItems (.ref a)) ?_)))
    have up₁ : ∀ b ob, s₀.heap.get? b = some ob → h₁.get? b = some ob := fun b ob e => hs₁.extBut b ob (fun q => by rw [q, hI0] at e; cases e) (hk b ob e)
    refine pair_items (isTup_at ha fun o e => up₁ a o e) ?_
    show wpAny _ _ (holding [pairs[i].1, pairs[i].2] (dictSet d pairs[i].1 pairs[i].2)) _ _ _
    refine wpAny_holding (hstep i _ _ _ o _ _ hp (hs₁.extBut d o hdI hd) hP up₁ rfl rfl rfl fun o' h₂ tk₂ hP₂ hd₂ hk₂ => ?_)
    refine wpAny_pure ⟨Code.quiet_builtin _ (by decide +kernel), ?_⟩
    exact ih (i + 1) (by omega) o' h₂ tk₂ _ hP₂ hd₂ (hit₁.at fun o e => hk₂ I o (Ne.symm hdI) e) fun b ob e => hk₂ b ob (fun q => by rw [q, hd0] at e; cases e) (up₁ b ob e)
theorem call_dict_pairs {lst : Addr} {items : List Value} {pairs : List (Value × Value)} {Pd : Nat → Obj → Prop} {Q : Value → Shared → Prop} (hh : A.handled = none)
    (hl : s.heap.PlainList lst items.toArray) (hlen : items.length = pairs.length)
    (htup : ∀ (i : Nat) (v k x : Value), items[i]? = some v → pairs[i]? = some (k, x) → ∃ a, v = .ref a ∧ IsTup s.heap a #[k, x])
    (h0 : Pd 0 { cls := .type "dict", data := .dict #[] })
    (hstep : PairStep prog w A.in1.in1 s.heap.objs.size s pairs Pd)
    (h : ∀ o h' tk, Pd pairs.length o → h'.get? s.heap.objs.size = some o → (∀ b ob, s.heap.get? b = some ob → h'.get? b = some ob) → Q (.ref s.heap.objs.size) { s with heap := h', toks := tk }) :
    wpAny (model prog w) A (call (.type "dict") [.ref lst]) Q E s := by
  refine callType_codes (Q₁ := fun obj s₁ => obj = .ref s.heap.objs.size ∧ s₁ = { s with heap := s.heap.push { cls := .type "dict", data := .dict #[] } }) F.kt_called_dict (F.kt_typeCall_dict_1 _) F.entry_dict_init (kt_code_dict_new _ ⟨rfl, rfl⟩) ?_
  rintro obj s₁ ⟨rfl, rfl⟩
  have hnew : (s.heap.push { cls := .type "dict", data := .dict #[] }).get? s.heap.objs.size = some { cls := .type "dict", data := .dict #[] } := Heap.get?_push_size _ rfl
  have hTd : ({ s with heap := s.heap.push { cls := .type "dict", data := .dict #[] } } : Shared).TypeIs (.ref s.heap.objs.size) "dict" := ⟨_, hnew, rfl⟩
  have hl1 : (s.heap.push { cls := .type "dict", data := .dict #[] }).PlainList lst items.toArray := hl.at fun o e => Heap.get?_push_of_some _ e
  have hTl : ({ s with heap := s.heap.push { cls := .type "dict", data := .dict #[] } } : Shared).TypeIs (.ref lst) "list" := let ⟨_, e⟩ := hl1; ⟨_, e, rfl⟩
  have hdl : s.heap.objs.size ≠ lst := fun q => by obtain ⟨_, e⟩ := hl; exact Nat.lt_irrefl _ (q ▸ Heap.lt_size e)
  refine ⟨hTd, F.args_dict_init_2 _ _, ?_⟩
  unfold Builtin.«dict.__init__»
  refine wpAny_bind ?_
  unfold Builtin.Dict.selfAndRest
  refine wpAny_bind (wpAny_notOrdered_dict hTd ?_)
  show wpAny _ _ (pure (s.heap.objs.size, [Value.ref lst])) _ _ _
  refine wpAny_pure ?_
  show wpAny _ _ (Builtin.Dict.updateFrom "dict.__init__" s.heap.objs.size (.ref lst) [] .none) _ _ _
  unfold Builtin.Dict.updateFrom
  refine wpAny_bind (wpAny_typeOf hTl ?_)
  rw [if_pos (by decide)]
  refine wpAny_bind (keys_quiet hl1 hh fun h₁ tk₁ hk₁ => ?_)
  show wpAny _ _ (if true = true then _ else _) _ _ _
  rw [if_pos rfl]
  have hl2 : h₁.PlainList lst items.toArray := hl1.at fun o e => hk₁ _ o e
  refine wpAny_bind (wpAny_rule (wpAny_bind (wpAny_pyIter_list hl2.isList (wpAny_pure ⟨Code.quiet_builtin _ (by decide +kernel), ?_⟩))))
  have hd1 := hk₁ _ _ hnew
  have hdI : s.heap.objs.size ≠ h₁.objs.size := Nat.ne_of_lt (Heap.lt_size hd1)
  have up : ∀ b ob, s.heap.get? b = some ob → (h₁.push { cls := .type "list_iterator", data := .fields #[.ref lst, .int 0 0] }).get? b = some ob := fun b ob e => Heap.get?_push_of_some _ (hk₁ b ob (Heap.get?_push_of_some _ e))
  have hI0 : s.heap.get? h₁.objs.size = none := by
    cases q : s.heap.get? h₁.objs.size with
    | none => rfl
    | some o => exact absurd (Heap.lt_size (hk₁ _ _ (Heap.get?_push_of_some _ q))) (Nat.lt_irrefl _)
  have hIl : lst ≠ h₁.objs.size := fun q => by obtain ⟨_, e⟩ := hl; rw [q, hI0] at e; cases e
  exact dict_loop (A := A.in1) (s₀ := s) (d := s.heap.objs.size) (I := h₁.objs.size) hh hdI hdl hIl (fresh_of (Nat.le_refl _)) hI0 hl.isList hlen htup hstep
    (fun o h' tk hP hd hk => ⟨rfl, h o h' tk hP hd hk⟩) pairs.length 0 (Nat.zero_add _) _ _ tk₁ _ h0 (Heap.get?_push_of_some _ hd1) ⟨_, Heap.get?_push_size _ rfl, rfl, rfl⟩ up
/-- the pairs of a list, their keys ints -/
def IntPairs (pairs : List (Value × Value)) (kvs : List (Int × Value)) : Prop := pairs.length = kvs.length ∧ ∀ (i : Nat) (k x : Value), pairs[i]? = some (k, x) → ∃ n t, k = .int n t ∧ kvs[i]? = some (n, x)
theorem stored_new {kvs : List (Int × Value)} {n : Int} {x : Value} (h : n ∉ kvs.map (·.1)) : stored kvs n x = kvs ++ [(n, x)] := by
  unfold stored
  have : (kvs.any fun kv => decide (kv.1 = n)) = false := by
    rw [List.any_eq_false]
    intro kv hkv e
    exact h (List.mem_map.mpr ⟨kv, hkv, by simpa using e⟩)
  rw [if_neg (by rw [this]; exact Bool.false_ne_true)]
theorem int_step {d : Addr} {s₀ : Shared} {pairs : List (Value × Value)} {kvs : List (Int × Value)} (hp : IntPairs pairs kvs) (hn : (kvs.map (·.1)).Nodup) (hz : kvs.length ≤ 1000) :
    PairStep prog w A d s₀ pairs (fun i o => o.IsDictOf (intKind prog w) (kvs.take i)) := by
  intro i k x s' o Q' E' hi hd hP hk _ _ _ hQ
  obtain ⟨n, t, rfl, hkv⟩ := hp.2 i k x hi
  have hD : s'.heap.DictOf (intKind prog w) d (kvs.take i) := Heap.dictOf_iff.mpr ⟨o, hd, hP⟩
  have hnew : n ∉ (kvs.take i).map (·.1) := by
    intro hm
    obtain ⟨⟨n', x'⟩, hm', e⟩ := List.mem_map.mp hm
    simp only at e
    subst e
    obtain ⟨j, hj, e⟩ := List.mem_iff_getElem.mp hm'
    rw [List.length_take] at hj
    rw [List.getElem_take] at e
    have h1 : (kvs.map (·.1))[j]? = some n' := by rw [List.getElem?_map, List.getElem?_eq_getElem (by omega), e]; rfl
    have h2 : (kvs.map (·.1))[i]? = some n' := by rw [List.getElem?_map, hkv]; rfl
    have := (List.getElem?_inj (by simp; omega) hn).mp (h1.trans h2.symm)
    omega
  refine wpAny_dictSet_pairs (intKind_is _ _ _ _) hD (fun h' hd' hs' => ?_) ?_
  · rw [stored_new hnew] at hd'
    obtain ⟨o', ho', hd''⟩ := Heap.dictOf_iff.mp hd'
    refine hQ o' h' _ ?_ ho' fun b ob n e => hs'.extBut b ob n e
    show o'.IsDictOf (intKind prog w) (kvs.take (i + 1))
    rw [List.take_add_one, hkv]
    exact hd''
  · rw [List.length_take]
    have : (1000 : Nat) ≤ sizeLine := by decide
    omega
/-- dict(..) of a list of pairs whose keys are ints -/
theorem call_dict_ints {lst : Addr} {items : List Value} {pairs : List (Value × Value)} {kvs : List (Int × Value)} {Q : Value → Shared → Prop} (hh : A.handled = none)
    (hl : s.heap.PlainList lst items.toArray) (hlen : items.length = pairs.length)
    (htup : ∀ (i : Nat) (v k x : Value), items[i]? = some v → pairs[i]? = some (k, x) → ∃ a, v = .ref a ∧ IsTup s.heap a #[k, x])
    (hp : IntPairs pairs kvs) (hn : (kvs.map (·.1)).Nodup) (hz : kvs.length ≤ 1000)
    (h : ∀ h' tk, h'.DictOf (intKind prog w) s.heap.objs.size kvs → (∀ b ob, s.heap.get? b = some ob → h'.get? b = some ob) → Q (.ref s.heap.objs.size) { s with heap := h', toks := tk }) :
    wpAny (model prog w) A (call (.type "dict") [.ref lst]) Q E s := by
  refine call_dict_pairs hh hl hlen htup (Pd := fun i o => o.IsDictOf (intKind prog w) (kvs.take i)) ?_ (int_step hp hn hz) fun o h' tk hP hd hk => h h' tk ?_ hk
  · obtain ⟨o, ho, hd⟩ := Heap.dictOf_iff.mp (Heap.DictOf.new (knd := intKind prog w) ({} : Heap))
    rw [Heap.get?_push_size _ rfl] at ho
    cases ho
    exact hd
  · refine Heap.dictOf_iff.mpr ⟨o, hd, ?_⟩
    rw [hp.1, List.take_of_length_le (Nat.le_refl _)] at hP
    exact hP
end
end Mine
end
section -- M7
open PySem PySem.W PySem.Calls PyProof.Rows
namespace Mine
def enumV (i : Int) : List Value → List (Int × Value)
  | [] => []
  | v :: r => (i, v) :: enumV (i + 1) r
theorem enumV_length : ∀ {vs : List Value} {i : Int}, (enumV i vs).length = vs.length
  | [], _ => rfl
  | v :: r, i => by simp [enumV, enumV_length]
theorem enumV_get : ∀ {vs : List Value} {i : Int} {j : Nat}, (enumV i vs)[j]? = vs[j]?.map fun v => (i + (j : Int), v)
  | [], _, _ => by simp [enumV]
  | v :: r, i, 0 => by simp [enumV]
  | v :: r, i, j + 1 => by
    rw [enumV, List.getElem?_cons_succ, enumV_get, List.getElem?_cons_succ]
    have : i + 1 + (j : Int) = i + ((j + 1 : Nat) : Int) := by omega
    rw [this]
theorem enumV_lt : ∀ {vs : List Value} {i n : Int}, n ∈ (enumV i vs).map (·.1) → i ≤ n
  | [], _, _, h => by simp [enumV] at h
  | v :: r, i, n, h => by
    simp only [enumV, List.map_cons, List.mem_cons] at h
    rcases h with rfl | h
    · omega
    · have := enumV_lt h; omega
theorem enumV_nodup : ∀ {vs : List Value} {i : Int}, ((enumV i vs).map (·.1)).Nodup
  | [], _ => by simp [enumV]
  | v :: r, i => by
    rw [enumV, List.map_cons, List.nodup_cons]
    exact ⟨fun h => by have := enumV_lt h; omega, enumV_nodup⟩
/-- what a made term of parts is -/
def MkAt (w : World) (h : Heap) (a : Addr) (vs : List Value) : Kd → Prop
  | .row => IsTup h a vs.toArray
  | .lst => h.PlainList a vs.toArray
  | .dct => h.DictOf (intKind PySem.Challenge.rw_ez0159_01.row.prog w) a (enumV 0 vs)
theorem MkAt.keep {w : World} {h h' : Heap} {a : Addr} {vs : List Value} (e : ∀ o, h.get? a = some o → h'.get? a = some o) : ∀ {kd : Kd}, MkAt w h a vs kd → MkAt w h' a vs kd
  | .row, x => isTup_at x e
  | .lst, x => Heap.PlainList.at x e
  | .dct, x => by
    obtain ⟨o, ho, hd⟩ := Heap.dictOf_iff.mp (show h.DictOf (intKind PySem.Challenge.rw_ez0159_01.row.prog w) a (enumV 0 vs) from x)
    exact Heap.dictOf_iff.mpr ⟨o, e o ho, hd⟩
theorem MkAt.has {w : World} {h : Heap} {a : Addr} {vs : List Value} : ∀ {kd : Kd}, MkAt w h a vs kd → ∃ o, h.get? a = some o
  | .row, x => let ⟨o, ho, _⟩ := x; ⟨o, ho⟩
  | .lst, x => let ⟨_, ho⟩ := x; ⟨_, ho⟩
  | .dct, x => let ⟨o, ho, _⟩ := Heap.dictOf_iff.mp (show h.DictOf (intKind PySem.Challenge.rw_ez0159_01.row.prog w) a (enumV 0 vs) from x); ⟨o, ho⟩
-- how a heap bears what a term makes
mutual
def MdAt (w : World) (h : Heap) (X : List Addr) (nv : Int → Addr) : Tm → Value → Prop
  | .num n, v => ∃ t, v = .int n t
  | .var i, v => v = .ref (nv i)
  | .node kd ts, v => ∃ a vs, v = .ref a ∧ a ∉ X ∧ MkAt w h a vs kd ∧ MdsAt w h X nv ts vs
def MdsAt (w : World) (h : Heap) (X : List Addr) (nv : Int → Addr) : List Tm → List Value → Prop
  | [], vs => vs = []
  | t :: r, vs => ∃ v vs', vs = v :: vs' ∧ MdAt w h X nv t v ∧ MdsAt w h X nv r vs'
end
section
variable {w : World} {nv : Int → Addr}
mutual
theorem MdAt.keep {h h' : Heap} {X : List Addr} (k : KeepX X h h') : ∀ (t : Tm) {v : Value}, MdAt w h X nv t v → MdAt w h' X nv t v
  | .num _, _, x => by unfold MdAt at x ⊢; exact x
  | .var _, _, x => by unfold MdAt at x ⊢; exact x
  | .node kd ts, _, x => by
    unfold MdAt at x ⊢
    obtain ⟨a, vs, e, n, m, r⟩ := x
    exact ⟨a, vs, e, n, m.keep fun o => k a o n, MdsAt.keep k ts r⟩
theorem MdsAt.keep {h h' : Heap} {X : List Addr} (k : KeepX X h h') : ∀ (ts : List Tm) {vs : List Value}, MdsAt w h X nv ts vs → MdsAt w h' X nv ts vs
  | [], _, x => by unfold MdsAt at x ⊢; exact x
  | t :: r, _, x => by
    unfold MdsAt at x ⊢
    obtain ⟨v, vs', e, a, b⟩ := x
    exact ⟨v, vs', e, MdAt.keep k t a, MdsAt.keep k r b⟩
end
mutual
theorem MdAt.setX {h : Heap} {X Y : List Addr} (k : ∀ b o, b ∉ X → h.get? b = some o → b ∉ Y) : ∀ (t : Tm) {v : Value}, MdAt w h X nv t v → MdAt w h Y nv t v
  | .num _, _, x => by unfold MdAt at x ⊢; exact x
  | .var _, _, x => by unfold MdAt at x ⊢; exact x
  | .node kd ts, _, x => by
    unfold MdAt at x ⊢
    obtain ⟨a, vs, e, n, m, r⟩ := x
    obtain ⟨o, ho⟩ := m.has
    exact ⟨a, vs, e, k a o n ho, m, MdsAt.setX k ts r⟩
theorem MdsAt.setX {h : Heap} {X Y : List Addr} (k : ∀ b o, b ∉ X → h.get? b = some o → b ∉ Y) : ∀ (ts : List Tm) {vs : List Value}, MdsAt w h X nv ts vs → MdsAt w h Y nv ts vs
  | [], _, x => by unfold MdsAt at x ⊢; exact x
  | t :: r, _, x => by
    unfold MdsAt at x ⊢
    obtain ⟨v, vs', e, a, b⟩ := x
    exact ⟨v, vs', e, MdAt.setX k t a, MdsAt.setX k r b⟩
end
theorem MdsAt.snoc {h : Heap} {X : List Addr} {t : Tm} {v : Value} : ∀ {ts : List Tm} {vs : List Value}, MdsAt w h X nv ts vs → MdAt w h X nv t v → MdsAt w h X nv (ts ++ [t]) (vs ++ [v])
  | [], _, x, y => by
    unfold MdsAt at x; subst x
    show MdsAt w h X nv [t] [v]
    unfold MdsAt; exact ⟨v, [], rfl, y, by unfold MdsAt; rfl⟩
  | u :: r, _, x, y => by
    unfold MdsAt at x
    obtain ⟨v', vs', rfl, a, b⟩ := x
    show MdsAt w h X nv (u :: (r ++ [t])) (v' :: (vs' ++ [v]))
    unfold MdsAt; exact ⟨v', _, rfl, a, MdsAt.snoc b y⟩
theorem MdsAt.length {h : Heap} {X : List Addr} : ∀ {ts : List Tm} {vs : List Value}, MdsAt w h X nv ts vs → vs.length = ts.length
  | [], _, x => by unfold MdsAt at x; subst x; rfl
  | u :: r, _, x => by
    unfold MdsAt at x
    obtain ⟨v', vs', rfl, _, b⟩ := x
    simp [MdsAt.length b]
theorem MdsAt.item {h : Heap} {X : List Addr} : ∀ {ts : List Tm} {vs : List Value} {j : Nat} {v : Value}, MdsAt w h X nv ts vs → vs[j]? = some v → ∃ t, ts[j]? = some t ∧ MdAt w h X nv t v
  | [], _, j, v, x, e => by unfold MdsAt at x; subst x; simp at e
  | u :: r, _, j, v, x, e => by
    unfold MdsAt at x
    obtain ⟨v', vs', rfl, a, b⟩ := x
    cases j with
    | zero => simp at e; subst e; exact ⟨u, rfl, a⟩
    | succ j => simp at e; obtain ⟨t, h1, h2⟩ := MdsAt.item b e; exact ⟨t, by simpa using h1, h2⟩
/-- a made thing of the caller's, seen within the callee's block -/
theorem md_lift {s₀ g h₁ h₃ : Heap} {L : Addr} {m m' : Str → Option Value} {O Xs : List Addr} {t : Tm} {v : Value} (G : GSub s₀ g []) (F₁ : Fr g L h₁ m) (F₃ : Fr g L h₃ m') (hO : ∀ b ∈ O, h₁.objs.size ≤ b) (ht : MdAt w s₀ Xs nv t v) : MdAt w h₃ (O ++ L :: Xs) nv t v := by
  have up : ∀ b o, s₀.get? b = some o → g.get? b = some o := fun b o e => G b o e (by simp)
  have a : MdAt w s₀ (O ++ L :: Xs) nv t v := MdAt.setX (fun b o n e q => by
    rcases List.mem_append.mp q with q | q
    · exact Nat.lt_irrefl _ (Nat.lt_of_lt_of_le (Heap.lt_size (F₁.keep b o (up b o e))) (hO b q))
    · rcases List.mem_cons.mp q with rfl | q
      · exact Nat.lt_irrefl _ (Nat.lt_of_lt_of_le (Heap.lt_size (up b o e)) F₁.above)
      · exact n q) t ht
  exact MdAt.keep (KeepX.of fun b o e => F₃.keep b o (up b o e)) t a
end
theorem nm_row (kd : Kd) : (kd.nm == Str.ofString "row") = (match kd with | .row => true | _ => false) := by cases kd <;> decide +kernel
theorem nm_list (kd : Kd) : (kd.nm == Str.ofString "list") = (match kd with | .lst => true | _ => false) := by cases kd <;> decide +kernel
theorem g_none {g h : Heap} {L b : Addr} {m : Str → Option Value} (F : Fr g L h m) (hb : h.objs.size ≤ b) : g.get? b = none := by
  cases q : g.get? b with
  | none => rfl
  | some o => exact absurd (Heap.lt_size (F.keep b o q)) (Nat.not_lt.mpr hb)
theorem frame_none {g h : Heap} {L : Addr} {m : Str → Option Value} (F : Fr g L h m) : g.get? L = none := by
  cases q : g.get? L with
  | none => rfl
  | some o => exact absurd (Heap.lt_size q) (Nat.not_lt.mpr F.above)
theorem tm_liftY {s₀ g h₃ : Heap} {Xs Y : List Addr} {t : Tm} {v : Value} (up : ∀ b o, s₀.get? b = some o → g.get? b = some o) (up3 : ∀ b o, g.get? b = some o → h₃.get? b = some o) (hY : ∀ b ∈ Y, b ∈ Xs ∨ g.get? b = none) (ht : TmAt s₀ Xs t v) : TmAt h₃ Y t v :=
  TmAt.keep (KeepX.of fun b o e => up3 b o (up b o e)) t (TmAt.setX (fun b o n e q => by
    rcases hY b q with q | q
    · exact n q
    · rw [up b o e] at q; cases q) t ht)
theorem md_liftY {w : World} {nv : Int → Addr} {s₀ g h₃ : Heap} {Xs Y : List Addr} {t : Tm} {v : Value} (up : ∀ b o, s₀.get? b = some o → g.get? b = some o) (up3 : ∀ b o, g.get? b = some o → h₃.get? b = some o) (hY : ∀ b ∈ Y, b ∈ Xs ∨ g.get? b = none) (ht : MdAt w s₀ Xs nv t v) : MdAt w h₃ Y nv t v :=
  MdAt.keep (KeepX.of fun b o e => up3 b o (up b o e)) t (MdAt.setX (fun b o n e q => by
    rcases hY b q with q | q
    · exact n q
    · rw [up b o e] at q; cases q) t ht)
theorem rest_ne {rest : List (Addr × Obj)} {ex : List Addr} {c : Addr} (h : ∀ q ∈ rest, q.1 ∉ ex) (hc : c ∈ ex) : ∀ q ∈ rest, q.1 ≠ c := fun q hq e => h q hq (e ▸ hc)
theorem len_small {ys : List Value} {n : Nat} (h : ys.length = n) (hn : n ≤ 1000) : ((ys.toArray.size : Nat) : Int) < 2 ^ 63 := by
  rw [List.size_toArray, h]
  have : (1000 : Int) < 2 ^ 63 := by decide
  omega
theorem fr_from_ns {g h h' : Heap} {L : Addr} {m m' : Str → Option Value} (F : Fr g L h m) (k : KeepX [L] h h') (n : h'.Ns L m') : Fr g L h' m' :=
  ⟨n, fun b o e => k b o (fun q => by rw [List.mem_singleton.mp q, frame_none F] at e; cases e) (F.keep b o e), F.above⟩
theorem news_kept {g h h' : Heap} {L : Addr} {l : List (Addr × Obj)} (N : News g L h l) (k : KeepX [L] h h') : News g L h' l := fun q hq => ⟨k _ _ (by simpa using (N q hq).2.1) (N q hq).1, (N q hq).2⟩
/-- a list of made pairs -/
def PairsAt (h : Heap) (O : List Addr) (zs : List Value) (prs : List (Value × Value)) : Prop := zs.length = prs.length ∧ ∀ (i : Nat) (v k x : Value), zs[i]? = some v → prs[i]? = some (k, x) → ∃ a, v = .ref a ∧ a ∉ O ∧ IsTup h a #[k, x]
theorem PairsAt.keep {h h' : Heap} {O : List Addr} {zs : List Value} {prs : List (Value × Value)} (p : PairsAt h O zs prs) (k : KeepX O h h') : PairsAt h' O zs prs :=
  ⟨p.1, fun i v a x e1 e2 => let ⟨b, e, n, t⟩ := p.2 i v a x e1 e2; ⟨b, e, n, isTup_at t fun o => k b o n⟩⟩
theorem PairsAt.nil {h : Heap} {O : List Addr} : PairsAt h O [] [] := ⟨rfl, fun i v k x e => by simp at e⟩
theorem get_snoc {α : Type} {l : List α} {a b : α} {i : Nat} (e : (l ++ [a])[i]? = some b) : (i < l.length ∧ l[i]? = some b) ∨ (i = l.length ∧ a = b) := by
  rcases Nat.lt_trichotomy i l.length with h | h | h
  · rw [List.getElem?_append_left h] at e; exact .inl ⟨h, e⟩
  · subst h; simp at e; exact .inr ⟨rfl, e⟩
  · rw [List.getElem?_eq_none (by simp; omega)] at e; cases e
theorem PairsAt.snoc {h : Heap} {O : List Addr} {zs : List Value} {prs : List (Value × Value)} {a : Addr} {k x : Value} (p : PairsAt h O zs prs) (n : a ∉ O) (t : IsTup h a #[k, x]) : PairsAt h O (zs ++ [.ref a]) (prs ++ [(k, x)]) := by
  refine ⟨by simp [p.1], fun i v k' x' e1 e2 => ?_⟩
  have l := p.1
  rcases get_snoc e1 with ⟨h1, e1⟩ | ⟨h1, rfl⟩
  · rcases get_snoc e2 with ⟨h2, e2⟩ | ⟨h2, e2⟩
    · exact p.2 i v k' x' e1 e2
    · omega
  · rcases get_snoc e2 with ⟨h2, e2⟩ | ⟨h2, e2⟩
    · omega
    · cases e2; exact ⟨a, rfl, n, t⟩
theorem IntPairs.nil : IntPairs [] [] := ⟨rfl, fun i k x e => by simp at e⟩
theorem IntPairs.snoc {prs : List (Value × Value)} {kvs : List (Int × Value)} {n : Int} {t : Tok} {x : Value} (p : IntPairs prs kvs) : IntPairs (prs ++ [(.int n t, x)]) (kvs ++ [(n, x)]) := by
  refine ⟨by simp [p.1], fun i k x' e => ?_⟩
  have l := p.1
  rcases get_snoc e with ⟨h1, e⟩ | ⟨h1, e⟩
  · obtain ⟨n', t', e1, e2⟩ := p.2 i k x' e
    exact ⟨n', t', e1, by rw [List.getElem?_append_left (by omega)]; exact e2⟩
  · cases e; exact ⟨n, t, rfl, by rw [h1, l]; simp⟩
theorem enumV_take {ys : List Value} {j : Nat} {y : Value} (e : ys[j]? = some y) : (enumV 0 ys).take (j + 1) = (enumV 0 ys).take j ++ [((j : Int), y)] := by
  rw [List.take_add_one, enumV_get, e]
  simp
theorem item_at {w : World} {A : Around} {E : Value → Shared → Prop} {s : Shared} {value slice : PySem.Expr} {l : Addr} {ys : List Value} {j : Nat} {v : Value} {u : Tok} {Q : Value → Shared → Prop}
    (hl : s.heap.IsList l ys.toArray) (hx : ys[j]? = some v) (hj : j ≤ 1000) (h : Q v s)
    (hs : subscripted slice false (.ref l) (.int (j : Int) u) = operate [.ref l, .int (j : Int) u] (getItem (.ref l) (.int (j : Int) u)) := by with_unfolding_all rfl) :
    wpAny (model PySem.Challenge.rw_ez0159_01.row.prog w) A (subscriptTail value slice (.ref l) (.int (j : Int) u)) Q E s := by
  have : (1000 : Int) < 2 ^ 63 := by decide
  exact tail_any hl.typeIs slot_list_getitem.lookup (wpAny_getItem_list hl (by omega) (by omega) (by simpa using hx) h) hs
end Mine
end
section -- M8
open PySem PySem.W PySem.Calls PyProof.Rows
set_option maxRecDepth 100000
namespace Mine
section
variable {prog : Program} {w : World} {A : Around} {E : Value → Shared → Prop} {s : Shared} {Q : Value → Shared → Prop}
/-- `sorted` of a dict with int keys; says what grows -/
theorem sorted_intdict {d : Addr} {kvs : List (Int × Value)} (hh : A.handled = none) (lo : (d == sysModules) = false) (hD : s.heap.DictOf (intKind prog w) d kvs) (hn : kvs.length ≤ 60)
    (h : ∀ (D : Addr) (h' : Heap) (tk : Nat) (us : List Value) (ns : List Int), (∀ b o, s.heap.get? b = some o → h'.get? b = some o) → s.heap.get? D = none → h'.IsList D us.toArray → IntsAre us ns → ns.Perm (kvs.map (·.1)) → ns.Pairwise (· ≤ ·) → Q (.ref D) { s with heap := h', toks := tk }) :
    wpAny (model prog w) A (call (.builtin "sorted") [.ref d]) Q E s := by
  obtain ⟨ep, hat⟩ := hD.dictAt
  have K := kdl_dict (prog := prog) (w := w) (knd := intKind prog w) (kvs := kvs) (ep := ep) lo
  have hsz : kvs.length ≤ sizeLine := Nat.le_trans hn (by decide)
  refine call_function_entry kind_sorted plain_sorted entry_sorted (args_sorted1 _) ?_
  unfold Builtin.«sorted»
  refine wpAny_bind (m := checkCount "sorted" 1 1 _) (wpAny_pure ?_)
  refine wpAny_bind (kdu_collect (A := A.in1) K hh hat hsz fun h' tk acc hk hacc => ?_)
  have hl : acc.toList.length = kvs.length := by rw [Array.length_toList]; exact hacc.1
  refine wpAny_bind (wpAny_newList ?_ (by rw [hl]; exact hsz))
  have hI : IntsAre acc.toList (kvs.map (·.1)) := by
    have key : ∀ (us : List Value) (ks : List (Int × Value)), us.length = ks.length → (∀ (j : Nat) (v : Value), us[j]? = some v → ∃ k x, ks[j]? = some (k, x) ∧ (intKind prog w).is k v = true) → IntsAre us (ks.map (·.1)) := by
      intro us
      induction us with
      | nil => intro ks e _; cases ks with
        | nil => exact .nil
        | cons => simp at e
      | cons u r ih => intro ks e f; cases ks with
        | nil => simp at e
        | cons q ks =>
          obtain ⟨k, x, e1, e2⟩ := f 0 u rfl
          simp at e1
          subst e1
          have e3 : ∃ t, u = .int k t := by
            exact Value.isInt_shape e2
          obtain ⟨t, rfl⟩ := e3
          exact .cons _ _ (ih ks (by simpa using e) fun j v hj => f (j + 1) v hj)
    exact key _ _ hl fun j v e => hacc.2 j v (by rw [← Array.getElem?_toList]; exact e)
  refine wpAny_bind (wpAny_holding ?_)
  have ho : (h'.push { cls := .type "list", data := .seq acc.toList.toArray }).get? h'.objs.size = some (seqObj "list" acc.toList.toArray 0) := Heap.get?_push_size _ rfl
  refine wpAny_call_entry PyProof.Rows.slot_list_sort ⟨_, ho, rfl⟩ PyProof.Rows.entry_list_sort (list_sort_tree (n := 0) (vs := acc.toList) ho hI (by omega) fun out ns' hI' hp hP => ⟨.none, rfl, ?_⟩) (PyProof.Rows.args_list_sort _)
  obtain ⟨e, he⟩ := sortedHeap_at (out := out) ho
  refine wpAny_pure ⟨_, rfl, h h'.objs.size _ tk out.toList ns' (fun b o hb => ?_) ?_ ⟨_, he, rfl, e, by simp⟩ hI' hp hP⟩
  · have hlt := Heap.lt_size (hk b o hb)
    rw [sortedHeap_old (h := h'.push { cls := .type "list", data := .seq acc.toList.toArray }) (Nat.ne_of_lt hlt) (by rw [size_push']; exact Nat.lt_succ_of_lt hlt)]
    exact Heap.get?_push_of_some _ (hk b o hb)
  · cases q : s.heap.get? h'.objs.size with
    | none => rfl
    | some o => exact absurd (Heap.lt_size (hk _ _ q)) (Nat.lt_irrefl _)
/-- `list` of range(0, n) -/
theorem list_range0 {r : Addr} {b₀ : Int} {n : Nat} {t₀ u₀ v₀ : Tok} (hh : A.handled = none) (hr : IsRange s.heap r 0 b₀ 1 t₀ u₀ v₀) (hb : b₀ = (n : Int)) (hn : n ≤ 1000)
    (h : ∀ (D : Addr) (h' : Heap) (tk : Nat) (us : List Value), (∀ b o, s.heap.get? b = some o → h'.get? b = some o) → s.heap.get? D = none → h'.IsList D us.toArray → IntsAre us (rangeKs 0 n) → Q (.ref D) { s with heap := h', toks := tk }) :
    wpAny (model prog w) A (call (.type "list") [.ref r]) Q E s := by
  subst hb
  have hsize : Builtin.Range.rangeSize 0 (n : Int) 1 = (n : Int) := by
    unfold Builtin.Range.rangeSize
    split <;> (try split) <;> (try simp) <;> omega
  have hsmall : Builtin.Range.small 0 (n : Int) 1 = true := by
    unfold Builtin.Range.small
    rw [hsize]
    simp [Builtin.Range.rangeFitsLong]
    omega
  refine call_list_range hh hr hsmall hsize (Nat.le_trans hn (by decide)) fun h' tk acc c hk hD hI => ?_
  refine h _ h' tk acc.toList hk ?_ ⟨_, hD, rfl, c, by simp⟩ (kll_ints _ _ _ (by rw [Array.length_toList]; exact hI.1) fun j v hj => hI.2 j v (by rw [← hj, Array.getElem?_toList]))
  cases q : s.heap.get? s.heap.objs.size with
  | none => rfl
  | some o => exact absurd (Heap.lt_size q) (Nat.lt_irrefl _)
end
theorem enumV_keys : ∀ (vs : List Value) (i : Int), (enumV i vs).map (·.1) = rangeKs i vs.length
  | [], i => rfl
  | v :: r, i => by
    show i :: (enumV (i + 1) r).map (·.1) = rangeKs i (r.length + 1)
    rw [enumV_keys r (i + 1), kll_cons]
theorem rangeKs_sorted : ∀ (n : Nat) (i : Int), (rangeKs i n).Pairwise (· ≤ ·)
  | 0, i => .nil
  | n + 1, i => by
    rw [kll_cons]
    refine .cons (fun y hy => ?_) (rangeKs_sorted n (i + 1))
    unfold rangeKs at hy
    obtain ⟨k, _, rfl⟩ := List.mem_map.mp hy
    omega
theorem sorted_is {ns : List Int} {n : Nat} (p : ns.Perm (rangeKs 0 n)) (o : ns.Pairwise (· ≤ ·)) : ns = rangeKs 0 n := lks_uniq p o (rangeKs_sorted n 0)
/-- item of a dict with int keys 0.. -/
theorem item_dct {w : World} {A : Around} {E : Value → Shared → Prop} {s : Shared} {value slice : PySem.Expr} {l : Addr} {ys : List Value} {j : Nat} {v : Value} {u : Tok} {Q : Value → Shared → Prop}
    (hl : s.heap.DictOf (intKind PySem.Challenge.rw_ez0159_01.row.prog w) l (enumV 0 ys)) (hx : ys[j]? = some v) (h : Q v { s with toks := s.toks + 1 })
    (hs : subscripted slice false (.ref l) (.int (j : Int) u) = operate [.ref l, .int (j : Int) u] (getItem (.ref l) (.int (j : Int) u)) := by with_unfolding_all rfl) (hg : ∀ r, letTemporaryGo value (.ref l) r = pure () := by intro _; with_unfolding_all rfl) :
    wpAny (model PySem.Challenge.rw_ez0159_01.row.prog w) A (subscriptTail value slice (.ref l) (.int (j : Int) u)) Q E s := by
  have key : ∀ (vs : List Value) (i : Int) (j : Nat) (v : Value), vs[j]? = some v → valueAt (enumV i vs) (i + (j : Int)) = some v := by
    intro vs
    induction vs with
    | nil => intro i j v e; simp at e
    | cons x r ih =>
      intro i j v e
      cases j with
      | zero => simp at e; subst e; simp [enumV, valueAt]
      | succ j =>
        have := ih (i + 1) j v (by simpa using e)
        have e1 : i + ((j + 1 : Nat) : Int) = i + 1 + (j : Int) := by omega
        rw [e1]
        simp only [enumV, valueAt] at this ⊢
        rw [List.find?_cons_of_neg (by simp; omega)]
        exact this
  have hv := key ys 0 j v hx
  rw [Int.zero_add] at hv
  exact subscriptTail_builtin hl.typeIs slot_dict_getitem.lookup (wpAny_getItem_of (intKind_is _ _ _ _) hl.mapOf hv h) hs hg
end Mine
end
section -- N1
open PySem PySem.W PySem.Calls PyProof.Rows
set_option maxRecDepth 100000
set_option maxHeartbeats 8000000
set_option linter.unusedVariables false
namespace Mine
theorem filled : (fun (_ : Params → Frag) (_ : OpenLaw) => True) Mine.hd.heap_39 PySem.Challenge.rw_ez0159_01 := by
  k_fill
  exact True.intro
local macro_rules | `(tactic| k_all) => `(tactic| assumption)
local macro_rules | `(tactic| ktr_enter) => `(tactic| first
  | (refine' code_defG ?k1 ?k2 ?k3 ?k4 ?k5 ?kA ?kF ?kK ?k6 ?k7 ?k8 ?k9 ?kB ?_ ?c2 ?c3 ?c4 ?c5; (case kA => exact rfl); (case kF => exact rfl); (case kK => first | assumption | exact rfl); (case k1 => k_asm); (case k2 => k_asm); (case k3 => k_asm); (case k4 => first | k_asm | exact News.nil); (case k5 => k_asm); (case k6 => k_is); (case k7 => k_is); (case k8 => ktr_room); (case k9 => exact BindsTo.of_eq rfl); (case c5 => decide); (case kB => exact locs rfl); (case c2 => exact rfl); (case c3 => exact rfl); (case c4 => exact rfl))
  | (refine' code_defCG ?k1 ?k2 ?k3 ?k4 ?k5 ?kA ?kF ?kK ?k6 ?k7 ?k8 ?k9 ?kB ?kD ?_ ?c2 ?c3 ?c4; (case kA => exact rfl); (case kF => exact rfl); (case kK => first | assumption | exact rfl); (case k1 => k_asm); (case k2 => k_asm); (case k3 => k_asm); (case k4 => first | k_asm | exact News.nil); (case k5 => k_asm); (case k6 => k_is); (case k7 => k_is); (case k8 => ktr_room); (case k9 => exact BindsTo.of_eq rfl); (case kB => exact rfl); (case kD => decide +kernel); (case c2 => exact rfl); (case c3 => exact rfl); (case c4 => exact rfl)))
/-- the object of the law's w -/
abbrev WDict (w : World) (sl : Addr) (o : Obj) : Prop :=
  ∃ a m t3 t5, 0 ≤ a ∧ 0 ≤ m ∧ m < 9973 ∧ Obj.IsDictOf (PySem.strKind PySem.Challenge.rw_ez0159_01.row.prog w) o [(Str.ofString "script", Value.ref sl), (Str.ofString "at", Value.int a t3), (Str.ofString "mixed", Value.int m t5)]

theorem next_c (w : World) {p : Program} {loose : List Str} {mean : ExcName → Option Value} {mg mb : Str → Option Value}
    {dp un : Nat} {gd : Option (List Code)} {cn : Str} {cs : Scope} {a : Addr} {ccd : Value} {cl : List (Str × Addr)} {outer : List Env} {A₀ : Around} {base h₀ : Heap} {L : Addr} {m : Str → Option Value} {s : Shared}
    {sl dw : Addr} {ow : Obj} {many : Int} {tk : Tok} {vs : List Value} {ns : List Int} {Q E : Value → Shared → Prop}
    (B : Below A₀ base outer h₀) (F : Fr h₀ L s.heap m) (X : (Mine.hd.heap_39 w.params).In h₀) (N : News h₀ L s.heap [(dw, ow)]) (T : Top p loose mean mg mb h₀) (hk : cs.kind = .function)
    (hl : base.IsList sl vs.toArray) (hI : IntsAre vs ns) (hlen : ns.length ≤ 63)
    (hW : WDict w sl ow) (hmany : 0 < many) (hd : dp + 1 < recursionLimit) (hu : un + 8 < cLine)
    (hret : ∀ r tk' ow' h' tks, Fr h₀ L h' m → News h₀ L h' [(dw, ow')] → WDict w sl ow' → 0 ≤ r → r < many → KeepX [dw] s.heap h' → Q (.int r tk') { s with heap := h', toks := tks }) :
    wpAny (model PySem.Challenge.rw_ez0159_01.row.prog w) (ktrTop dp un gd cn cs L a ccd cl outer) (call (.ref 241) [.ref dw, .int many tk]) Q E s := by
  obtain ⟨at0, mx, t3, t5, h0, hm0, hm1, hD⟩ := hW
  refine wpAny_call ?_
  k_dflt ktr_enter
  intro g L1 h1 FG F1 N1 B1 X1 T1 G1
  (try dsimp only)
  k_lift B1
  (try k_fold)
  k_steps
  all_goals
    refine hret _ _ _ _ _ (by assumption) (by assumption) ⟨_, _, _, _, ?_, (fmod_in _ (by decide)).1, (fmod_in _ (by decide)).2, by assumption⟩ (fmod_in _ hmany).1 (fmod_in _ hmany).2 (gkeep G1 (by assumption))
    omega

/-- a ledger behind a call that turned one of its objects -/
theorem news_turned {h₀ h h' : Heap} {L dw : Addr} {ow ow' : Obj} {news : List (Addr × Obj)} {gg : Obj → List (Addr × Obj)} (N : News h₀ L h news) (U : UpdF dw ow news gg) (N' : News h₀ L h' [(dw, ow')]) (k : KeepX [dw] h h') : News h₀ L h' (gg ow') := by
  obtain ⟨pre, post, rfl, hg, a, b⟩ := U.split
  rw [hg]
  have one : ∀ q ∈ pre ++ (dw, ow) :: post, q.1 ≠ dw → h'.get? q.1 = some q.2 ∧ q.1 ≠ L ∧ h₀.get? q.1 = none := fun q hq n =>
    ⟨k _ _ (by simpa using n) (N q hq).1, (N q hq).2⟩
  intro q hq
  rcases List.mem_append.mp hq with hq | hq
  · exact one q (List.mem_append_left _ hq) (a q hq)
  · rcases List.mem_cons.mp hq with rfl | hq
    · exact N' _ (.head _)
    · exact one q (List.mem_append_right _ (.tail _ hq)) (b q hq)
theorem news_one {h₀ h : Heap} {L dw : Addr} {ow : Obj} {news : List (Addr × Obj)} {gg : Obj → List (Addr × Obj)} (N : News h₀ L h news) (U : UpdF dw ow news gg) : News h₀ L h [(dw, ow)] := by
  obtain ⟨pre, post, rfl, hg, a, b⟩ := U.split
  intro q hq
  rw [List.mem_singleton.mp hq]
  exact N _ (List.mem_append_right _ (.head _))

theorem next_use (w : World) {p : Program} {loose : List Str} {mean : ExcName → Option Value} {mg mb : Str → Option Value}
    {dp un : Nat} {gd : Option (List Code)} {cn : Str} {cs : Scope} {a : Addr} {ccd : Value} {cl : List (Str × Addr)} {outer : List Env} {A₀ : Around} {base h₀ : Heap} {L : Addr} {m : Str → Option Value} {s : Shared}
    {sl dw : Addr} {ow : Obj} {many : Int} {tk : Tok} {vs : List Value} {ns : List Int} {Q E : Value → Shared → Prop} {news : List (Addr × Obj)} {gg : Obj → List (Addr × Obj)}
    (B : Below A₀ base outer h₀) (F : Fr h₀ L s.heap m) (X : (Mine.hd.heap_39 w.params).In h₀) (N : News h₀ L s.heap news) (T : Top p loose mean mg mb h₀) (hk : cs.kind = .function)
    (hl : base.IsList sl vs.toArray) (hI : IntsAre vs ns) (hlen : ns.length ≤ 63) (hW : WDict w sl ow) (U : UpdF dw ow news gg)
    (hmany : 0 < many) (hd : dp + 1 < recursionLimit) (hu : un + 8 < cLine)
    (hret : ∀ r tk' ow' h' tks, Fr h₀ L h' m → News h₀ L h' (gg ow') → WDict w sl ow' → 0 ≤ r → r < many → KeepX [dw] s.heap h' → Q (.int r tk') { s with heap := h', toks := tks }) :
    wpAny (model PySem.Challenge.rw_ez0159_01.row.prog w) (ktrTop dp un gd cn cs L a ccd cl outer) (call (.ref 241) [.ref dw, .int many tk]) Q E s :=
  next_c w B F X (news_one N U) T hk hl hI hlen hW hmany hd hu fun r tk' ow' h' tks F' N' W' a b k => hret r tk' ow' h' tks F' (news_turned N U N' k) W' a b k
end Mine
end
section -- N6
open PySem PySem.W PySem.Calls PyProof.Rows
set_option maxRecDepth 100000
set_option maxHeartbeats 8000000
set_option linter.unusedVariables false
namespace Mine
local macro_rules | `(tactic| walk_at "idle0") => `(tactic| fail)
local macro_rules | `(tactic| k_all) => `(tactic| assumption)
local macro_rules | `(tactic| ktr_enter) => `(tactic| first
  | (refine' code_defG ?k1 ?k2 ?k3 ?k4 ?k5 ?kA ?kF ?kK ?k6 ?k7 ?k8 ?k9 ?kB ?_ ?c2 ?c3 ?c4 ?c5; (case kA => exact rfl); (case kF => exact rfl); (case kK => first | assumption | exact rfl); (case k1 => k_asm); (case k2 => k_asm); (case k3 => k_asm); (case k4 => first | k_asm | exact News.nil); (case k5 => k_asm); (case k6 => k_is); (case k7 => k_is); (case k8 => ktr_room); (case k9 => exact BindsTo.of_eq rfl); (case c5 => decide); (case kB => exact locs rfl); (case c2 => exact rfl); (case c3 => exact rfl); (case c4 => exact rfl))
  | (refine' code_defCG ?k1 ?k2 ?k3 ?k4 ?k5 ?kA ?kF ?kK ?k6 ?k7 ?k8 ?k9 ?kB ?kD ?_ ?c2 ?c3 ?c4; (case kA => exact rfl); (case kF => exact rfl); (case kK => first | assumption | exact rfl); (case k1 => k_asm); (case k2 => k_asm); (case k3 => k_asm); (case k4 => first | k_asm | exact News.nil); (case k5 => k_asm); (case k6 => k_is); (case k7 => k_is); (case k8 => ktr_room); (case k9 => exact BindsTo.of_eq rfl); (case kB => exact rfl); (case kD => decide +kernel); (case c2 => exact rfl); (case c3 => exact rfl); (case c4 => exact rfl)))
local macro_rules | `(tactic| k_room) => `(tactic| (first | ((try simp only [depth_under_make, depth_under_kw, depth_in1, depth_deeper, depth_caller]); decide) | (dsimp only [ktrTop, Around.deeper, Around.in1, Around.mark]; omega)))
local macro_rules | `(tactic| k_units) => `(tactic| (first | exact Nat.le_of_ble_eq_true rfl | (dsimp only [ktrTop, Around.deeper, Around.in1, Around.mark]; omega)))
theorem inst_keep {g h : Heap} {x C : Addr} {ox : Obj} {od : Option Obj} (I : W.InstAt g x ox C od) (k : ∀ b o, g.get? b = some o → h.get? b = some o) : W.InstAt h x ox C od := by
  obtain ⟨a, c, n, d⟩ := I
  refine ⟨k _ _ a, c, n, ?_⟩
  revert d
  cases ox.dict <;> cases od <;> intro d
  · exact d
  · exact d
  · exact d
  · exact k _ _ d
/-- the law's variables -/
def VarAt (w : World) (h : Heap) (nv : Int → Addr) : Prop := ∀ i, 0 ≤ i → i < 5 → ∃ dv t1 t2, W.InstAt h (nv i) (instObj 185 dv) 185 (some (dictOf [⟨PyData.keyHash w.params (Str.ofString "token"), .str (Str.ofString "token") t1, .int i t2⟩] 1))
theorem VarAt.keep {w : World} {g h : Heap} {nv : Int → Addr} (V : VarAt w g nv) (k : ∀ b o, g.get? b = some o → h.get? b = some o) : VarAt w h nv := fun i a b => let ⟨dv, t1, t2, I⟩ := V i a b; ⟨dv, t1, t2, inst_keep I k⟩
/-- a value of a built-in class on the heap -/
def ClsAt (h : Heap) (a : Addr) (T : String) : Prop := ∃ o, h.get? a = some o ∧ o.cls = .type T
theorem ClsAt.keep {g h : Heap} {a : Addr} {T : String} (c : ClsAt g a T) (k : ∀ b o, g.get? b = some o → h.get? b = some o) : ClsAt h a T := let ⟨o, a, b⟩ := c; ⟨o, k _ _ a, b⟩
theorem MkAt.cls {w : World} {h : Heap} {a : Addr} {vs : List Value} : ∀ {kd : Kd}, MkAt w h a vs kd → ClsAt h a (match kd with | .row => "tuple" | .lst => "list" | .dct => "dict")
  | .row, x => let ⟨o, ho, hc, _⟩ := x; ⟨o, ho, hc⟩
  | .lst, x => let ⟨_, ho⟩ := x; ⟨_, ho, rfl⟩
  | .dct, x => let ⟨o, _, _, ho, hc, _⟩ := (show h.DictOf (intKind PySem.Challenge.rw_ez0159_01.row.prog w) a (enumV 0 vs) from x); ⟨o, ho, hc.1⟩
/-- what isinstance says of a value and the law's class of variables -/
def IsVarIs (w : World) (h : Heap) (v : Value) (b : Bool) : Prop := ∀ {A : Around} {E Q : Value → Shared → Prop} {s : Shared}, (∀ a o, h.get? a = some o → s.heap.get? a = some o) → (Mine.hd.heap_39 w.params).In s.heap → (∀ tk, Q (.bool b) { s with toks := tk }) →
  wpAny (model PySem.Challenge.rw_ez0159_01.row.prog w) A (call (.builtin "isinstance") [v, .ref 185]) Q E s
theorem isvar_int {w : World} {h : Heap} {n : Int} {t : Tok} : IsVarIs w h (.int n t) false := by
  intro A E Q s k X q
  k_dflt (refine' isn_call (P := fun _ => True) X ?k2 ?k3 ?k4 trivial int_cls (q _); (case k2 => (intro M; exact Looks.of_pure rfl)); (case k3 => k_not); (case k4 => intro e; cases e))
theorem isvar_var {w : World} {h : Heap} {x : Addr} {ox : Obj} {od : Option Obj} (I : W.InstAt h x ox 185 od) : IsVarIs w h (.ref x) true := by
  intro A E Q s k X q
  k_dflt (refine' isi_call (t := .ref 185) X ?k2 ?k3 ?k4 (q s.toks); (case k2 => (intro M; exact InstAt.type (inst_keep I k))); (case k3 => k_is); (case k4 => intro e; cases e))
theorem isvar_tuple {w : World} {h : Heap} {a : Addr} (c : ClsAt h a "tuple") : IsVarIs w h (.ref a) false := by
  intro A E Q s k X q
  have c' := c.keep k
  k_dflt (refine' isn_call (P := fun h => ∃ o, h.get? a = some o ∧ o.cls = .type "tuple") X ?k2 ?k3 ?k4 c' tuple_cls (q _); (case k2 => (intro M; obtain ⟨o, h1, h2⟩ := c'; exact h2 ▸ (Looks.ld h1).andThen .now)); (case k3 => k_not); (case k4 => intro e; cases e))
theorem isvar_list {w : World} {h : Heap} {a : Addr} (c : ClsAt h a "list") : IsVarIs w h (.ref a) false := by
  intro A E Q s k X q
  have c' := c.keep k
  k_dflt (refine' isn_call (P := fun h => ∃ o, h.get? a = some o ∧ o.cls = .type "list") X ?k2 ?k3 ?k4 c' list_cls (q _); (case k2 => (intro M; obtain ⟨o, h1, h2⟩ := c'; exact h2 ▸ (Looks.ld h1).andThen .now)); (case k3 => k_not); (case k4 => intro e; cases e))
theorem isvar_dict {w : World} {h : Heap} {a : Addr} (c : ClsAt h a "dict") : IsVarIs w h (.ref a) false := by
  intro A E Q s k X q
  have c' := c.keep k
  k_dflt (refine' isn_call (P := fun h => ∃ o, h.get? a = some o ∧ o.cls = .type "dict") X ?k2 ?k3 ?k4 c' dict_cls (q _); (case k2 => (intro M; obtain ⟨o, h1, h2⟩ := c'; exact h2 ▸ (Looks.ld h1).andThen .now)); (case k3 => k_not); (case k4 => intro e; cases e))
theorem isvar_mk {w : World} {h : Heap} {a : Addr} {vs : List Value} : ∀ {kd : Kd}, MkAt w h a vs kd → IsVarIs w h (.ref a) false
  | .row, x => isvar_tuple x.cls
  | .lst, x => isvar_list x.cls
  | .dct, x => isvar_dict x.cls
theorem IsVarIs.keep {w : World} {g h : Heap} {v : Value} {b : Bool} (i : IsVarIs w g v b) (k : ∀ a o, g.get? a = some o → h.get? a = some o) : IsVarIs w h v b := fun k' X q => i (fun a o e => k' a o (k a o e)) X q
local macro_rules | `(tactic| walk_at "call builtin:isinstance") => `(tactic| (k_here; (with_reducible show wpAny _ _ (call _ [_, Value.ref 185]) _ _ _); refine of_here ?_))
theorem isvar_c (w : World) {p : Program} {loose : List Str} {mean : ExcName → Option Value} {mg mb : Str → Option Value}
    {dp un : Nat} {gd : Option (List Code)} {cn : Str} {cs : Scope} {a : Addr} {ccd : Value} {cl : List (Str × Addr)} {outer : List Env} {A₀ : Around} {base h₀ : Heap} {L : Addr} {m : Str → Option Value} {s : Shared}
    {v : Value} {b : Bool} {hb : Heap} {Q E : Value → Shared → Prop}
    (B : Below A₀ base outer h₀) (F : Fr h₀ L s.heap m) (X : (Mine.hd.heap_39 w.params).In h₀) (T : Top p loose mean mg mb h₀) (hk : cs.kind = .function)
    (hi : IsVarIs w hb v b) (hup : ∀ b o, hb.get? b = some o → s.heap.get? b = some o) (hd : dp + 2 < recursionLimit) (hu : un + 10 < cLine)
    (hret : ∀ h' tks, Fr h₀ L h' m → (∀ b o, s.heap.get? b = some o → h'.get? b = some o) → Q (.bool b) { s with heap := h', toks := tks }) :
    wpAny (model PySem.Challenge.rw_ez0159_01.row.prog w) (ktrTop dp un gd cn cs L a ccd cl outer) (call (.ref 197) [v]) Q E s := by
  refine wpAny_call ?_
  k_dflt ktr_enter
  intro g L1 h1 FG F1 N1 B1 X1 T1 G1
  (try dsimp only)
  have keep := fun h' m' (Fz : Fr g L1 h' m') => gkeep G1 Fz
  (try k_fold)
  k_steps
  show wpAny _ _ _ _ _ _
  rename Fr g L1 _ _ => Fz
  refine hi (fun a o e => Fz.keep a o (G1 a o (hup a o e) (by simp))) (X1.keeps Fz.keep) fun tk => ?_
  k_steps
  rename Fr h₀ L _ _ => kFz
  rename Fr g L1 _ _ => Fz
  exact hret _ _ kFz (fun b o e => keep _ _ Fz b o (by simp) e)
theorem names_item {w : World} {A : Around} {E : Value → Shared → Prop} {s : Shared} {value slice : PySem.Expr} {nl : Addr} {nv : Int → Addr} {k : Int} {u : Tok} {Q : Value → Shared → Prop}
    (hnl : s.heap.IsList nl #[.ref (nv 0), .ref (nv 1), .ref (nv 2), .ref (nv 3), .ref (nv 4)]) (h0 : 0 ≤ k) (h1 : k < 5) (h : Q (.ref (nv k)) s)
    (hs : subscripted slice false (.ref nl) (.int k u) = operate [.ref nl, .int k u] (getItem (.ref nl) (.int k u)) := by with_unfolding_all rfl) :
    wpAny (model PySem.Challenge.rw_ez0159_01.row.prog w) A (subscriptTail value slice (.ref nl) (.int k u)) Q E s := by
  have c : k = 0 ∨ k = 1 ∨ k = 2 ∨ k = 3 ∨ k = 4 := by omega
  rcases c with rfl | rfl | rfl | rfl | rfl <;> exact tail_any hnl.typeIs slot_list_getitem.lookup (wpAny_getItem_list hnl h0 (by omega) rfl h) hs
theorem inst_up1 {g h : Heap} {L x C : Addr} {m : Str → Option Value} {ox : Obj} {od : Option Obj} (F : Fr g L h m) (I : W.InstAt g x ox C od) : W.InstAt h x ox C od := inst_keep I F.keep
theorem inst_up2 {g h k : Heap} {L L2 x C : Addr} {m m2 : Str → Option Value} {ox : Obj} {od : Option Obj} (F2 : Fr h L2 k m2) (F : Fr g L h m) (I : W.InstAt g x ox C od) : W.InstAt k x ox C od := inst_keep (inst_keep I F.keep) F2.keep
local macro_rules | `(tactic| k_inst) => `(tactic| first | (refine' inst_up1 ?F ?I; (case F => k_asm); (case I => assumption)) | (refine' inst_up2 ?F2 ?F ?I; (case F2 => k_asm); (case F => k_asm); (case I => assumption)))
theorem news_grown0 {g h h' : Heap} {L : Addr} {l : List (Addr × Obj)} (N : News g L h l) (k : ∀ b o, h.get? b = some o → h'.get? b = some o) : News g L h' l := News.grown N k
theorem isvar_use (w : World) {p : Program} {loose : List Str} {mean : ExcName → Option Value} {mg mb : Str → Option Value}
    {dp un : Nat} {gd : Option (List Code)} {cn : Str} {cs : Scope} {a : Addr} {ccd : Value} {cl : List (Str × Addr)} {outer : List Env} {A₀ : Around} {base h₀ : Heap} {L : Addr} {m : Str → Option Value} {s : Shared} {news : List (Addr × Obj)}
    {v : Value} {b : Bool} {Q E : Value → Shared → Prop}
    (B : Below A₀ base outer h₀) (F : Fr h₀ L s.heap m) (X : (Mine.hd.heap_39 w.params).In h₀) (N : News h₀ L s.heap news) (T : Top p loose mean mg mb h₀) (hk : cs.kind = .function)
    (hi : IsVarIs w h₀ v b) (hd : dp + 2 < recursionLimit) (hu : un + 10 < cLine)
    (hret : ∀ h' tks, Fr h₀ L h' m → News h₀ L h' news → (∀ b o, s.heap.get? b = some o → h'.get? b = some o) → Q (.bool b) { s with heap := h', toks := tks }) :
    wpAny (model PySem.Challenge.rw_ez0159_01.row.prog w) (ktrTop dp un gd cn cs L a ccd cl outer) (call (.ref 197) [v]) Q E s :=
  isvar_c w B F X T hk hi F.keep hd hu fun h' tks F' k => hret h' tks F' (News.grown N k) k
local macro_rules | `(tactic| walk_at "call ref") => `(tactic| (k_here; (with_reducible show wpAny _ _ (call (Value.ref 268) _) _ _ _); refine of_here ?_))
local macro_rules | `(tactic| walk_at "call ref") => `(tactic| (k_here; (with_reducible show wpAny _ _ (call (Value.ref 197) _) _ _ _); k_dflt (refine' isvar_use _ ?B ?F ?X ?N ?T ?k ?i ?d ?u ?_; (case B => k_asm); (case F => k_asm); (case X => k_asm); (case N => k_asm); (case T => k_asm); (case k => first | assumption | exact rfl); (case i => assumption); (case d => (dsimp only [ktrTop, Around.deeper, Around.in1, Around.mark]; omega)); (case u => (dsimp only [ktrTop, Around.deeper, Around.in1, Around.mark]; omega))); intro h' tks' F' N' k'))
local macro_rules | `(tactic| walk_at "subscriptTail") => `(tactic| (k_here; (with_unfolding_all refine' names_item (isList_keep ?F ?l) ?a ?b ?_; (case F => k_asm); (case l => assumption); (case a => assumption); (case b => assumption))))
theorem eq_class_same {prog : Program} {w : World} {A : Around} {E : Value → Shared → Prop} {s : Shared} {Q : Value → Shared → Prop} {C : Addr} {o : Obj} (hC : s.heap.get? C = some o) (hc : o.cls = .type "type") (hu : A.units < cLine) (h : Q (.bool true) s) :
    wpAny (model prog w) A (compareOp .Eq (.ref C) (.ref C)) Q E s := by
  have hT : s.TypeIs (.ref C) "type" := ⟨o, hC, hc⟩
  show wpAny _ A (richCompare .Eq _ _) Q E s
  exact wpAny_richCompare_same_room hT hT TypeEq.slot_type_eq
    (wpAny_call (codeAny_call_builtin TypeEq.slot_type_eq.plain F.entry_object_eq (TypeEq.slot_type_eq.check _ _ _ _ _ _ _ _ hT (F.args_object_eq_2 _ _) (objEq_entry_same ⟨(by intro e; cases e), h⟩)))) hu
local macro_rules | `(tactic| walk_at "compareOp Eq ref ref") => `(tactic| (k_here; (with_reducible show wpAny _ _ (compareOp CmpOp.Eq (Value.ref 185) (Value.ref 185)) _ _ _); k_dflt (refine' eq_class_same ?a ?b ?c ?_; (case a => refine' kto_K ?X ?l; (case X => k_in); (case l => k_is)); (case b => exact rfl); (case c => k_units))))
/-- a tuple or a list with these items -/
def SeqAt (h : Heap) (a : Addr) (vs : List Value) : Prop := IsTup h a vs.toArray ∨ h.IsList a vs.toArray
theorem SeqAt.up {g h : Heap} {L a : Addr} {m : Str → Option Value} {vs : List Value} (x : SeqAt g a vs) (F : Fr g L h m) : SeqAt h a vs := x.elim (fun y => .inl (F.tup y)) (fun y => .inr (isList_keep F y))
theorem len_seq {prog : Program} {w : World} {A : Around} {E : Value → Shared → Prop} {s : Shared} {a : Addr} {vs : List Value} {Q : Value → Shared → Prop} (x : SeqAt s.heap a vs) (hfit : vs.length ≤ 1000)
    (h : Q (.int vs.length (s.toks + 1)) { s with toks := s.toks + 1 + 1 }) : wpAny (model prog w) A (call (.builtin "len") [.ref a]) Q E s := by
  have e : vs.toArray.size = vs.length := List.size_toArray
  rcases x with x | x
  · exact PyProof.Rows.len_tuple x (len_small rfl hfit) (by rw [e]; exact h)
  · exact PyProof.Rows.len_list x (len_small rfl hfit) (by rw [e]; exact h)
theorem item_seq {w : World} {A : Around} {E : Value → Shared → Prop} {s : Shared} {value slice : PySem.Expr} {l : Addr} {ys : List Value} {j : Nat} {v : Value} {u : Tok} {Q : Value → Shared → Prop}
    (hl : SeqAt s.heap l ys) (hx : ys[j]? = some v) (hj : j ≤ 1000) (h : Q v s)
    (hs : subscripted slice false (.ref l) (.int (j : Int) u) = operate [.ref l, .int (j : Int) u] (getItem (.ref l) (.int (j : Int) u)) := by with_unfolding_all rfl) :
    wpAny (model PySem.Challenge.rw_ez0159_01.row.prog w) A (subscriptTail value slice (.ref l) (.int (j : Int) u)) Q E s := by
  have : (1000 : Int) < 2 ^ 63 := by decide
  have hlt : j < ys.length := (List.getElem?_eq_some_iff.mp hx).1
  rcases hl with hl | hl
  · exact tail_any hl.typeIs slot_tuple_getitem.lookup (getItem_tuple (j := j) hl (by omega) (by omega) (by unfold seqIndex?; simp; omega) (by simpa using hx) h) hs
  · exact item_at hl hx hj h hs
theorem isi_tb {w : World} {prog : Program} {A : Around} {E : Value → Shared → Prop} {s : Shared} {Q : Value → Shared → Prop} {g : Heap} {L a : Addr} {m : Str → Option Value} (F : Fr g L s.heap m) (c : ClsAt g a "tuple") (h : Q (.bool false) { s with toks := s.toks + 1 }) : wpAny (model prog w) A (call (.builtin "isinstance") [.ref a, .type "bool"]) Q E s := let ⟨_, ho, hc⟩ := c; IsiPair.tuple_bool (F.keep _ _ ho) hc h
theorem isi_tt {w : World} {prog : Program} {A : Around} {E : Value → Shared → Prop} {s : Shared} {Q : Value → Shared → Prop} {g : Heap} {L a : Addr} {m : Str → Option Value} (F : Fr g L s.heap m) (c : ClsAt g a "tuple") (h : Q (.bool true) s) : wpAny (model prog w) A (call (.builtin "isinstance") [.ref a, .type "tuple"]) Q E s := let ⟨_, ho, hc⟩ := c; IsiPair.tuple_tuple (F.keep _ _ ho) hc h
theorem isi_lb {w : World} {prog : Program} {A : Around} {E : Value → Shared → Prop} {s : Shared} {Q : Value → Shared → Prop} {g : Heap} {L a : Addr} {m : Str → Option Value} (F : Fr g L s.heap m) (c : ClsAt g a "list") (h : Q (.bool false) { s with toks := s.toks + 1 }) : wpAny (model prog w) A (call (.builtin "isinstance") [.ref a, .type "bool"]) Q E s := let ⟨_, ho, hc⟩ := c; IsiPair.list_bool (F.keep _ _ ho) hc h
theorem isi_ll {w : World} {prog : Program} {A : Around} {E : Value → Shared → Prop} {s : Shared} {Q : Value → Shared → Prop} {g : Heap} {L a : Addr} {m : Str → Option Value} (F : Fr g L s.heap m) (c : ClsAt g a "list") (h : Q (.bool true) s) : wpAny (model prog w) A (call (.builtin "isinstance") [.ref a, .type "list"]) Q E s := let ⟨_, ho, hc⟩ := c; IsiPair.list_list (F.keep _ _ ho) hc h
theorem isi_db {w : World} {prog : Program} {A : Around} {E : Value → Shared → Prop} {s : Shared} {Q : Value → Shared → Prop} {g : Heap} {L a : Addr} {m : Str → Option Value} (F : Fr g L s.heap m) (c : ClsAt g a "dict") (h : Q (.bool false) { s with toks := s.toks + 1 }) : wpAny (model prog w) A (call (.builtin "isinstance") [.ref a, .type "bool"]) Q E s := let ⟨_, ho, hc⟩ := c; IsiPair.dict_bool (F.keep _ _ ho) hc h
theorem isi_dd {w : World} {prog : Program} {A : Around} {E : Value → Shared → Prop} {s : Shared} {Q : Value → Shared → Prop} {g : Heap} {L a : Addr} {m : Str → Option Value} (F : Fr g L s.heap m) (c : ClsAt g a "dict") (h : Q (.bool true) s) : wpAny (model prog w) A (call (.builtin "isinstance") [.ref a, .type "dict"]) Q E s := let ⟨_, ho, hc⟩ := c; IsiPair.dict_dict (F.keep _ _ ho) hc h
local macro_rules | `(tactic| walk_at "call builtin:isinstance") => `(tactic| (k_here; (with_reducible show wpAny _ _ (call _ [Value.ref _, Value.type _]) _ _ _); k_dflt (first
  | (refine' isi_tb ?F ?c ?_; (case F => k_asm); (case c => assumption)) | (refine' isi_tt ?F ?c ?_; (case F => k_asm); (case c => assumption))
  | (refine' isi_lb ?F ?c ?_; (case F => k_asm); (case c => assumption)) | (refine' isi_ll ?F ?c ?_; (case F => k_asm); (case c => assumption))
  | (refine' isi_db ?F ?c ?_; (case F => k_asm); (case c => assumption)) | (refine' isi_dd ?F ?c ?_; (case F => k_asm); (case c => assumption)))))
local macro_rules | `(tactic| walk_at "eval ListComp") => `(tactic| (k_here; refine of_here ?_))
local macro_rules | `(tactic| walk_at "call builtin:len") => `(tactic| (k_here; (with_reducible show wpAny _ _ (call (Value.builtin "len") [Value.ref _]) _ _ _); k_dflt (first
  | (refine' PyProof.Rows.len_list (isList_keep ?F ?l) (len_small ?e ?f) ?_; (case F => k_asm); (case l => assumption); (case e => exact rfl); (case f => omega); (try simp only [List.size_toArray]))
  | (refine' len_seq (SeqAt.up ?l ?F) ?f ?_; (case l => assumption); (case F => k_asm); (case f => omega))
  | (refine' len_seq (.inr (News.isList ?N ?l)) ?f ?_; (case N => k_asm); (case l => k_mem); (case f => omega)))))
local macro_rules | `(tactic| walk_at "subscriptTail") => `(tactic| (k_here; (with_reducible show wpAny _ _ (subscriptTail _ _ (Value.ref _) (Value.int ((_ : Nat) : Int) _)) _ _ _); (with_unfolding_all refine' item_seq (SeqAt.up ?l ?F) ?x ?j ?_; (case l => assumption); (case F => k_asm); (case x => assumption); (case j => omega))))
theorem fresh_ne {g h : Heap} {L D c : Addr} {o : Obj} {news : List (Addr × Obj)} (N : News g L h news) (m : (c, o) ∈ news) (n : h.get? D = none) : D ≠ c := fun e => by
  have q := (N _ m).1
  rw [← e, n] at q
  cases q
theorem ge_ne {g h : Heap} {L D c : Addr} {o : Obj} {news : List (Addr × Obj)} (N : News g L h news) (m : (c, o) ∈ news) (n : h.objs.size ≤ D) : D ≠ c := fun e => Nat.lt_irrefl _ (Nat.lt_of_lt_of_le (e ▸ Heap.lt_size (N _ m).1) n)
local macro_rules | `(tactic| walk_at "call builtin:sorted") => `(tactic| (k_here; refine of_here ?_))
local macro_rules | `(tactic| walk_at "call type:list") => `(tactic| (k_here; refine of_here ?_))
local macro_rules | `(tactic| walk_at "compareOp NotEq ref ref") => `(tactic| (k_here; refine of_here ?_))
theorem News.isListE {g h : Heap} {L : Addr} {news : List (Addr × Obj)} {vs : List Value} {n : Nat} (N : News g L h news) (q : Addr × Obj) (hq : q ∈ news) (hc : q.2.cls = .type "list") (hs : q.2.data = .seq vs.toArray n) : h.IsList q.1 vs.toArray := ⟨q.2, (N _ hq).1, hc, n, hs⟩
local macro_rules | `(tactic| walk_at "subscriptTail") => `(tactic| (k_here; (with_reducible show wpAny _ _ (subscriptTail _ _ (Value.ref _) (Value.int ((_ : Nat) : Int) _)) _ _ _); (with_unfolding_all refine' item_seq (.inr (News.isList ?N ?l)) ?x ?j ?_; (case N => k_asm); (case l => k_mem); (case x => assumption); (case j => omega))))
local macro_rules | `(tactic| walk_at "subscriptTail") => `(tactic| (k_here; (with_reducible show wpAny _ _ (subscriptTail _ _ (Value.ref _) (Value.int ((_ : Nat) : Int) _)) _ _ _); k_dflt (refine' item_dct ?l ?x ?_; (case l => assumption); (case x => assumption))))
local macro_rules | `(tactic| walk_at "exec Assign cons ListComp") => `(tactic| (k_here; with_reducible refine wpAny_Assign_Name ?_ ?_; rotate_left; (with_unfolding_all rfl); refine of_here ?_))
theorem alike_c (w : World) {p : Program} {loose : List Str} {mean : ExcName → Option Value} {mg mb : Str → Option Value} {nl : Addr} {nv : Int → Addr} : ∀ (d : Nat)
    {dp un : Nat} {gd : Option (List Code)} {cn : Str} {cs : Scope} {a : Addr} {ccd : Value} {cl : List (Str × Addr)} {outer : List Env} {A₀ : Around} {base h₀ : Heap} {L : Addr} {m : Str → Option Value} {s : Shared}
    {v r : Value} {u : Tm} {Xs Ys : List Addr} {Q E : Value → Shared → Prop}
    (B : Below A₀ base outer h₀) (F : Fr h₀ L s.heap m) (X : (Mine.hd.heap_39 w.params).In h₀) (T : Top p loose mean mg mb h₀) (hk : cs.kind = .function)
    (hm : MdAt w s.heap Ys nv u r) (h1m : sysModules ∈ Ys) (ht : TmAt s.heap Xs u v) (hw : Wf 0 5 u) (hdt : u.depth < d)
    (hnl : s.heap.IsList nl #[.ref (nv 0), .ref (nv 1), .ref (nv 2), .ref (nv 3), .ref (nv 4)]) (hV : VarAt w s.heap nv)
    (hd : dp + d + 12 < recursionLimit) (hu : un + 20 * d + 60 < cLine)
    (hret : ∀ h' tks, Fr h₀ L h' m → KeepX [] s.heap h' → Q (.bool true) { s with heap := h', toks := tks }),
    wpAny (model PySem.Challenge.rw_ez0159_01.row.prog w) (ktrTop dp un gd cn cs L a ccd cl outer) (call (.ref 268) [r, v, .ref nl]) Q E s := by
  intro d
  induction d with
  | zero =>
    intro dp un gd cn cs a ccd cl outer A₀ base h₀ L m s v r u Xs Ys Q E B F X T hk hm h1m ht hw hdt hnl hV hd hu hret
    exact absurd hdt (Nat.not_lt_zero _)
  | succ d ih =>
    intro dp un gd cn cs a ccd cl outer A₀ base h₀ L m s v r u Xs Ys Q E B F X T hk hm h1m ht hw hdt hnl hV hd hu hret
    cases u with
    | num n =>
      obtain ⟨x, t1, t2, rfl, nx, hx⟩ := ht
      obtain ⟨tr, rfl⟩ := hm
      refine wpAny_call ?_
      k_dflt ktr_enter
      intro g L1 h1 tk1 cells FG F1 N1 Y1 B1 X1 T1 lt1 G1
      k_cells Y1
      (try simp only [List.cons_append, List.nil_append] at N1)
      (try dsimp only)
      have hx1 : IsTup g x _ := isTup_at hx fun o e => G1 x o e (by simp)
      have hiv : IsVarIs w g (.int n tr) false := isvar_int
      have keep := fun h' m' (Fz : Fr g L1 h' m') => gkeep G1 Fz
      (try k_fold)
      k_steps
      rename Fr h₀ L _ _ => kFz
      rename Fr g L1 _ _ => Fz
      have e : (n == n) = true := by simp
      rw [e]
      exact hret _ _ kFz (keep _ _ Fz)
    | var i =>
      obtain ⟨x, t1, t2, rfl, nx, hx⟩ := ht
      have hr : r = .ref (nv i) := hm
      subst hr
      have hw0 := hw.1
      have hw1 := hw.2
      refine wpAny_call ?_
      k_dflt ktr_enter
      intro g L1 h1 tk1 cells FG F1 N1 Y1 B1 X1 T1 lt1 G1
      k_cells Y1
      (try simp only [List.cons_append, List.nil_append] at N1)
      (try dsimp only)
      have hx1 : IsTup g x _ := isTup_at hx fun o e => G1 x o e (by simp)
      have hnl1 : g.IsList nl _ := hnl.at fun o e => G1 nl o e (by simp)
      obtain ⟨dv, u1, u2, I⟩ := hV i hw0 hw1
      have I1 := inst_keep (h := g) I fun b o e => G1 b o e (by simp)
      have hiv : IsVarIs w g (.ref (nv i)) true := isvar_var I1
      have keep := fun h' m' (Fz : Fr g L1 h' m') => gkeep G1 Fz
      (try k_fold)
      k_steps
      rename Fr h₀ L _ _ => kFz
      rename Fr g L1 _ _ => Fz
      have e : (i == i) = true := by simp
      rw [e]
      exact hret _ _ kFz (keep _ _ Fz)
    | node kd ts =>
      obtain ⟨x, t1, l, vs, rfl, nx, nl', hx, hl, hts⟩ := ht
      obtain ⟨rr, ys, rfl, nr, hmk, hys⟩ := hm
      refine wpAny_call ?_
      k_dflt ktr_enter
      intro g L1 h1 tk1 cells FG F1 N1 Y1 B1 X1 T1 lt1 G1
      k_cells Y1
      (try simp only [List.cons_append, List.nil_append] at N1)
      (try dsimp only)
      have hx1 : IsTup g x _ := isTup_at hx fun o e => G1 x o e (by simp)
      have hl1 : g.IsList l _ := hl.at fun o e => G1 l o e (by simp)
      have hnl1 : g.IsList nl _ := hnl.at fun o e => G1 nl o e (by simp)
      have hmk1 : MkAt w g rr ys kd := hmk.keep fun o e => G1 rr o e (by simp)
      have hcl := hmk1.cls
      have hiv : IsVarIs w g (.ref rr) false := isvar_mk hmk1
      have keep := fun h' m' (Fz : Fr g L1 h' m') => gkeep G1 Fz
      have nmv := nm_var kd
      have nmn := nm_num kd
      have hvl := hts.length
      have hyl := hys.length
      have hts3 : ts.length ≤ 3 := hw.1
      have hvl3 : vs.toArray.size ≤ 1000 := by rw [List.size_toArray]; omega
      simp only [Tm.depth] at hdt
      cases kd with
      | row =>
        have hx2 : IsTup g x #[.str (Str.ofString "row") t1, .ref l] := hx1
        have hcl2 : ClsAt g rr "tuple" := hcl
        have hsq : SeqAt g rr ys := .inl hmk1
        have hsl : SeqAt g l vs := .inr hl1
        (try k_fold)
        k_steps
        rotate_left
        · omega
        show wpAny _ _ _ _ _ _
        refine' comp_rangeT ?hh ?hclos ?hcell ?hkind ?hnames ?hx ?h ?hs
        case hh => with_unfolding_all rfl
        case hclos => with_unfolding_all rfl
        case hcell => decide
        case hkind => with_unfolding_all rfl
        case hnames => decide
        case hx => with_unfolding_all rfl
        case hs => intro _; with_unfolding_all rfl
        refine wpAny_here ?_
        k_steps
        unfold Here
        rename Fr g L1 _ _ => Fz
        rename News g L1 _ _ => Nz
        rename IsRange _ _ _ _ _ _ _ _ => Rz
        refine ⟨_, _, _, _, _, ts.length, [], fun O ws zs h => zs = [], rfl, Rz, (by omega), by omega, (fun b hb => nomatch hb), (fun O ws zs h h' a1 k => a1), (fun O hO => rfl), ?_, ?_⟩
        · intro O C v ws zs s₃ m₃ E' hO hHas hC hlt hP hn hm3 hj hk3 e1 e2 e3
          obtain ⟨tv, rfl⟩ := hP
          have hyv : ys[ws.length]? = some ys[ws.length] := List.getElem?_eq_getElem (by omega)
          have hvv : vs[ws.length]? = some vs[ws.length] := List.getElem?_eq_getElem (by omega)
          have F3 := fr_kept Fz Nz hk3 (fun b hb => nomatch hb)
          have N3 : News g L1 s₃.heap _ := News.grown Nz (fun b o e => hk3 b o (fun h => nomatch h) e)
          clear Fz Nz
          refine wpAny_tests_one ?_
          refine wpAny_here ?_
          k_steps
          unfold Here
          obtain ⟨t, ht1, ht2⟩ := hts.item hvv
          obtain ⟨t', ht1', ht2'⟩ := hys.item hyv
          obtain rfl : t = t' := Option.some.inj (ht1.symm.trans ht1')
          have d1 := depths_item ht1
          refine ih B1 F3 X1 T1 rfl (md_liftY (Y := [sysModules]) (fun b o e => G1 b o e (by simp)) F3.keep (fun b hb => .inl (by rw [List.mem_singleton.mp hb]; exact h1m)) ht2') (List.Mem.head _) (tm_liftY (Y := []) (fun b o e => G1 b o e (by simp)) F3.keep (fun b hb => nomatch hb) ht2) (wfs_item hw.2 ht1) (by omega) (isList_keep F3 hnl1) (hV.keep fun b o e => F3.keep _ _ (G1 _ _ e (by simp))) (by dsimp only [ktrTop]; omega) (by dsimp only [ktrTop]; omega) fun h' tks F9 K9 => ?_
          refine wpAny_here ?_
          k_steps
          unfold Here
          exact ⟨⟨_, _, rfl, K9⟩, hj⟩
        · intro O D h' tk ws zs hO hD hl' hlen' hP hj hk3
          subst hj
          have F3 := fr_kept Fz Nz hk3 (fun b hb => nomatch hb)
          have N3 : News g L1 h' _ := News.grown Nz (fun b o e => hk3 b o (fun h => nomatch h) e)
          have nDL : D ≠ L1 := fun q => Nat.lt_irrefl _ (Nat.lt_of_lt_of_le (q ▸ Fz.ns.lt) (hO D hD))
          obtain ⟨nD, hDo⟩ := hl'
          have N4 := news_cons hDo nDL (g_none Fz (hO D hD)) N3
          clear Fz Nz N3
          k_steps
          rename Fr h₀ L _ _ => kFz
          rename Fr g L1 _ _ => Fz
          exact hret _ _ kFz (keep _ _ Fz)
      | lst =>
        have hx2 : IsTup g x #[.str (Str.ofString "list") t1, .ref l] := hx1
        have hcl2 : ClsAt g rr "list" := hcl
        have hsq : SeqAt g rr ys := .inr (show g.PlainList rr ys.toArray from hmk1).isList
        have hsl : SeqAt g l vs := .inr hl1
        (try k_fold)
        k_steps
        rotate_left
        · omega
        show wpAny _ _ _ _ _ _
        refine' comp_rangeT ?hh ?hclos ?hcell ?hkind ?hnames ?hx ?h ?hs
        case hh => with_unfolding_all rfl
        case hclos => with_unfolding_all rfl
        case hcell => decide
        case hkind => with_unfolding_all rfl
        case hnames => decide
        case hx => with_unfolding_all rfl
        case hs => intro _; with_unfolding_all rfl
        refine wpAny_here ?_
        k_steps
        unfold Here
        rename Fr g L1 _ _ => Fz
        rename News g L1 _ _ => Nz
        rename IsRange _ _ _ _ _ _ _ _ => Rz
        refine ⟨_, _, _, _, _, ts.length, [], fun O ws zs h => zs = [], rfl, Rz, (by omega), by omega, (fun b hb => nomatch hb), (fun O ws zs h h' a1 k => a1), (fun O hO => rfl), ?_, ?_⟩
        · intro O C v ws zs s₃ m₃ E' hO hHas hC hlt hP hn hm3 hj hk3 e1 e2 e3
          obtain ⟨tv, rfl⟩ := hP
          have hyv : ys[ws.length]? = some ys[ws.length] := List.getElem?_eq_getElem (by omega)
          have hvv : vs[ws.length]? = some vs[ws.length] := List.getElem?_eq_getElem (by omega)
          have F3 := fr_kept Fz Nz hk3 (fun b hb => nomatch hb)
          have N3 : News g L1 s₃.heap _ := News.grown Nz (fun b o e => hk3 b o (fun h => nomatch h) e)
          clear Fz Nz
          refine wpAny_tests_one ?_
          refine wpAny_here ?_
          k_steps
          unfold Here
          obtain ⟨t, ht1, ht2⟩ := hts.item hvv
          obtain ⟨t', ht1', ht2'⟩ := hys.item hyv
          obtain rfl : t = t' := Option.some.inj (ht1.symm.trans ht1')
          have d1 := depths_item ht1
          refine ih B1 F3 X1 T1 rfl (md_liftY (Y := [sysModules]) (fun b o e => G1 b o e (by simp)) F3.keep (fun b hb => .inl (by rw [List.mem_singleton.mp hb]; exact h1m)) ht2') (List.Mem.head _) (tm_liftY (Y := []) (fun b o e => G1 b o e (by simp)) F3.keep (fun b hb => nomatch hb) ht2) (wfs_item hw.2 ht1) (by omega) (isList_keep F3 hnl1) (hV.keep fun b o e => F3.keep _ _ (G1 _ _ e (by simp))) (by dsimp only [ktrTop]; omega) (by dsimp only [ktrTop]; omega) fun h' tks F9 K9 => ?_
          refine wpAny_here ?_
          k_steps
          unfold Here
          exact ⟨⟨_, _, rfl, K9⟩, hj⟩
        · intro O D h' tk ws zs hO hD hl' hlen' hP hj hk3
          subst hj
          have F3 := fr_kept Fz Nz hk3 (fun b hb => nomatch hb)
          have N3 : News g L1 h' _ := News.grown Nz (fun b o e => hk3 b o (fun h => nomatch h) e)
          have nDL : D ≠ L1 := fun q => Nat.lt_irrefl _ (Nat.lt_of_lt_of_le (q ▸ Fz.ns.lt) (hO D hD))
          obtain ⟨nD, hDo⟩ := hl'
          have N4 := news_cons hDo nDL (g_none Fz (hO D hD)) N3
          clear Fz Nz N3
          k_steps
          rename Fr h₀ L _ _ => kFz
          rename Fr g L1 _ _ => Fz
          exact hret _ _ kFz (keep _ _ Fz)
      | dct =>
        have hx2 : IsTup g x #[.str (Str.ofString "dict") t1, .ref l] := hx1
        have hcl2 : ClsAt g rr "dict" := hcl
        have hD : g.DictOf (intKind PySem.Challenge.rw_ez0159_01.row.prog w) rr (enumV 0 ys) := hmk1
        have hsl : SeqAt g l vs := .inr hl1
        have hlo : (rr == sysModules) = false := beq_eq_false_iff_ne.mpr fun e => nr (by rw [e]; exact h1m)
        (try k_fold)
        k_steps
        show wpAny _ _ _ _ _ _
        rename Fr g L1 _ _ => Fz
        rename News g L1 _ _ => Nz
        refine sorted_intdict rfl hlo (hD.keep Fz.keep) (by rw [enumV_length]; omega) fun D1 h1' tk1' us ns up1 nD1 hl1' hi1 hp1 ho1 => ?_
        have F5 := Fr.keeps Fz up1
        obtain ⟨oD1, hoD1, hcD1, nE1, hdD1⟩ := hl1'
        have nD1L : D1 ≠ L1 := fun e => by obtain ⟨_, q⟩ := has_frame Fz; rw [e, q] at nD1; cases nD1
        have gD1 : g.get? D1 = none := by
          cases q : g.get? D1 with
          | none => rfl
          | some o => rw [Fz.keep _ _ q] at nD1; cases nD1
        have nD14 := neN (fresh_ne (c := L1 + 1 + 1 + 1 + 1) Nz (by k_mem) nD1)
        have N5 := news_cons hoD1 nD1L gD1 (News.grown Nz up1)
        rw [enumV_keys, hyl, ← hvl] at hp1
        obtain rfl := sorted_is hp1 ho1
        clear Fz Nz up1 nD1
        k_steps
        show wpAny _ _ _ _ _ _
        rename Fr g L1 _ _ => Fz
        rename News g L1 _ _ => Nz
        rename IsRange _ _ _ _ _ _ _ _ => Rz
        refine list_range0 rfl Rz rfl (by omega) fun D2 h2' tk2' us2 up2 nD2 hl2' hi2 => ?_
        have F6 := Fr.keeps Fz up2
        obtain ⟨oD2, hoD2, hcD2, nE2, hdD2⟩ := hl2'
        have nD2L : D2 ≠ L1 := fun e => by obtain ⟨_, q⟩ := has_frame Fz; rw [e, q] at nD2; cases nD2
        have gD2 : g.get? D2 = none := by
          cases q : g.get? D2 with
          | none => rfl
          | some o => rw [Fz.keep _ _ q] at nD2; cases nD2
        have nD24 := neN (fresh_ne (c := L1 + 1 + 1 + 1 + 1) Nz (by k_mem) nD2)
        have N6 := news_cons hoD2 nD2L gD2 (News.grown Nz up2)
        clear Fz Nz up2 nD2 Rz
        k_steps
        show wpAny _ _ _ _ _ _
        rename News g L1 _ _ => Nz
        refine ne_intsK (News.isListE Nz (D1, oD1) (by k_mem) hcD1 hdD1) hi1 (News.isListE Nz (D2, oD2) (by k_mem) hcD2 hdD2) hi2 (by dsimp only [ktrTop, Around.deeper]; omega) ?_
        rw [show (!decide (rangeKs 0 vs.length = rangeKs 0 vs.length)) = false by simp]
        clear hi1 hi2 hp1 ho1 hoD1 hoD2 hcD1 hcD2 hdD1 hdD2
        k_steps
        show wpAny _ _ _ _ _ _
        refine' comp_rangeT ?hh ?hclos ?hcell ?hkind ?hnames ?hx ?h ?hs
        case hh => with_unfolding_all rfl
        case hclos => with_unfolding_all rfl
        case hcell => decide
        case hkind => with_unfolding_all rfl
        case hnames => decide
        case hx => with_unfolding_all rfl
        case hs => intro _; with_unfolding_all rfl
        refine wpAny_here ?_
        k_steps
        unfold Here
        rename Fr g L1 _ _ => Fz
        rename News g L1 _ _ => Nz
        rename IsRange _ _ _ _ _ _ _ _ => Rz
        refine ⟨_, _, _, _, _, ts.length, [], fun O ws zs h => zs = ys.take ws.length, rfl, Rz, (by omega), by omega, (fun b hb => nomatch hb), (fun O ws zs h h' a1 k => a1), (fun O hO => rfl), CTurn.toT ?_, ?_⟩
        · intro O C v ws zs s₃ m₃ E' hO hHas hC hlt hP hn hm3 hj hk3 e1 e2 e3
          obtain ⟨tv, rfl⟩ := hP
          have hyv : ys[ws.length]? = some ys[ws.length] := List.getElem?_eq_getElem (by omega)
          have F3 := fr_kept Fz Nz hk3 (fun b hb => nomatch hb)
          have N3 : News g L1 s₃.heap _ := News.grown Nz (fun b o e => hk3 b o (fun h => nomatch h) e)
          have hDs : s₃.heap.DictOf (intKind PySem.Challenge.rw_ez0159_01.row.prog w) rr (enumV 0 ys) := hD.keep F3.keep
          clear Fz Nz
          refine wpAny_here ?_
          k_steps
          unfold Here
          refine ⟨⟨_, _, rfl, KeepX.refl⟩, ?_⟩
          show zs ++ [ys[ws.length]] = ys.take (ws ++ [Value.int (↑ws.length) tv]).length
          rw [List.length_append, List.length_singleton, List.take_add_one, hyv, hj]
          rfl
        · intro O D h' tk ws zs hO hD3 hl' hlen' hP hj hk3
          replace hj : zs = ys := hj.trans (List.take_of_length_le (by omega))
          rw [hj] at hl'
          clear hj
          have F3 := fr_kept Fz Nz hk3 (fun b hb => nomatch hb)
          have N3 : News g L1 h' _ := News.grown Nz (fun b o e => hk3 b o (fun h => nomatch h) e)
          have nDL : D ≠ L1 := fun q => Nat.lt_irrefl _ (Nat.lt_of_lt_of_le (q ▸ Fz.ns.lt) (hO D hD3))
          obtain ⟨nD, hDo⟩ := hl'
          have nD34 := neN (ge_ne (c := L1 + 1 + 1 + 1 + 1) Nz (by k_mem) (hO D hD3))
          have N4 := news_cons hDo nDL (g_none Fz (hO D hD3)) N3
          clear Fz Nz N3
          k_steps
          rotate_left
          · omega
          show wpAny _ _ _ _ _ _
          refine' comp_rangeT ?hh ?hclos ?hcell ?hkind ?hnames ?hx ?h ?hs
          case hh => with_unfolding_all rfl
          case hclos => with_unfolding_all rfl
          case hcell => decide
          case hkind => with_unfolding_all rfl
          case hnames => decide
          case hx => with_unfolding_all rfl
          case hs => intro _; with_unfolding_all rfl
          refine wpAny_here ?_
          k_steps
          unfold Here
          rename Fr g L1 _ _ => Fz
          rename News g L1 _ _ => Nz
          rename IsRange _ _ _ _ _ _ _ _ => Rz
          refine ⟨_, _, _, _, _, ts.length, [], fun O ws zs h => zs = [], rfl, Rz, (by omega), by omega, (fun b hb => nomatch hb), (fun O ws zs h h' a1 k => a1), (fun O hO => rfl), ?_, ?_⟩
          · intro O C v ws zs s₃ m₃ E' hO hHas hC hlt hP hn hm3 hj hk3 e1 e2 e3
            obtain ⟨tv, rfl⟩ := hP
            have hyv : ys[ws.length]? = some ys[ws.length] := List.getElem?_eq_getElem (by omega)
            have hvv : vs[ws.length]? = some vs[ws.length] := List.getElem?_eq_getElem (by omega)
            have F3 := fr_kept Fz Nz hk3 (fun b hb => nomatch hb)
            have N3 : News g L1 s₃.heap _ := News.grown Nz (fun b o e => hk3 b o (fun h => nomatch h) e)
            clear Fz Nz
            refine wpAny_tests_one ?_
            refine wpAny_here ?_
            k_steps
            unfold Here
            obtain ⟨t, ht1, ht2⟩ := hts.item hvv
            obtain ⟨t', ht1', ht2'⟩ := hys.item hyv
            obtain rfl : t = t' := Option.some.inj (ht1.symm.trans ht1')
            have d1 := depths_item ht1
            refine ih B1 F3 X1 T1 rfl (md_liftY (Y := [sysModules]) (fun b o e => G1 b o e (by simp)) F3.keep (fun b hb => .inl (by rw [List.mem_singleton.mp hb]; exact h1m)) ht2') (List.Mem.head _) (tm_liftY (Y := []) (fun b o e => G1 b o e (by simp)) F3.keep (fun b hb => nomatch hb) ht2) (wfs_item hw.2 ht1) (by omega) (isList_keep F3 hnl1) (hV.keep fun b o e => F3.keep _ _ (G1 _ _ e (by simp))) (by dsimp only [ktrTop]; omega) (by dsimp only [ktrTop]; omega) fun h' tks F9 K9 => ?_
            refine wpAny_here ?_
            k_steps
            unfold Here
            exact ⟨⟨_, _, rfl, K9⟩, hj⟩
          · intro O D h' tk ws zs hO hD hl' hlen' hP hj hk3
            subst hj
            have F3 := fr_kept Fz Nz hk3 (fun b hb => nomatch hb)
            have N3 : News g L1 h' _ := News.grown Nz (fun b o e => hk3 b o (fun h => nomatch h) e)
            have nDL : D ≠ L1 := fun q => Nat.lt_irrefl _ (Nat.lt_of_lt_of_le (q ▸ Fz.ns.lt) (hO D hD))
            obtain ⟨nD, hDo⟩ := hl'
            have N4 := news_cons hDo nDL (g_none Fz (hO D hD)) N3
            clear Fz Nz N3
            k_steps
            rename Fr h₀ L _ _ => kFz
            rename Fr g L1 _ _ => Fz
            exact hret _ _ kFz (keep _ _ Fz)

end Mine
end
section -- M9
open PySem PySem.W PySem.Calls PyProof.Rows
set_option maxRecDepth 100000
namespace Mine
/-- what a `with` does when its body raises, for an exit function `fx` bound to `x` -/
def withErr (env : Env) (pos : Pos) (fx x : Addr) (e : Value) : Sem Flow := do
  noteFrame e env
  setFlight e none
  standAt pos
  holding [e] do
  let r ← withItem.marked e (.call (.ref fx) ⟨[.ref x] ++ [← typeOf e, e, ← tracebackOf e], []⟩)
  let r ← pure r
  let swallow ← match r with
    | .none => pure false
    | .bool b => pure b
    | _ => do pure ((← withItem.marked e (.call (.type "bool") ⟨[r], []⟩)) == .bool true)
  if swallow then rule "with.exit-swallows"; setFlight e none; pure .next else passOn "with" e env
section
variable {prog : Program} {w : World} {A : Around} {E Er : Value → Shared → Prop} {s : Shared} {env : Env} {K : Frag} {x C fe fx : Addr} {ox : Obj} {od : Option Obj} {pos : Pos}
theorem with_rule {bdy : Sem Flow} {Q : Flow → Shared → Prop} (X : K.In s.heap) (I : InstAt s.heap x ox C od) (he : findIn K (.ref C) "__enter__" = some (some (.ref fe))) (hfe : isFn K (.ref fe) = true) (hx : findIn K (.ref C) "__exit__" = some (some (.ref fx))) (hfx : isFn K (.ref fx) = true)
    (h : wpAny (model prog w) A (call (.ref fe) [.ref x]) (fun v s₂ => wpAny (model prog w) A bdy (fun f s₄ => wpAny (model prog w) A (call (.ref fx) [.ref x, .none, .none, .none]) (fun _ s₅ => Q f s₅) E s₄) Er s₂) E s)
    (herr : ∀ e s₄, Er e s₄ → wpAny (model prog w) A (withErr env pos fx x e) Q E s₄) :
    wpAny (model prog w) A (withItem false pos env (pure (.ref x)) none bdy) Q E s := by
  obtain ⟨cd, hcd, ae⟩ := kw_along he
  obtain ⟨cd', hcd', ax⟩ := kw_along hx
  cases hcd.symm.trans hcd'
  obtain ⟨hh, g, d, tt, os⟩ := s
  have L1 : Looks (model prog w) hh (specialOnItsLine (.ref x) "__enter__") (some (.ref fe), cd.mro) := kw_special X I hcd ae
  have L2 : Looks (model prog w) hh (specialOnItsLine (.ref x) "__exit__") (some (.ref fx), cd.mro) := kw_special X I hcd ax
  have L3 : Looks (model prog w) hh (bindSpecial (.ref fe) (.ref x)) (.ref fe, [.ref x]) := bind_fn X _ (beq_iff_eq.mp hfe)
  have L4 : Looks (model prog w) hh (bindSpecial (.ref fx) (.ref x)) (.ref fx, [.ref x]) := bind_fn X _ (beq_iff_eq.mp hfx)
  have L5 : Looks (model prog w) hh (aMethodOfAnotherBuiltinTypeStops (.ref fe) cd.mro) () := Looks.of_pure rfl
  have L6 : Looks (model prog w) hh (aMethodOfAnotherBuiltinTypeStops (.ref fx) cd.mro) () := Looks.of_pure rfl
  unfold withItem
  refine wpAny_bind (wpAny_pure ?_)
  refine wpAny_bind (wpAny_standAt ?_)
  simp only [Bool.false_eq_true, if_false]
  kw_lk
  refine wpAny_mono h (fun v s₂ h₂ => ?_) fun _ _ z => z
  kw_lk
  refine wpAny_attempt (kw_held ?_)
  show wpAny _ _ bdy _ _ _
  refine wpAny_mono h₂ (fun f s₄ h₄ => ?_) fun e s₄ h₄ => ?_
  · kw_lk
    refine wpAny_mono h₄ (fun _ s₅ h₅ => ?_) fun _ _ z => z
    kw_lk
    exact h₅
  · exact herr e s₄ h₄
end
end Mine
end
section -- M10
open PySem PySem.W PySem.Calls PyProof.Rows
set_option maxRecDepth 100000
namespace Mine
section
variable {prog : Program} {w : World} {A : Around} {E : Value → Shared → Prop} {s : Shared} {env : Env} {x fx : Addr} {pos : Pos}
theorem withErr_new {h0 base : Heap} {outer : List Env} {L e : Addr} {Q : Flow → Shared → Prop}
    (hfr : A.frames = some (env :: outer)) (hf : env.frame = some L) (hkb : base.StaysIn h0) (hl : h0.FunFrames base (env :: outer)) (hx : h0.NewExc s.heap e "TypeError")
    (h : ∀ h' tb, base.StaysIn h' → h'.FunFrames base (env :: outer) → s.heap.UpToSlots h' →
      codeAny (model prog w) (A.mark (some (.ref e))) (.call (.ref fx) ⟨[.ref x, .type "TypeError", .ref e, tb], []⟩) (fun r s₅ => match r with
        | .ok (.ret v) => v = .bool true ∧ (∀ b o, h'.get? b = some o → s₅.heap.get? b = some o) ∧ ∀ h6, base.StaysIn h6 → h6.FunFrames base (env :: outer) → s₅.heap.UpToSlots h6 → Q .next { s₅ with heap := h6 }
        | _ => False) { s with heap := h' }) :
    wpAny (model prog w) A (withErr env pos fx x (.ref e)) Q E s := by
  obtain ⟨ob, t, he, hc, hd⟩ := hx.there
  have fresh : ∀ b, h0.get? b = none → base.get? b = none := fun b hb => by
    cases hq : base.get? b with
    | none => rfl
    | some o' => have := hkb b o' hq; rw [hb] at this; cases this
  have hB : base.StaysIn s.heap := fun b o q => hx.keeps b o (hkb b o q)
  have hE := fresh e hx.new
  unfold withErr
  show wpAny _ A (noteFrame (.ref e) env >>= fun _ => setFlight (.ref e) none >>= fun _ => _) Q E s
  rw [← bind_assoc]
  refine wpAny_bind ?_
  refine wpAny_leaving_firstW (a0 := t) hfr (hl.of_keeps fun b o hb _ => ⟨o, hx.keeps b o hb, rfl⟩) hf he hB hE hd rfl rfl fun h' hL => ?_
  obtain ⟨k1, k2, k3, k4⟩ := hL
  rw [hc] at k3
  obtain ⟨oe, vs, T, oT, ts, he', ⟨hc', h0'⟩, hd', h1', hnT, hTe, hT, hdT, h3⟩ := id k3
  refine wpAny_bind (wpAny_standAt ?_)
  refine wpAny_holding ?_
  have hTI : Shared.TypeIs { s with heap := h' } (.ref e) "TypeError" := ⟨oe, he', hc'⟩
  refine wpAny_bind (wpAny_typeOf hTI ?_)
  obtain ⟨y, hy⟩ : ∃ y, ts[1]? = some y := by
    have := (Array.getElem?_eq_some_iff.mp h3).1
    exact ⟨ts[1], Array.getElem?_eq_getElem (by omega)⟩
  have tbk : ∀ {P : Value → Shared → Prop}, (∀ tb, P tb { s with heap := h' }) → wpAny (model prog w) A (tracebackOf (.ref e)) P E { s with heap := h' } := by
    intro P hP
    unfold tracebackOf
    refine wpAny_bind (wpAny_field he' hd' h1' ?_)
    refine wpAny_bind (wpAny_field hT hdT hy ?_)
    split
    · exact wpAny_pure (hP _)
    · exact wpAny_pure (hP _)
  refine wpAny_bind (tbk fun tb => ?_)
  have hcall := h h' tb k1 k2 k4
  refine wpAny_bind ?_
  unfold withItem.marked
  refine wpAny_bind (wpAny_run (codeAny_mono hcall fun r s₅ z => ?_) (by intro q; cases q))
  cases r with
  | error e' => exact z.elim
  | ok f =>
    cases f with
    | ret v =>
      obtain ⟨rfl, up, hq⟩ := z
      refine wpAny_pure ?_
      refine wpAny_bind (wpAny_pure ?_)
      refine wpAny_bind (wpAny_pure ?_)
      simp only [if_true]
      refine wpAny_bind (wpAny_rule ?_)
      refine wpAny_bind ?_
      have k3' : s₅.heap.TracedAtW base e (.type "TypeError") t .none := ⟨oe, vs, T, oT, ts, up _ _ he', ⟨hc', h0'⟩, hd', h1', hnT, hTe, up _ _ hT, hdT, h3⟩
      refine wpAny_setFlight_noneW (fun b o q => up _ _ (k1 b o q)) (k2.of_keeps fun b o hb _ => ⟨o, up b o hb, rfl⟩) k3' fun h6 m1 m2 _ m4 => ?_
      exact wpAny_pure (hq h6 m1 m2 fun b o hb hn => ⟨o.slots, m4 b o hb hn⟩)
    | _ => exact z.elim
end
end Mine
end
section -- M11
open PySem PySem.W PySem.Calls PyProof.Rows
set_option maxRecDepth 100000
namespace Mine
theorem nohash_list : typeLookup (.type "list") "__hash__" = pure (some .none) := by rw [typeLookup_type, builtinLookup_eq_fast]; kernel_rfl
theorem nohash_dict : typeLookup (.type "dict") "__hash__" = pure (some .none) := by rw [typeLookup_type, builtinLookup_eq_fast]; kernel_rfl
section
variable {M : Model} {A : Around} {E : Value → Shared → Prop} {s : Shared} {Q : Int → Shared → Prop}
/-- a list or a dict has no hash -/
theorem pyHash_bad {a : Addr} {T : String} (hT : s.TypeIs (.ref a) T) (hl : typeLookup (.type T) "__hash__" = pure (some .none)) (hn : (Value.type T == Value.type "builtin_function_or_method") = false) (hm : (shownName T).length ≤ 100)
    (hh : A.handled = none) (hu : A.units < cLine)
    (h : ∀ h' tk e, Heap.NewExc s.heap h' e "TypeError" → E (.ref e) { s with heap := h', toks := tk })
    (hz : ((toString "unhashable type: '" ++ toString (shownName T) ++ toString "'" : String) : Str).length ≤ sizeLine) : wpAny M A (pyHash (.ref a)) Q E s := by
  unfold pyHash pyHashByItsType
  refine wpAny_bind (wpAny_cRoomFor_or (.inr hu) ?_)
  refine wpAny_bind (wpAny_specialOf hT hl ?_)
  show wpAny _ _ (if (some Value.none == some Value.none) = true then _ else _) Q E s
  rw [if_pos (by decide)]
  refine wpAny_bind (wpAny_rule ?_)
  refine wpAny_bind (wpAny_typeNameOf' hT hn ?_)
  exact wpAny_bind (wpAny_raiseTypeError hh h hz)
theorem newexc_up {h₀ h h' : Heap} {e : Addr} {c : String} (k : ∀ b o, h₀.get? b = some o → h.get? b = some o) (x : h.NewExc h' e c) : h₀.NewExc h' e c := by
  refine ⟨fun b o q => x.keeps b o (k b o q), ?_, x.there⟩
  cases q : h₀.get? e with
  | none => rfl
  | some o => have := k _ _ q; rw [x.new] at this; cases this
theorem pyHash_list {a : Addr} (hT : s.TypeIs (.ref a) "list") (hh : A.handled = none) (hu : A.units < cLine)
    (h : ∀ h' tk e, Heap.NewExc s.heap h' e "TypeError" → E (.ref e) { s with heap := h', toks := tk }) : wpAny M A (pyHash (.ref a)) Q E s :=
  pyHash_bad hT nohash_list (by decide) (by decide +kernel) hh hu h (by decide +kernel)
theorem pyHash_dict {a : Addr} (hT : s.TypeIs (.ref a) "dict") (hh : A.handled = none) (hu : A.units < cLine)
    (h : ∀ h' tk e, Heap.NewExc s.heap h' e "TypeError" → E (.ref e) { s with heap := h', toks := tk }) : wpAny M A (pyHash (.ref a)) Q E s :=
  pyHash_bad hT nohash_dict (by decide) (by decide +kernel) hh hu h (by decide +kernel)
end
end Mine
end
section -- M12
open PySem PySem.W PySem.Calls PyProof.Rows
set_option maxRecDepth 100000
namespace Mine
section
variable {M : Model} {A : Around} {E : Value → Shared → Prop} {s : Shared} {Q : Int → Shared → Prop} {K : Frag} {x C f : Addr} {ox : Obj} {od : Option Obj}
/-- the hash of an object whose class has a `__hash__` of its own -/
theorem pyHash_own (X : K.In s.heap) (I : InstAt s.heap x ox C od) (hs : findIn K (.ref C) "__hash__" = some (some (.ref f))) (hf : isFn K (.ref f) = true) (hu : A.units < cLine)
    (h : wpAny M A (call (.ref f) [.ref x]) (fun v s' => ∃ i t, v = .int i t ∧ -(2 ^ 63 : Int) ≤ i ∧ i < 2 ^ 63 ∧ Q (if i == -1 then -2 else i) s') E s) : wpAny M A (pyHash (.ref x)) Q E s := by
  unfold pyHash pyHashByItsType
  refine wpAny_bind (wpAny_cRoomFor_or (.inr hu) ?_)
  have hlk : ∀ {P : Option Value → Shared → Prop}, P (some (.ref f)) s → wpAny M A (specialOf (.ref x) "__hash__") P E s := fun hP => by
    unfold specialOf
    exact wpAny_bind (I.type.here ((looks_findIn X hs).here hP))
  refine wpAny_bind (hlk ?_)
  show wpAny _ _ (if (some (Value.ref f) == some Value.none) = true then _ else _) Q E s
  rw [if_neg (show ¬ ((some (Value.ref f) == some Value.none) = true) from Bool.false_ne_true)]
  refine wpAny_bind (hlk ?_)
  have fin : wpAny M A (call (.ref f) [.ref x] >>= fun v => pure (some v)) (fun r s' => ∃ i t, r = some (.int i t) ∧ -(2 ^ 63 : Int) ≤ i ∧ i < 2 ^ 63 ∧ Q (if i == -1 then -2 else i) s') E s :=
    wpAny_bind (wpAny_mono h (fun v s' ⟨i, t, e, r⟩ => wpAny_pure ⟨i, t, congrArg some e, r⟩) fun _ _ z => z)
  have one : ∀ refuse : Sem Value, wpAny M A (callSpecialIfBoundUnlessNone? (.ref x) "__hash__" refuse) (fun r s' => ∃ i t, r = some (.int i t) ∧ -(2 ^ 63 : Int) ≤ i ∧ i < 2 ^ 63 ∧ Q (if i == -1 then -2 else i) s') E s := by
    intro refuse
    simp only [callSpecialIfBoundUnlessNone?, bindSpecialIfBound?]
    refine wpAny_holding (wpAny_bind (wpAny_bind (wpAny_bind (I.type.here ((looks_findIn X hs).here ?_)))))
    refine wpAny_bind (wpAny_askSetting (wpAny_ite ?_))
    have fin2 : wpAny M A (if (Value.ref f == Value.none) = true then (refuse >>= fun v => pure (some v)) else (call (.ref f) [.ref x] >>= fun v => pure (some v))) (fun r s' => ∃ i t, r = some (.int i t) ∧ -(2 ^ 63 : Int) ≤ i ∧ i < 2 ^ 63 ∧ Q (if i == -1 then -2 else i) s') E s := by
      rw [if_neg (show ¬ ((Value.ref f == Value.none) = true) from Bool.false_ne_true)]
      exact fin
    split
    · exact wpAny_bind ((bind_fn X _ (beq_iff_eq.mp hf)).here (wpAny_pure (by exact fin2)))
    · exact wpAny_tryCatch (wpAny_bind ((bind_fn X _ (beq_iff_eq.mp hf)).here (wpAny_pure (by exact fin2))))
  show wpAny M A (callSpecialIfBoundUnlessNone? (.ref x) "__hash__" _ >>= _) Q E s
  refine wpAny_bind (wpAny_mono (one _) (fun r s' hr => ?_) fun _ _ z => z)
  obtain ⟨i, t, rfl, h1, h2, hq⟩ := hr
  show wpAny _ _ (if (decide (-(2 : Int) ^ 63 ≤ i) && decide (i < 2 ^ 63)) = true then _ else _) Q E _
  rw [if_pos (by rw [decide_eq_true h1, decide_eq_true h2]; rfl)]
  exact wpAny_pure hq
/-- the hash of a tuple, item by item: `J` says what is kept while the hashes run -/
theorem pyHash_row {prog : Program} {w : World} {a : Addr} {vs : List Value} {J : Shared → Prop} (hu : A.units < cLine) (ht : IsTup s.heap a vs.toArray) (h0 : J s)
    (hitem : ∀ v s', v ∈ vs → J s' → wpAny (model prog w) A.in1 (pyHash v) (fun _ s'' => J s'') E s') (h : ∀ n s' tk, J s' → Q n { s' with toks := tk }) :
    wpAny (model prog w) A (pyHash (.ref a)) Q E s := by
  have hT := ht.typeIs
  obtain ⟨o, ho, hc, n, hd⟩ := ht
  unfold pyHash pyHashByItsType
  refine wpAny_bind (wpAny_cRoomFor_or (.inr hu) ?_)
  refine wpAny_bind (wpAny_specialOf hT F.slot_tuple_hash.lookup ?_)
  show wpAny _ _ (if (some (Value.builtin "tuple.__hash__") == some Value.none) = true then _ else _) Q E s
  rw [if_neg (by rw [beq_builtin_none]; exact Bool.false_ne_true)]
  refine wpAny_bind (wpAny_specialOf hT F.slot_tuple_hash.lookup ?_)
  show wpAny _ _ (callSpecialIfBoundUnlessNone? (.ref a) "__hash__" _ >>= _) Q E s
  refine wpAny_bind (wpAny_callSpecialIfBoundUnlessNone?_slot hT F.slot_tuple_hash (wpAny_call_entry F.slot_tuple_hash hT F.entry_tuple_hash ?_ (F.args_tuple_hash_1 _)))
  show wpAny _ _ (Builtin.Tuple.tupleItemsOf (.ref a) >>= _) _ _ s
  refine wpAny_bind (wpAny_tupleItemsOf ho hd ?_)
  refine wpAny_bind ?_
  rw [← Array.forIn_toList]
  refine wpAny_forIn_list _ (fun rest (b : Array Int) s' => (∀ v ∈ rest, v ∈ vs) ∧ J s') _ ?_ ?_ _ _ ⟨fun v hv => hv, h0⟩
  · rintro x rest b s' ⟨hm, hj⟩
    refine wpAny_bind (wpAny_mono (hitem x s' (hm x (List.Mem.head _)) hj) (fun k s'' hj' => ?_) fun _ _ z => z)
    first
      | exact wpAny_pure ⟨fun v hv => hm v (List.mem_cons_of_mem _ hv), hj'⟩
      | exact wpAny_bind (wpAny_pure (wpAny_pure ⟨fun v hv => hm v (List.mem_cons_of_mem _ hv), hj'⟩))
  · rintro b s' ⟨_, hj⟩
    show wpAny _ _ (retInt (Builtin.Tuple.tupleHashOf b.toList)) _ _ _
    refine wpAny_ret_mkInt ?_
    show wpAny _ _ (if (decide (-(2 : Int) ^ 63 ≤ Builtin.Tuple.tupleHashOf b.toList) && decide (Builtin.Tuple.tupleHashOf b.toList < 2 ^ 63)) = true then _ else _) Q E _
    by_cases hr : (decide (-(2 : Int) ^ 63 ≤ Builtin.Tuple.tupleHashOf b.toList) && decide (Builtin.Tuple.tupleHashOf b.toList < 2 ^ 63)) = true
    · rw [if_pos hr]; exact wpAny_pure (h _ _ _ hj)
    · rw [if_neg hr]; exact wpAny_bind (wpAny_rule (wpAny_pure (h _ _ _ hj)))
end
end Mine
end
section -- M13
open PySem PySem.W PySem.Calls PyProof.Rows
set_option maxRecDepth 100000
namespace Mine
section
variable {M : Model} {A : Around} {E : Value → Shared → Prop} {s : Shared} {d a : Addr} {o : Obj} {es : Array DictEntry} {ep : Nat} {hsh : Int} {Q : Option Nat → Shared → Prop}
abbrev placesOf (es : Array DictEntry) (hsh : Int) : List Nat := placesWithHash es.size (fun i => es[i]?.map (·.hash)) hsh
theorem find_none_int {n : Int} {t : Tok} (ho : s.heap.get? d = some o) (hd : o.data = .dict es ep) (hp : placesOf es hsh = []) (h : Q none s) : wpAny M A (dictFind d (.int n t) hsh) Q E s := by
  unfold dictFind
  try with_reducible refine wpAny_holding ?_
  refine wpAny_bind (wpAny_dictEntries ho hd ?_)
  dsimp only
  rw [show placesWithHash es.size (fun i => es[i]?.map (·.hash)) hsh = [] from hp]
  rw [if_pos (by simp [carriedByValue])]
  unfold dictWalkPlain
  simp only [List.forIn_nil]
  exact wpAny_bind (wpAny_pure (wpAny_pure h))
theorem find_none_ref (ho : s.heap.get? d = some o) (hd : o.data = .dict es ep) (hp : placesOf es hsh = []) (hne : ∀ e ∈ es, e.key ≠ .ref a) (h : Q none s) : wpAny M A (dictFind d (.ref a) hsh) Q E s := by
  have hany : ¬ (es.any fun e => e.key == Value.ref a && e.hash != hsh) = true := by
    rw [← Array.any_toList, List.any_eq_true]
    rintro ⟨e, hin, hc⟩
    simp only [Bool.and_eq_true, beq_iff_eq] at hc
    exact hne e (Array.mem_toList_iff.mp hin) hc.1
  unfold dictFind
  try with_reducible refine wpAny_holding ?_
  refine wpAny_bind (wpAny_dictEntries ho hd ?_)
  dsimp only
  rw [show placesWithHash es.size (fun i => es[i]?.map (·.hash)) hsh = [] from hp]
  rw [if_neg (by simp [carriedByValue])]
  rw [if_neg hany]
  rw [if_neg (show ¬ ((List.filterMap (fun i => es[i]?.map (·.key)) ([] : List Nat)) == [Value.ref a]) = true by simp)]
  refine wpAny_bind (m := tableMayTell _ _) ?_
  unfold tableMayTell
  rw [if_pos (by rfl)]
  refine wpAny_pure ?_
  rw [if_neg (by simp)]
  rw [List.forIn_nil]
  exact wpAny_bind (wpAny_pure (wpAny_pure h))
/-- the one key of that hash is the asked object itself -/
theorem find_hit_ref {i : Nat} {e : DictEntry} (ho : s.heap.get? d = some o) (hd : o.data = .dict es ep) (hp : placesOf es hsh = [i]) (he : es[i]? = some e) (hk : e.key = .ref a) (hh : e.hash = hsh) (hne : ∀ e' ∈ es, e'.key = .ref a → e'.hash = hsh) (h : Q (some i) s) : wpAny M A (dictFind d (.ref a) hsh) Q E s := by
  have hany : ¬ (es.any fun e => e.key == Value.ref a && e.hash != hsh) = true := by
    rw [← Array.any_toList, List.any_eq_true]
    rintro ⟨e, hin, hc⟩
    simp only [Bool.and_eq_true, beq_iff_eq, bne_iff_ne] at hc
    exact hc.2 (hne e (Array.mem_toList_iff.mp hin) hc.1)
  unfold dictFind
  try with_reducible refine wpAny_holding ?_
  refine wpAny_bind (wpAny_dictEntries ho hd ?_)
  dsimp only
  rw [show placesWithHash es.size (fun i => es[i]?.map (·.hash)) hsh = [i] from hp]
  rw [if_neg (by simp [carriedByValue])]
  rw [if_neg hany]
  rw [if_pos (show ((List.filterMap (fun i => es[i]?.map (·.key)) ([i] : List Nat)) == [Value.ref a]) = true by simp [he, hk])]
  refine wpAny_bind (wpAny_pure ?_)
  rw [if_neg (by simp)]
  rw [List.forIn_cons]
  refine wpAny_bind (wpAny_bind ?_)
  simp only [he]
  rw [if_pos (by simp [hh])]
  refine wpAny_bind (wpAny_dictEpoch ho hd ?_)
  refine wpAny_bind ?_
  unfold eqBool
  refine wpAny_holding ?_
  rw [if_pos (by rw [hk]; simp)]
  refine wpAny_bind (wpAny_rule (wpAny_pure ?_))
  refine wpAny_bind (wpAny_dictEpoch ho hd ?_)
  rw [if_neg (by simp)]
  simp only [if_true]
  rw [if_neg (by simp)]
  refine wpAny_bind (wpAny_rule ?_)
  rw [if_pos (by simp [he])]
  refine wpAny_pure ?_
  exact wpAny_pure (wpAny_pure h)
/-- the one key of that hash is another object, and says so -/
theorem find_other {i : Nat} {e : DictEntry} {key : Value} {b : Addr} (ho : s.heap.get? d = some o) (hd : o.data = .dict es ep) (hp : placesOf es hsh = [i]) (he : es[i]? = some e) (hk : e.key = .ref b) (hh : e.hash = hsh)
    (hkey : (∃ n t, key = .int n t) ∨ (∃ a, key = .ref a ∧ a ≠ b ∧ ∀ e' ∈ es, e'.key ≠ .ref a)) (h32 : 0 ≤ hsh ∧ hsh < 32)
    (htell : ∀ P : Bool → Shared → Prop, (∀ t, P t s) → wpAny M A (tableMayTell key [.ref b]) P E s)
    (hcmp : wpAny M A (richCompare .Eq (.ref b) key) (fun r s' => r = .bool false ∧ s'.heap.get? d = some o ∧ Q none s') E s) : wpAny M A (dictFind d key hsh) Q E s := by
  have hne : (Value.ref b == key) = false := by
    rcases hkey with ⟨n, t, rfl⟩ | ⟨a, rfl, hab, _⟩
    · rfl
    · simp; exact fun q => hab q.symm
  have hst : (List.filterMap (fun i => es[i]?.map (·.key)) ([i] : List Nat)) = [Value.ref b] := by simp [he, hk]
  unfold dictFind
  try with_reducible refine wpAny_holding ?_
  refine wpAny_bind (wpAny_dictEntries ho hd ?_)
  dsimp only
  rw [show placesWithHash es.size (fun i => es[i]?.map (·.hash)) hsh = [i] from hp]
  rw [if_neg (show ¬ ((key :: List.filterMap (fun i => es[i]?.map (·.key)) ([i] : List Nat)).all carriedByValue) = true by rw [hst]; simp [carriedByValue])]
  have hne' : ¬ ((List.filterMap (fun i => es[i]?.map (·.key)) ([i] : List Nat)) == [key]) = true := by rw [hst]; simp; intro q; rw [q] at hne; simp at hne
  have fin : ∀ (tells : Bool), (tells && !(decide (0 ≤ hsh) && decide (hsh < 32))) = false := fun tells => by rw [decide_eq_true h32.1, decide_eq_true h32.2]; simp
  rcases hkey with ⟨n, t, rfl⟩ | ⟨a, rfl, hab, hno⟩
  · dsimp only
    rw [if_neg hne']
    refine wpAny_bind (m := tableMayTell _ _) ?_
    rw [hst]
    refine htell _ fun tells => ?_
    rw [if_neg (by simp)]
    rw [List.forIn_cons]
    refine wpAny_bind (wpAny_bind ?_)
    simp only [he]
    rw [if_pos (by simp [hh])]
    refine wpAny_bind (wpAny_dictEpoch ho hd ?_)
    refine wpAny_bind ?_
    unfold eqBool
    refine wpAny_holding ?_
    rw [hk, if_neg (by rw [hne]; exact Bool.false_ne_true)]
    refine wpAny_bind (wpAny_mono hcmp (fun r s' z => ?_) fun _ _ z => z)
    obtain ⟨rfl, ho', hq⟩ := z
    refine (?_ : wpAny _ _ (truthy (.bool false)) _ _ _)
    refine wpAny_truthy_bool ?_
    refine wpAny_bind (wpAny_dictEpoch ho' hd ?_)
    rw [if_neg (by simp)]
    rw [if_neg (by simp)]
    refine wpAny_bind (wpAny_rule ?_)
    rw [fin tells, if_neg (by simp)]
    refine wpAny_pure ?_
    dsimp only
    rw [List.forIn_nil]
    exact wpAny_pure (wpAny_pure hq)
  · have hany : ¬ (es.any fun e => e.key == Value.ref a && e.hash != hsh) = true := by
      rw [← Array.any_toList, List.any_eq_true]
      rintro ⟨e, hin, hc⟩
      simp only [Bool.and_eq_true, beq_iff_eq] at hc
      exact hno e (Array.mem_toList_iff.mp hin) hc.1
    dsimp only
    rw [if_neg hany]
    rw [if_neg hne']
    refine wpAny_bind (m := tableMayTell _ _) ?_
    rw [hst]
    refine htell _ fun tells => ?_
    rw [if_neg (by simp)]
    rw [List.forIn_cons]
    refine wpAny_bind (wpAny_bind ?_)
    simp only [he]
    rw [if_pos (by simp [hh])]
    refine wpAny_bind (wpAny_dictEpoch ho hd ?_)
    refine wpAny_bind ?_
    unfold eqBool
    refine wpAny_holding ?_
    rw [hk, if_neg (by rw [hne]; exact Bool.false_ne_true)]
    refine wpAny_bind (wpAny_mono hcmp (fun r s' z => ?_) fun _ _ z => z)
    obtain ⟨rfl, ho', hq⟩ := z
    refine (?_ : wpAny _ _ (truthy (.bool false)) _ _ _)
    refine wpAny_truthy_bool ?_
    refine wpAny_bind (wpAny_dictEpoch ho' hd ?_)
    rw [if_neg (by simp)]
    rw [if_neg (by simp)]
    refine wpAny_bind (wpAny_rule ?_)
    rw [fin tells, if_neg (by simp)]
    refine wpAny_pure ?_
    dsimp only
    rw [List.forIn_nil]
    exact wpAny_pure (wpAny_pure hq)
end
end Mine
end
section -- N7
open PySem PySem.W PySem.Calls PyProof.Rows
set_option maxRecDepth 100000
set_option maxHeartbeats 8000000
set_option linter.unusedVariables false
namespace Mine
local macro_rules | `(tactic| walk_at "idle0") => `(tactic| fail)
local macro_rules | `(tactic| walk_at "idle1") => `(tactic| fail)
local macro_rules | `(tactic| walk_at "idle2") => `(tactic| fail)
local macro_rules | `(tactic| k_all) => `(tactic| assumption)
local macro_rules | `(tactic| ktr_enter) => `(tactic| first
  | (refine' code_defG ?k1 ?k2 ?k3 ?k4 ?k5 ?kA ?kF ?kK ?k6 ?k7 ?k8 ?k9 ?kB ?_ ?c2 ?c3 ?c4 ?c5; (case kA => exact rfl); (case kF => exact rfl); (case kK => first | assumption | exact rfl); (case k1 => k_asm); (case k2 => k_asm); (case k3 => k_asm); (case k4 => first | k_asm | exact News.nil); (case k5 => k_asm); (case k6 => k_is); (case k7 => k_is); (case k8 => ktr_room); (case k9 => exact BindsTo.of_eq rfl); (case c5 => decide); (case kB => exact locs rfl); (case c2 => exact rfl); (case c3 => exact rfl); (case c4 => exact rfl))
  | (refine' code_defCG ?k1 ?k2 ?k3 ?k4 ?k5 ?kA ?kF ?kK ?k6 ?k7 ?k8 ?k9 ?kB ?kD ?_ ?c2 ?c3 ?c4; (case kA => exact rfl); (case kF => exact rfl); (case kK => first | assumption | exact rfl); (case k1 => k_asm); (case k2 => k_asm); (case k3 => k_asm); (case k4 => first | k_asm | exact News.nil); (case k5 => k_asm); (case k6 => k_is); (case k7 => k_is); (case k8 => ktr_room); (case k9 => exact BindsTo.of_eq rfl); (case kB => exact rfl); (case kD => decide +kernel); (case c2 => exact rfl); (case c3 => exact rfl); (case c4 => exact rfl)))
local macro_rules | `(tactic| k_room) => `(tactic| (first | ((try simp only [depth_under_make, depth_under_kw, depth_in1, depth_deeper, depth_caller]); decide) | (dsimp only [ktrTop, Around.deeper, Around.in1, Around.mark]; omega)))
local macro_rules | `(tactic| k_units) => `(tactic| (first | exact Nat.le_of_ble_eq_true rfl | (dsimp only [ktrTop, Around.deeper, Around.in1, Around.mark]; omega)))
local macro_rules | `(tactic| k_inst) => `(tactic| first | (refine' inst_up1 ?F ?I; (case F => k_asm); (case I => assumption)) | (refine' inst_up2 ?F2 ?F ?I; (case F2 => k_asm); (case F => k_asm); (case I => assumption)))
theorem kind_hash : builtinKind "hash" = none := by decide +kernel
theorem plain_hash : plainId "hash" = true := by decide +kernel
theorem entry_hash : entryFor table "hash" = some Builtin.«hash» := entryFor_of_fast (by kernel_rfl)
theorem args_hash (a : Value) : argsOk "hash" ⟨[a], []⟩ := by unfold argsOk; kernel_rfl
theorem call_hash_int {w : World} {prog : Program} {A : Around} {E : Value → Shared → Prop} {s : Shared} {i : Int} {t : Tok} {Q : Value → Shared → Prop} (hi : 0 ≤ i ∧ i < 5) (h : ∀ t' tk, Q (.int i t') { s with toks := tk }) :
    wpAny (model prog w) A (call (.builtin "hash") [.int i t]) Q E s := by
  have e : hashInt i = i := by
    have c : i = 0 ∨ i = 1 ∨ i = 2 ∨ i = 3 ∨ i = 4 := by omega
    rcases c with rfl | rfl | rfl | rfl | rfl <;> decide
  refine call_function_entry kind_hash plain_hash entry_hash (args_hash _) ?_
  unfold Builtin.«hash»
  refine wpAny_bind (m := oneArg "hash" _) (wpAny_pure ?_)
  refine wpAny_bind (wpAny_pyHash_int ?_)
  rw [e]
  exact wpAny_bind (wpAny_mkInt (wpAny_pure ⟨_, rfl, h _ _⟩))
local macro_rules | `(tactic| walk_at "call builtin:hash") => `(tactic| (k_here; refine call_hash_int (by assumption) fun t' tk' => ?_))
/-- hash(var) runs the text's own `__hash__` -/
theorem varhash_c (w : World) {p : Program} {loose : List Str} {mean : ExcName → Option Value} {mg mb : Str → Option Value}
    {dp un : Nat} {gd : Option (List Code)} {cn : Str} {cs : Scope} {a : Addr} {ccd : Value} {cl : List (Str × Addr)} {outer : List Env} {A₀ : Around} {base h₀ : Heap} {L : Addr} {m : Str → Option Value} {s : Shared}
    {x dv : Addr} {i : Int} {t1 t2 : Tok} {Q : Int → Shared → Prop} {E : Value → Shared → Prop}
    (B : Below A₀ base outer h₀) (F : Fr h₀ L s.heap m) (X : (Mine.hd.heap_39 w.params).In h₀) (T : Top p loose mean mg mb h₀) (hk : cs.kind = .function)
    (I : W.InstAt s.heap x (instObj 185 dv) 185 (some (dictOf [⟨PyData.keyHash w.params (Str.ofString "token"), .str (Str.ofString "token") t1, .int i t2⟩] 1)))
    (hi : 0 ≤ i ∧ i < 5) (hd : dp + 4 < recursionLimit) (hu : un + 20 < cLine)
    (hret : ∀ h' tks, Fr h₀ L h' m → (∀ b o, s.heap.get? b = some o → h'.get? b = some o) → Q i { s with heap := h', toks := tks }) :
    wpAny (model PySem.Challenge.rw_ez0159_01.row.prog w) (ktrTop dp un gd cn cs L a ccd cl outer) (pyHash (.ref x)) Q E s := by
  refine pyHash_own (X.keeps F.keep) I (by k_is) (by k_is) (by k_units) ?_
  refine wpAny_call ?_
  k_dflt ktr_enter
  intro g L1 h1 FG F1 N1 B1 X1 T1 G1
  (try dsimp only)
  have I1 := inst_keep (h := g) I fun b o e => G1 b o e (by simp)
  have keep := fun h' m' (Fz : Fr g L1 h' m') => gkeep G1 Fz
  (try k_fold)
  k_steps
  rename Fr h₀ L _ _ => kFz
  rename Fr g L1 _ _ => Fz
  rw [if_neg (by simp; omega)]
  exact hret _ _ kFz (fun b o e => keep _ _ Fz b o (by simp) e)

end Mine
end
section -- M14
open PySem PySem.W PySem.Calls PyProof.Rows
set_option maxRecDepth 100000
namespace Mine
section
variable {prog : Program} {w : World} {A : Around} {E : Value → Shared → Prop} {s : Shared} {Q : Value → Shared → Prop} {K : Frag} {x C f : Addr} {ox : Obj} {od : Option Obj} {key : Value} {T id : String}
/-- `==` of an object whose own `__eq__` declines with a value of a built-in type that declines as well -/
theorem cmp_own_none (X : K.In s.heap) (I : InstAt s.heap x ox C od) (hs : findIn K (.ref C) "__eq__" = some (some (.ref f))) (hf : isFn K (.ref f) = true) (hu : A.units < cLine)
    (hT : ∀ s' : Shared, (∀ b o, s.heap.get? b = some o → s'.heap.get? b = some o) → s'.TypeIs key T) (hsub : subIn K (.type T) (.ref C) = some false) (slot : Slot T "__eq__" id)
    (hsame : ∀ (P : Bool → Shared → Prop) (s' : Shared), (∀ b o, s.heap.get? b = some o → s'.heap.get? b = some o) → P false s' → wpAny (model prog w) A (isSame (.ref x) key) P E s')
    (h : wpAny (model prog w) A (call (.ref f) [.ref x, key]) (fun v s' => v = .notImplemented ∧ (∀ b o, s.heap.get? b = some o → s'.heap.get? b = some o) ∧
      wpAny (model prog w) A (call (.builtin id) [key, .ref x]) (fun v s'' => v = .notImplemented ∧ (∀ b o, s.heap.get? b = some o → s''.heap.get? b = some o) ∧ Q (.bool false) s'') E s') E s) :
    wpAny (model prog w) A (richCompare .Eq (.ref x) key) Q E s := by
  have one : wpAny (model prog w) A (tryCompare (.ref x) "__eq__" key) (fun r s' => r = none ∧ (∀ b o, s.heap.get? b = some o → s'.heap.get? b = some o) ∧
      wpAny (model prog w) A (call (.builtin id) [key, .ref x]) (fun v s'' => v = .notImplemented ∧ (∀ b o, s.heap.get? b = some o → s''.heap.get? b = some o) ∧ Q (.bool false) s'') E s') E s := by
    unfold tryCompare
    refine wpAny_bind (ifBound_K X I hs hf (wpAny_mono h (fun v s' hv => ?_) fun _ _ e => e))
    obtain ⟨rfl, hv⟩ := hv
    exact wpAny_pure ⟨rfl, hv⟩
  unfold richCompare
  simp only [oneThing_ref]
  refine wpAny_holding (wpAny_bind (wpAny_cRoomFor hu ?_))
  refine wpAny_bind (I.type.here (wpAny_bind (wpAny_typeOf (hT s fun _ _ e => e) ?_)))
  rw [if_pos (by simp)]
  refine wpAny_bind ((looks_subIn X hsub).here ?_)
  simp only [Bool.false_eq_true, if_false, cmpInfo]
  refine wpAny_bind (wpAny_mono one (fun r s' z => ?_) fun _ _ e => e)
  obtain ⟨rfl, up, hc⟩ := z
  simp only [Bool.not_false, if_true]
  refine wpAny_bind (m := tryCompare key _ (.ref x)) (wpAny_tryCompare_declines (hT s' up) slot (wpAny_mono hc (fun v s'' z => ⟨z.1, ?_⟩) fun _ _ e => e))
  refine wpAny_bind (wpAny_rule (wpAny_bind (hsame _ s'' z.2.1 ?_)))
  exact wpAny_pure z.2.2
end
end Mine
end
section -- M15
open PySem PySem.W PySem.Calls PyProof.Rows
set_option maxRecDepth 100000
namespace Mine
section
variable {prog : Program} {w : World} {A : Around} {E : Value → Shared → Prop} {s : Shared} {Q : Value → Shared → Prop} {C : Addr} {o : Obj} {X : String}
/-- `==` of a class of the text with a built-in class -/
theorem eq_class_type (hC : s.heap.get? C = some o) (hc : o.cls = .type "type") (hX : ∀ s' : Shared, s'.TypeIs (.type X) "type") (hu : A.units < cLine) (h : Q (.bool false) s) :
    wpAny (model prog w) A (compareOp .Eq (.ref C) (.type X)) Q E s := by
  have hT : s.TypeIs (.ref C) "type" := ⟨o, hC, hc⟩
  show wpAny _ A (richCompare .Eq _ _) Q E s
  rcases hi : cmpInfo CmpOp.Eq with ⟨sym, f, r⟩
  have h1 := TypeEq.slot_type_eq
  have h2 := TypeEq.slot_type_eq_refl
  rw [hi] at h1 h2
  simp only [richCompare, hi, hT.oneThing_none]
  try with_reducible refine wpAny_holding ?_
  refine wpAny_bind (wpAny_cRoomFor hu ?_)
  refine wpAny_bind (wpAny_typeOf hT (wpAny_bind (wpAny_typeOf (hX s) ?_)))
  simp only [bne_self_eq_false, Bool.false_eq_true, if_false, pure_bind, Bool.not_false, if_true]
  refine wpAny_bind (m := tryCompare (.ref C) _ (.type X)) (wpAny_tryCompare_declines hT h1 (call_gives h1 hT F.entry_object_eq (F.args_object_eq_2 _ _) (TypeEq.object_eq_other rfl rfl) ⟨rfl, ?_⟩))
  refine wpAny_bind (m := tryCompare (.type X) _ (.ref C)) (wpAny_tryCompare_declines (hX s) h2 (call_gives h2 (hX s) F.entry_object_eq (F.args_object_eq_2 _ _) (TypeEq.object_eq_other rfl rfl) ⟨rfl, ?_⟩))
  refine wpAny_bind (wpAny_rule (wpAny_bind (wpAny_isSame_plain rfl (wpAny_pure ?_))))
  exact h
end
end Mine
end
section -- M16
open PySem PySem.W PySem.Calls PyProof.Rows
set_option maxRecDepth 100000
namespace Mine
section
variable {prog : Program} {w : World} {A : Around} {E : Value → Shared → Prop} {s : Shared} {Q : Value → Shared → Prop} {K : Frag} {x C : Addr} {ox : Obj} {od : Option Obj}
theorem inst_not (X : K.In s.heap) (I : InstAt s.heap x ox C od) {U : String} (hs : subIn K (.ref C) (.type U) = some false) {P : Bool → Shared → Prop} (h : P false s) : wpAny (model prog w) A (isInstance (.ref x) (.type U)) P E s := by
  unfold isInstance
  exact wpAny_bind (I.type.here ((looks_subIn X hs).here h))
/-- `tuple.__eq__` declines an object of a class of the text -/
theorem tuple_eq_inst {a : Addr} {vs : List Value} (ht : IsTup s.heap a vs.toArray) (X : K.In s.heap) (I : InstAt s.heap x ox C od) (hs : subIn K (.ref C) (.type "tuple") = some false) (h : Q .notImplemented s) :
    wpAny (model prog w) A (call (.builtin "tuple.__eq__") [.ref a, .ref x]) Q E s := by
  refine wpAny_call_entry PySem.F.slot_tuple_eq_refl ht.typeIs PySem.F.entry_tuple_eq ?_ (PySem.F.args_tuple_eq_2 _ _)
  show wpAny _ A.in1 (isInstance (.ref x) (.type "tuple") >>= _) _ _ s
  refine wpAny_bind (inst_not X I hs ?_)
  exact wpAny_pure ⟨_, rfl, h⟩
theorem int_eq_inst {n : Int} {t : Tok} (I : InstAt s.heap x ox C od) (hp : ∀ v, ox.data ≠ .prim v) (h : Q .notImplemented s) :
    wpAny (model prog w) A (call (.builtin "int.__eq__") [.int n t, .ref x]) Q E s := by
  refine wpAny_call_entry PySem.F.slot_int_eq_refl (typeIs_int s n t) PySem.F.entry_int_eq ?_ (PySem.F.args_int_eq_2 _ _)
  show wpAny _ A.in1 (asInt? (.ref x) >>= _) _ _ s
  unfold asInt?
  refine wpAny_bind (wpAny_bind (wpAny_load I.at_ ?_))
  have e : (match ox.data with | .prim (.int i _) => pure (some i) | _ => pure none : Sem (Option Int)) = pure none := by
    cases q : ox.data <;> first | rfl | exact absurd q (hp _)
  refine wpAny_of_eq e ?_
  refine wpAny_bind (wpAny_rule ?_)
  exact wpAny_pure ⟨_, rfl, h⟩
end
end Mine
end
section -- N8
open PySem PySem.W PySem.Calls PyProof.Rows
set_option maxRecDepth 100000
set_option maxHeartbeats 8000000
set_option linter.unusedVariables false
namespace Mine
local macro_rules | `(tactic| k_all) => `(tactic| assumption)
local macro_rules | `(tactic| ktr_enter) => `(tactic| first
  | (refine' code_defG ?k1 ?k2 ?k3 ?k4 ?k5 ?kA ?kF ?kK ?k6 ?k7 ?k8 ?k9 ?kB ?_ ?c2 ?c3 ?c4 ?c5; (case kA => exact rfl); (case kF => exact rfl); (case kK => first | assumption | exact rfl); (case k1 => k_asm); (case k2 => k_asm); (case k3 => k_asm); (case k4 => first | k_asm | exact News.nil); (case k5 => k_asm); (case k6 => k_is); (case k7 => k_is); (case k8 => ktr_room); (case k9 => exact BindsTo.of_eq rfl); (case c5 => decide); (case kB => exact locs rfl); (case c2 => exact rfl); (case c3 => exact rfl); (case c4 => exact rfl))
  | (refine' code_defCG ?k1 ?k2 ?k3 ?k4 ?k5 ?kA ?kF ?kK ?k6 ?k7 ?k8 ?k9 ?kB ?kD ?_ ?c2 ?c3 ?c4; (case kA => exact rfl); (case kF => exact rfl); (case kK => first | assumption | exact rfl); (case k1 => k_asm); (case k2 => k_asm); (case k3 => k_asm); (case k4 => first | k_asm | exact News.nil); (case k5 => k_asm); (case k6 => k_is); (case k7 => k_is); (case k8 => ktr_room); (case k9 => exact BindsTo.of_eq rfl); (case kB => exact rfl); (case kD => decide +kernel); (case c2 => exact rfl); (case c3 => exact rfl); (case c4 => exact rfl)))
local macro_rules | `(tactic| k_room) => `(tactic| (first | ((try simp only [depth_under_make, depth_under_kw, depth_in1, depth_deeper, depth_caller]); decide) | (dsimp only [ktrTop, Around.deeper, Around.in1, Around.mark]; omega)))
local macro_rules | `(tactic| k_units) => `(tactic| (first | exact Nat.le_of_ble_eq_true rfl | (dsimp only [ktrTop, Around.deeper, Around.in1, Around.mark]; omega)))
local macro_rules | `(tactic| k_inst) => `(tactic| first | (refine' inst_up1 ?F ?I; (case F => k_asm); (case I => assumption)) | (refine' inst_up2 ?F2 ?F ?I; (case F2 => k_asm); (case F => k_asm); (case I => assumption)))
local macro_rules | `(tactic| walk_at "compareOp Eq") => `(tactic| (k_here; (with_reducible show wpAny _ _ (compareOp CmpOp.Eq (Value.ref 185) (Value.type _)) _ _ _); k_dflt (refine' eq_class_type ?a ?b ?c ?d ?_; (case a => refine' kto_K ?X ?l; (case X => k_in); (case l => k_is)); (case b => exact rfl); (case c => first | exact TypeEq.meta_int | exact TypeEq.meta_tuple); (case d => k_units))))
theorem vareq_int (w : World) {p : Program} {loose : List Str} {mean : ExcName → Option Value} {mg mb : Str → Option Value}
    {dp un : Nat} {gd : Option (List Code)} {cn : Str} {cs : Scope} {a : Addr} {ccd : Value} {cl : List (Str × Addr)} {outer : List Env} {A₀ : Around} {base h₀ : Heap} {L : Addr} {m : Str → Option Value} {s : Shared}
    {x : Addr} {ox : Obj} {od : Option Obj} {n : Int} {t : Tok} {Q : Value → Shared → Prop} {E : Value → Shared → Prop}
    (B : Below A₀ base outer h₀) (F : Fr h₀ L s.heap m) (X : (Mine.hd.heap_39 w.params).In h₀) (T : Top p loose mean mg mb h₀) (hk : cs.kind = .function)
    (I : W.InstAt s.heap x ox 185 od) (hpr : ∀ v, ox.data ≠ .prim v) (hd : dp + 4 < recursionLimit) (hu : un + 20 < cLine)
    (hret : ∀ h' tks, Fr h₀ L h' m → (∀ b o, s.heap.get? b = some o → h'.get? b = some o) → Q (.bool false) { s with heap := h', toks := tks }) :
    wpAny (model PySem.Challenge.rw_ez0159_01.row.prog w) (ktrTop dp un gd cn cs L a ccd cl outer) (richCompare .Eq (.ref x) (.int n t)) Q E s := by
  refine cmp_own_none (T := "int") (id := "int.__eq__") (X.keeps F.keep) I (by k_is) (by k_is) (by k_units) (fun s' _ => typeIs_int s' n t) (by k_is) PySem.F.slot_int_eq (fun P s' _ hP => wpAny_isSame_plain rfl hP) ?_
  refine wpAny_call ?_
  k_dflt ktr_enter
  intro g L1 h1 FG F1 N1 B1 X1 T1 G1
  (try dsimp only)
  have I1 := inst_keep (h := g) I fun b o e => G1 b o e (by simp)
  have keep := fun h' m' (Fz : Fr g L1 h' m') => gkeep G1 Fz
  (try k_fold)
  k_steps
  · rename Fr g L1 _ _ => Fz
    exact keep _ _ Fz _ _ (by simp) (by assumption)
  · rename Fr h₀ L _ _ => kFz
    rename Fr g L1 _ _ => Fz
    have up := fun b o e => keep _ _ Fz b o (by simp) e
    refine int_eq_inst (inst_keep I up) (fun v q => hpr v q) ⟨rfl, up, ?_⟩
    exact hret _ _ kFz up
theorem type_cls {w : World} {prog : Program} {A : Around} {E : Value → Shared → Prop} {s : Shared} {a : Addr} {T : String} {g : Heap} {L : Addr} {m : Str → Option Value} {Q : Value → Shared → Prop} (c : ClsAt g a T) (F : Fr g L s.heap m) (hn : (Value.type T == Value.type "builtin_function_or_method") = false) (hq : Q (.type T) s) : wpAny (model prog w) A (call (.type "type") [.ref a]) Q E s :=
  kto_cont (let ⟨o, ho, hc⟩ := c; ⟨o, F.keep _ _ ho, hc⟩) hn hq
local macro_rules | `(tactic| walk_at "call type:type") => `(tactic| (k_here; (with_reducible show wpAny _ _ (call (Value.type "type") [Value.ref _]) _ _ _); k_dflt (refine' type_cls ?c ?F ?n ?_; (case c => assumption); (case F => k_asm); (case n => decide))))
theorem vareq_tup (w : World) {p : Program} {loose : List Str} {mean : ExcName → Option Value} {mg mb : Str → Option Value}
    {dp un : Nat} {gd : Option (List Code)} {cn : Str} {cs : Scope} {a : Addr} {ccd : Value} {cl : List (Str × Addr)} {outer : List Env} {A₀ : Around} {base h₀ : Heap} {L : Addr} {m : Str → Option Value} {s : Shared}
    {x : Addr} {ox : Obj} {od : Option Obj} {tp : Addr} {vs : List Value} {Q : Value → Shared → Prop} {E : Value → Shared → Prop}
    (B : Below A₀ base outer h₀) (F : Fr h₀ L s.heap m) (X : (Mine.hd.heap_39 w.params).In h₀) (T : Top p loose mean mg mb h₀) (hk : cs.kind = .function)
    (I : W.InstAt s.heap x ox 185 od) (ht : IsTup s.heap tp vs.toArray) (hne : x ≠ tp) (hnt : ox.cls ≠ .type "tuple") (hd : dp + 4 < recursionLimit) (hu : un + 20 < cLine)
    (hret : ∀ h' tks, Fr h₀ L h' m → (∀ b o, s.heap.get? b = some o → h'.get? b = some o) → Q (.bool false) { s with heap := h', toks := tks }) :
    wpAny (model PySem.Challenge.rw_ez0159_01.row.prog w) (ktrTop dp un gd cn cs L a ccd cl outer) (richCompare .Eq (.ref x) (.ref tp)) Q E s := by
  have hto : ∃ o, s.heap.get? tp = some o ∧ o.cls = .type "tuple" := let ⟨o, ho, hc, _⟩ := ht; ⟨o, ho, hc⟩
  refine cmp_own_none (T := "tuple") (id := "tuple.__eq__") (X.keeps F.keep) I (by k_is) (by k_is) (by k_units) (fun s' up => let ⟨o, ho, hc⟩ := hto; ⟨o, up _ _ ho, hc⟩) (by k_is) PySem.F.slot_tuple_eq (fun P s' up hP => ?_) ?_
  · obtain ⟨o, ho, hc⟩ := hto
    exact wpAny_isSame_ref_other hne (up _ _ I.at_) (up _ _ ho) hnt hP
  refine wpAny_call ?_
  k_dflt ktr_enter
  intro g L1 h1 FG F1 N1 B1 X1 T1 G1
  (try dsimp only)
  have I1 := inst_keep (h := g) I fun b o e => G1 b o e (by simp)
  have hcl : ClsAt g tp "tuple" := let ⟨o, ho, hc⟩ := hto; ⟨o, G1 _ _ ho (by simp), hc⟩
  have keep := fun h' m' (Fz : Fr g L1 h' m') => gkeep G1 Fz
  (try k_fold)
  k_steps
  · rename Fr g L1 _ _ => Fz
    exact keep _ _ Fz _ _ (by simp) (by assumption)
  · rename Fr h₀ L _ _ => kFz
    rename Fr g L1 _ _ => Fz
    have up := fun b o e => keep _ _ Fz b o (by simp) e
    refine tuple_eq_inst (isTup_at ht fun o e => up _ o e) (X.keeps kFz.keep) (inst_keep I up) (by k_is) ⟨rfl, up, ?_⟩
    exact hret _ _ kFz up

end Mine
end
section -- N9
open PySem PySem.W PySem.Calls PyProof.Rows
set_option maxRecDepth 100000
set_option maxHeartbeats 8000000
set_option linter.unusedVariables false
namespace Mine
local macro_rules | `(tactic| k_all) => `(tactic| assumption)
local macro_rules | `(tactic| ktr_enter) => `(tactic| first
  | (refine' code_defG ?k1 ?k2 ?k3 ?k4 ?k5 ?kA ?kF ?kK ?k6 ?k7 ?k8 ?k9 ?kB ?_ ?c2 ?c3 ?c4 ?c5; (case kA => exact rfl); (case kF => exact rfl); (case kK => first | assumption | exact rfl); (case k1 => k_asm); (case k2 => k_asm); (case k3 => k_asm); (case k4 => first | k_asm | exact News.nil); (case k5 => k_asm); (case k6 => k_is); (case k7 => k_is); (case k8 => ktr_room); (case k9 => exact BindsTo.of_eq rfl); (case c5 => decide); (case kB => exact locs rfl); (case c2 => exact rfl); (case c3 => exact rfl); (case c4 => exact rfl))
  | (refine' code_defCG ?k1 ?k2 ?k3 ?k4 ?k5 ?kA ?kF ?kK ?k6 ?k7 ?k8 ?k9 ?kB ?kD ?_ ?c2 ?c3 ?c4; (case kA => exact rfl); (case kF => exact rfl); (case kK => first | assumption | exact rfl); (case k1 => k_asm); (case k2 => k_asm); (case k3 => k_asm); (case k4 => first | k_asm | exact News.nil); (case k5 => k_asm); (case k6 => k_is); (case k7 => k_is); (case k8 => ktr_room); (case k9 => exact BindsTo.of_eq rfl); (case kB => exact rfl); (case kD => decide +kernel); (case c2 => exact rfl); (case c3 => exact rfl); (case c4 => exact rfl)))
/-- hash of a made value: a number, or TypeError -/
theorem md_hash (w : World) {p : Program} {loose : List Str} {mean : ExcName → Option Value} {mg mb : Str → Option Value} {nv : Int → Addr} : ∀ (d : Nat)
    {dp un : Nat} {gd : Option (List Code)} {cn : Str} {cs : Scope} {a : Addr} {ccd : Value} {cl : List (Str × Addr)} {outer : List Env} {A₀ : Around} {base h₀ : Heap} {L : Addr} {m : Str → Option Value} {s : Shared}
    {r : Value} {u : Tm} {Ys : List Addr} {Q : Int → Shared → Prop} {E : Value → Shared → Prop}
    (B : Below A₀ base outer h₀) (F : Fr h₀ L s.heap m) (X : (Mine.hd.heap_39 w.params).In h₀) (T : Top p loose mean mg mb h₀) (hk : cs.kind = .function)
    (hm : MdAt w s.heap Ys nv u r) (hw : Wf 0 5 u) (hdt : u.depth < d) (hV : VarAt w s.heap nv)
    (hd : dp + 4 < recursionLimit) (hu : un + d + 20 < cLine)
    (hok : ∀ n h' tks, Fr h₀ L h' m → (∀ b o, s.heap.get? b = some o → h'.get? b = some o) → Q n { s with heap := h', toks := tks })
    (hbad : ∀ e h' tks, Heap.NewExc s.heap h' e "TypeError" → E (.ref e) { s with heap := h', toks := tks }),
    wpAny (model PySem.Challenge.rw_ez0159_01.row.prog w) (ktrTop dp un gd cn cs L a ccd cl outer) (pyHash r) Q E s := by
  intro d
  induction d with
  | zero => intro dp un gd cn cs a ccd cl outer A₀ base h₀ L m s r u Ys Q E B F X T hk hm hw hdt hV hd hu hok hbad; exact absurd hdt (Nat.not_lt_zero _)
  | succ d ih =>
    intro dp un gd cn cs a ccd cl outer A₀ base h₀ L m s r u Ys Q E B F X T hk hm hw hdt hV hd hu hok hbad
    cases u with
    | num n =>
      obtain ⟨t, rfl⟩ := hm
      exact wpAny_pyHash_int (hok _ _ _ F fun _ _ e => e)
    | var i =>
      have hr : r = .ref (nv i) := hm
      subst hr
      obtain ⟨dv, u1, u2, I⟩ := hV i hw.1 hw.2
      exact varhash_c w B F X T hk I ⟨hw.1, hw.2⟩ hd (by omega) fun h' tks F' k => hok _ _ _ F' k
    | node kd ts =>
      obtain ⟨rr, ys, rfl, nr, hmk, hys⟩ := hm
      simp only [Tm.depth] at hdt
      cases kd with
      | lst =>
        obtain ⟨o, ho, hc⟩ := hmk.cls
        exact pyHash_list ⟨o, ho, hc⟩ rfl (by dsimp only [ktrTop]; omega) fun h' tk e x => hbad _ _ _ x
      | dct =>
        obtain ⟨o, ho, hc⟩ := hmk.cls
        exact pyHash_dict ⟨o, ho, hc⟩ rfl (by dsimp only [ktrTop]; omega) fun h' tk e x => hbad _ _ _ x
      | row =>
        refine pyHash_row (J := fun s' => ∃ h' tks, s' = { s with heap := h', toks := tks } ∧ Fr h₀ L h' m ∧ ∀ b o, s.heap.get? b = some o → h'.get? b = some o) (by dsimp only [ktrTop]; omega) hmk ⟨_, _, rfl, F, fun _ _ e => e⟩ ?_ ?_
        · rintro v s' hv ⟨h', tks, rfl, F', up⟩
          obtain ⟨j, hj⟩ := List.getElem?_of_mem hv
          obtain ⟨t, ht, hmt⟩ := hys.item hj
          have d1 := depths_item ht
          refine ih (dp := dp) (un := un + 1) B F' X T hk (MdAt.keep (KeepX.of up) _ hmt) (wfs_item hw.2 ht) (by omega) (hV.keep up) hd (by omega) (fun n h'' tks' F'' up2 => ⟨_, _, rfl, F'', fun b o e => up2 _ _ (up _ _ e)⟩) fun e h'' tks' x => hbad _ _ _ (newexc_up up x)
        · rintro n s' tk ⟨h', tks, rfl, F', up⟩
          exact hok _ _ _ F' up

end Mine
end
section -- M17
open PySem PySem.W PySem.Calls PyProof.Rows
set_option maxRecDepth 100000
namespace Mine
section
variable {prog : Program} {w : World} {A : Around} {E : Value → Shared → Prop} {s : Shared} {Q : Value → Shared → Prop} {d : Addr} {key : Value}
/-- `key in d` by the look-up itself -/
theorem in_dict (hT : s.TypeIs (.ref d) "dict") (lo : (d == sysModules) = false)
    (h : wpAny (model prog w) A.in1 (dictGet d key) (fun r s' => Q (.bool r.isSome) s') E s) : wpAny (model prog w) A (compareOp .In key (.ref d)) Q E s := by
  show wpAny _ _ (do return .bool (← contains (.ref d) key)) Q E s
  refine wpAny_bind ?_
  unfold contains
  try with_reducible refine wpAny_holding ?_
  refine wpAny_bind (wpAny_specialOf hT slot_dict_contains.lookup ?_)
  show wpAny _ _ (if (some (Value.builtin "dict.__contains__") == some Value.none) = true then _ else _) _ E s
  rw [if_neg (by rw [beq_builtin_none]; exact Bool.false_ne_true)]
  refine wpAny_bind (wpAny_callSpecialUnlessNone?_slot (name := Str.ofString "__contains__") hT slot_dict_contains
    (wpAny_call_entry slot_dict_contains hT entry_dict_contains ?_ (args_dict_contains _ _)))
  show wpAny _ _ (dictGet d key >>= _) _ _ s
  refine wpAny_bind (wpAny_mono h (fun r s' z => ?_) fun _ _ e => e)
  cases r with
  | some v =>
    show wpAny _ _ (ret (.bool true)) _ _ _
    exact wpAny_pure ⟨_, rfl, wpAny_truthy_bool (wpAny_pure z)⟩
  | none =>
    show wpAny _ _ (Builtin.Dict.pendingKey? d key >>= _) _ _ _
    exact wpAny_bind (wpAny_pendingKey_other lo (wpAny_pure ⟨_, rfl, wpAny_truthy_bool (wpAny_pure z)⟩))
/-- `d[key]` of a key that is there -/
theorem item_dict (hT : s.TypeIs (.ref d) "dict")
    (h : wpAny (model prog w) A.in1 (dictGet d key) (fun r s' => ∃ v, r = some v ∧ Q v s') E s) : wpAny (model prog w) A (getItem (.ref d) key) Q E s := by
  unfold getItem
  try with_reducible refine wpAny_holding ?_
  refine wpAny_bind (wpAny_sequenceKey hT (by decide) ?_)
  refine wpAny_bind (wpAny_callSpecial?_slot (name := Str.ofString "__getitem__") hT slot_dict_getitem
    (wpAny_call_entry slot_dict_getitem hT entry_dict_getitem ?_ (args_dict_getitem _ _)))
  show wpAny _ _ (dictGet d key >>= _) _ _ s
  refine wpAny_bind (wpAny_mono h (fun r s' z => ?_) fun _ _ e => e)
  obtain ⟨v, rfl, hq⟩ := z
  exact wpAny_pure ⟨_, rfl, wpAny_pure hq⟩
/-- the look-up: the hash, then the place -/
theorem dictGet_by {M : Model} {R : Option Value → Shared → Prop}
    (h : wpAny M A (pyHash key) (fun n s' => wpAny M A (dictFind d key n) (fun i s'' => match i with | none => R none s'' | some j => ∃ o es ep, s''.heap.get? d = some o ∧ o.data = .dict es ep ∧ R ((es[j]?).map (·.val)) s'') E s') E s) : wpAny M A (dictGet d key) R E s := by
  unfold dictGet
  refine wpAny_holding ?_
  refine wpAny_bind (wpAny_mono h (fun n s' z => ?_) fun _ _ e => e)
  refine wpAny_bind (wpAny_mono z (fun i s'' y => ?_) fun _ _ e => e)
  cases i with
  | none => exact wpAny_pure y
  | some j =>
    obtain ⟨o, es, ep, ho, hd, hr⟩ := y
    exact wpAny_bind (wpAny_dictEntries ho hd (wpAny_pure hr))
end
end Mine
end
section -- N10
open PySem PySem.W PySem.Calls PyProof.Rows
set_option maxRecDepth 100000
set_option maxHeartbeats 8000000
set_option linter.unusedVariables false
namespace Mine
local macro_rules | `(tactic| walk_at "idle0") => `(tactic| fail)
local macro_rules | `(tactic| k_all) => `(tactic| assumption)
local macro_rules | `(tactic| ktr_enter) => `(tactic| first
  | (refine' code_defG ?k1 ?k2 ?k3 ?k4 ?k5 ?kA ?kF ?kK ?k6 ?k7 ?k8 ?k9 ?kB ?_ ?c2 ?c3 ?c4 ?c5; (case kA => exact rfl); (case kF => exact rfl); (case kK => first | assumption | exact rfl); (case k1 => k_asm); (case k2 => k_asm); (case k3 => k_asm); (case k4 => first | k_asm | exact News.nil); (case k5 => k_asm); (case k6 => k_is); (case k7 => k_is); (case k8 => ktr_room); (case k9 => exact BindsTo.of_eq rfl); (case c5 => decide); (case kB => exact locs rfl); (case c2 => exact rfl); (case c3 => exact rfl); (case c4 => exact rfl))
  | (refine' code_defCG ?k1 ?k2 ?k3 ?k4 ?k5 ?kA ?kF ?kK ?k6 ?k7 ?k8 ?k9 ?kB ?kD ?_ ?c2 ?c3 ?c4; (case kA => exact rfl); (case kF => exact rfl); (case kK => first | assumption | exact rfl); (case k1 => k_asm); (case k2 => k_asm); (case k3 => k_asm); (case k4 => first | k_asm | exact News.nil); (case k5 => k_asm); (case k6 => k_is); (case k7 => k_is); (case k8 => ktr_room); (case k9 => exact BindsTo.of_eq rfl); (case kB => exact rfl); (case kD => decide +kernel); (case c2 => exact rfl); (case c3 => exact rfl); (case c4 => exact rfl)))
theorem quiet_var (w : World) {M : Model} {A : Around} {E : Value → Shared → Prop} {s : Shared} {x : Addr} {ox : Obj} {od : Option Obj} {P : Bool → Shared → Prop} (n : Nat) (X : (Mine.hd.heap_39 w.params).In s.heap) (I : W.InstAt s.heap x ox 185 od) (h : ∀ t, P t s) : wpAny M A (eqIsQuiet n (.ref x)) P E s := by
  have e : findIn (Mine.hd.heap_39 w.params) (.ref 185) "__eq__" = some (some (.ref 175)) := by k_is
  obtain ⟨o, ho⟩ : ∃ o, (Mine.hd.heap_39 w.params).lookup 175 = some o := ⟨_, by k_is⟩
  have hb : wpAny M A (answersAConstant 175) P E s := by
    unfold answersAConstant
    refine wpAny_bind (wpAny_load (X _ _ (by k_is)) ?_)
    exact wpAny_pure (h _)
  unfold eqIsQuiet
  unfold specialOf
  refine wpAny_bind (wpAny_bind (I.type.here ((looks_findIn X e).here ?_)))
  exact hb
theorem no_eq_row : typeLookup (.type "tuple") "__eq__" = pure (some (.builtin "tuple.__eq__")) := PySem.F.slot_tuple_eq.lookup
theorem eq_names : typeLookup (.type "list") "__eq__" = pure (some (.builtin "list.__eq__")) ∧ typeLookup (.type "dict") "__eq__" = pure (some (.builtin "dict.__eq__")) ∧ typeLookup (.type "tuple") "__eq__" = pure (some (.builtin "tuple.__eq__")) := by
  refine ⟨?_, ?_, ?_⟩ <;> (rw [typeLookup_type, builtinLookup_eq_fast]; kernel_rfl)
theorem quiet_md (w : World) {M : Model} {A : Around} {E : Value → Shared → Prop} {s : Shared} {nv : Int → Addr} {Ys : List Addr} (X : (Mine.hd.heap_39 w.params).In s.heap) (V : VarAt w s.heap nv) : ∀ (n : Nat) {u : Tm} {r : Value} {P : Bool → Shared → Prop}, MdAt w s.heap Ys nv u r → Wf 0 5 u → (∀ t, P t s) → wpAny M A (eqIsQuiet n r) P E s := by
  intro n
  induction n with
  | zero =>
    intro u r P hm hw h
    cases u with
    | num k => obtain ⟨t, rfl⟩ := hm; unfold eqIsQuiet; exact wpAny_pure (h _)
    | var i =>
      have hr : r = .ref (nv i) := hm
      subst hr
      obtain ⟨dv, u1, u2, I⟩ := V i hw.1 hw.2
      exact quiet_var w 0 X I h
    | node kd ts =>
      obtain ⟨rr, ys, rfl, nr, hmk, hys⟩ := hm
      obtain ⟨o, ho, hc⟩ := hmk.cls
      unfold eqIsQuiet
      cases kd with
      | lst =>
        have hT : s.TypeIs (.ref rr) "list" := ⟨o, ho, hc⟩
        exact wpAny_bind (wpAny_specialOf hT eq_names.1 (wpAny_pure (h _)))
      | dct =>
        have hT : s.TypeIs (.ref rr) "dict" := ⟨o, ho, hc⟩
        exact wpAny_bind (wpAny_specialOf hT eq_names.2.1 (wpAny_pure (h _)))
      | row =>
        have hT : s.TypeIs (.ref rr) "tuple" := ⟨o, ho, hc⟩
        refine wpAny_bind (wpAny_specialOf hT eq_names.2.2 ?_)
        show wpAny _ _ (isInstance (.ref rr) (.type "tuple") >>= _) _ _ _
        refine wpAny_bind (wpAny_isInstance (b := true) hT (by rw [isSubtype_type]; kernel_rfl) ?_)
        exact wpAny_pure (h _)
  | succ n ih =>
    intro u r P hm hw h
    cases u with
    | num k => obtain ⟨t, rfl⟩ := hm; unfold eqIsQuiet; exact wpAny_pure (h _)
    | var i =>
      have hr : r = .ref (nv i) := hm
      subst hr
      obtain ⟨dv, u1, u2, I⟩ := V i hw.1 hw.2
      exact quiet_var w (n + 1) X I h
    | node kd ts =>
      obtain ⟨rr, ys, rfl, nr, hmk, hys⟩ := hm
      obtain ⟨o, ho, hc⟩ := hmk.cls
      unfold eqIsQuiet
      cases kd with
      | lst =>
        have hT : s.TypeIs (.ref rr) "list" := ⟨o, ho, hc⟩
        exact wpAny_bind (wpAny_specialOf hT eq_names.1 (wpAny_pure (h _)))
      | dct =>
        have hT : s.TypeIs (.ref rr) "dict" := ⟨o, ho, hc⟩
        exact wpAny_bind (wpAny_specialOf hT eq_names.2.1 (wpAny_pure (h _)))
      | row =>
        have hT : s.TypeIs (.ref rr) "tuple" := ⟨o, ho, hc⟩
        refine wpAny_bind (wpAny_specialOf hT eq_names.2.2 ?_)
        show wpAny _ _ (isInstance (.ref rr) (.type "tuple") >>= _) _ _ _
        refine wpAny_bind (wpAny_isInstance (b := true) hT (by rw [isSubtype_type]; kernel_rfl) ?_)
        obtain ⟨o', ho', hc', k, hd'⟩ := (show IsTup s.heap rr ys.toArray from hmk)
        have hseq : ∀ {R : Option (Array Value) → Shared → Prop}, R (some ys.toArray) s → wpAny M A (seqItems? (.ref rr)) R E s := fun hR => wpAny_seqItems ho' hd' hR
        show wpAny _ _ (seqItems? (.ref rr) >>= _) _ _ _
        refine wpAny_bind (hseq ?_)
        dsimp only [Option.getD]
        refine wpAny_bind ?_
        rw [← Array.forIn_toList]
        refine wpAny_forIn_list _ (fun rest (b : Option Bool × Unit) s' => s' = s ∧ (∀ v ∈ rest, v ∈ ys) ∧ b.1 = none) _ ?_ ?_ _ _ ⟨rfl, fun v hv => by simpa using hv, rfl⟩
        · rintro v rest b s' ⟨rfl, hv, hb⟩
          obtain ⟨j, hj⟩ := List.getElem?_of_mem (hv v (List.Mem.head _))
          obtain ⟨t, ht, hmt⟩ := hys.item hj
          refine wpAny_bind (ih hmt (wfs_item hw.2 ht) fun q => ?_)
          obtain ⟨b1, b2⟩ := b
          have hb' : b1 = none := hb
          subst hb'
          cases q
          · exact wpAny_pure (wpAny_pure (h _))
          · exact wpAny_pure ⟨rfl, fun v hv' => hv v (List.mem_cons_of_mem _ hv'), rfl⟩
        · rintro b s' ⟨rfl, _, hb⟩
          obtain ⟨b1, b2⟩ := b
          have hb' : b1 = none := hb
          subst hb'
          exact wpAny_pure (h _)

end Mine
end
section -- M18
open PySem PySem.W PySem.Calls PyProof.Rows
set_option maxRecDepth 100000
namespace Mine
theorem filter_one {p : Nat → Bool} {i : Nat} : ∀ {l : List Nat}, l.Nodup → i ∈ l → (∀ j ∈ l, p j = true ↔ j = i) → l.filter p = [i]
  | [], _, h, _ => nomatch h
  | a :: r, hn, hm, hp => by
    have hn' := List.nodup_cons.mp hn
    by_cases e : a = i
    · subst e
      rw [List.filter_cons_of_pos ((hp a (List.Mem.head _)).mpr rfl)]
      have : r.filter p = [] := List.filter_eq_nil_iff.mpr fun j hj q => hn'.1 (((hp j (List.mem_cons_of_mem _ hj)).mp q) ▸ hj)
      rw [this]
    · rw [List.filter_cons_of_neg (fun q => e ((hp a (List.Mem.head _)).mp q))]
      refine filter_one hn'.2 ?_ fun j hj => hp j (List.mem_cons_of_mem _ hj)
      rcases List.mem_cons.mp hm with q | q
      · exact absurd q.symm e
      · exact q
/-- the entries of a dict with the law's variables as keys -/
def ents (nv : Int → Addr) (kvs : List (Int × Value)) : Array DictEntry := (kvs.map fun q => (⟨q.1, .ref (nv q.1), q.2⟩ : DictEntry)).toArray
theorem ents_get {nv : Int → Addr} {kvs : List (Int × Value)} {i : Nat} : (ents nv kvs)[i]? = kvs[i]?.map fun q => ⟨q.1, .ref (nv q.1), q.2⟩ := by
  unfold ents; simp
theorem ents_size {nv : Int → Addr} {kvs : List (Int × Value)} : (ents nv kvs).size = kvs.length := by unfold ents; simp
theorem places_one {nv : Int → Addr} {kvs : List (Int × Value)} (hn : (kvs.map (·.1)).Nodup) {i : Nat} {k : Int} {v : Value} (hi : kvs[i]? = some (k, v)) : placesOf (ents nv kvs) k = [i] := by
  unfold placesOf placesWithHash
  have hlt : i < kvs.length := (List.getElem?_eq_some_iff.mp hi).1
  refine filter_one List.nodup_range (by rw [List.mem_range, ents_size]; exact hlt) fun j hj => ?_
  dsimp only
  rw [ents_get]
  constructor
  · intro q
    cases e : kvs[j]? with
    | none => rw [e] at q; simp at q
    | some r =>
      rw [e] at q
      have hk : r.1 = k := by simpa using q
      have e1 : (kvs.map (·.1))[j]? = some k := by rw [List.getElem?_map, e]; simp [hk]
      have e2 : (kvs.map (·.1))[i]? = some k := by rw [List.getElem?_map, hi]; simp
      have hjl : j < (kvs.map (·.1)).length := (List.getElem?_eq_some_iff.mp e1).1
      exact (List.getElem?_inj hjl hn).mp (e1.trans e2.symm)
  · rintro rfl
    rw [hi]; simp
theorem places_none {nv : Int → Addr} {kvs : List (Int × Value)} {k : Int} (hk : k ∉ kvs.map (·.1)) : placesOf (ents nv kvs) k = [] := by
  unfold placesOf placesWithHash
  refine List.filter_eq_nil_iff.mpr fun j hj q => hk ?_
  dsimp only at q
  rw [ents_get] at q
  cases e : kvs[j]? with
  | none => rw [e] at q; simp at q
  | some r =>
    rw [e] at q
    have hk' : r.1 = k := by simpa using q
    exact List.mem_map.mpr ⟨r, List.mem_of_getElem? e, hk'⟩
end Mine
end
section -- N11
open PySem PySem.W PySem.Calls PyProof.Rows
set_option maxRecDepth 100000
set_option maxHeartbeats 8000000
set_option linter.unusedVariables false
namespace Mine
local macro_rules | `(tactic| k_all) => `(tactic| assumption)
local macro_rules | `(tactic| ktr_enter) => `(tactic| first
  | (refine' code_defG ?k1 ?k2 ?k3 ?k4 ?k5 ?kA ?kF ?kK ?k6 ?k7 ?k8 ?k9 ?kB ?_ ?c2 ?c3 ?c4 ?c5; (case kA => exact rfl); (case kF => exact rfl); (case kK => first | assumption | exact rfl); (case k1 => k_asm); (case k2 => k_asm); (case k3 => k_asm); (case k4 => first | k_asm | exact News.nil); (case k5 => k_asm); (case k6 => k_is); (case k7 => k_is); (case k8 => ktr_room); (case k9 => exact BindsTo.of_eq rfl); (case c5 => decide); (case kB => exact locs rfl); (case c2 => exact rfl); (case c3 => exact rfl); (case c4 => exact rfl))
  | (refine' code_defCG ?k1 ?k2 ?k3 ?k4 ?k5 ?kA ?kF ?kK ?k6 ?k7 ?k8 ?k9 ?kB ?kD ?_ ?c2 ?c3 ?c4; (case kA => exact rfl); (case kF => exact rfl); (case kK => first | assumption | exact rfl); (case k1 => k_asm); (case k2 => k_asm); (case k3 => k_asm); (case k4 => first | k_asm | exact News.nil); (case k5 => k_asm); (case k6 => k_is); (case k7 => k_is); (case k8 => ktr_room); (case k9 => exact BindsTo.of_eq rfl); (case kB => exact rfl); (case kD => decide +kernel); (case c2 => exact rfl); (case c3 => exact rfl); (case c4 => exact rfl)))
theorem var_inj {w : World} {h : Heap} {nv : Int → Addr} (V : VarAt w h nv) {i j : Int} (hi : 0 ≤ i ∧ i < 5) (hj : 0 ≤ j ∧ j < 5) (e : nv i = nv j) : i = j := by
  obtain ⟨dv, t1, t2, I⟩ := V i hi.1 hi.2
  obtain ⟨dv', t1', t2', I'⟩ := V j hj.1 hj.2
  have e1 := I.at_
  rw [e, I'.at_] at e1
  have e2 : dv' = dv := by
    have := Option.some.inj e1
    unfold instObj at this
    injection this with _ q _
    exact Option.some.inj q
  have d1 : h.get? dv = some _ := I.dict
  have d2 : h.get? dv' = some _ := I'.dict
  rw [e2, d1] at d2
  have := Option.some.inj d2
  unfold dictOf at this
  injection this with _ _ q _
  injection q with q _
  have q' := congrArg Array.toList q
  simp at q'
  exact q'.2.1
/-- the dict of given values, with the law's variables as keys -/
def GivAt (h : Heap) (nv : Int → Addr) (d : Addr) (kvs : List (Int × Value)) : Prop := (∃ o ep, h.get? d = some o ∧ o.cls = .type "dict" ∧ o.data = .dict (ents nv kvs) ep) ∧ (kvs.map (·.1)).Nodup ∧ ∀ q ∈ kvs, 0 ≤ q.1 ∧ q.1 < 5
theorem GivAt.keep {h h' : Heap} {nv : Int → Addr} {d : Addr} {kvs : List (Int × Value)} (G : GivAt h nv d kvs) (k : ∀ o, h.get? d = some o → h'.get? d = some o) : GivAt h' nv d kvs := let ⟨⟨o, ep, a, b, c⟩, n, r⟩ := G; ⟨⟨o, ep, k _ a, b, c⟩, n, r⟩
theorem ents_mem {nv : Int → Addr} {kvs : List (Int × Value)} {e : DictEntry} (h : e ∈ ents nv kvs) : ∃ q ∈ kvs, e = ⟨q.1, .ref (nv q.1), q.2⟩ := by
  unfold ents at h
  have h' : e ∈ kvs.map fun q => (⟨q.1, .ref (nv q.1), q.2⟩ : DictEntry) := by simpa using h
  obtain ⟨q, hq, rfl⟩ := List.mem_map.mp h'
  exact ⟨q, hq, rfl⟩
/-- look-up of a variable -/
theorem get_var (w : World) {p : Program} {loose : List Str} {mean : ExcName → Option Value} {mg mb : Str → Option Value}
    {dp un : Nat} {gd : Option (List Code)} {cn : Str} {cs : Scope} {a : Addr} {ccd : Value} {cl : List (Str × Addr)} {outer : List Env} {A₀ : Around} {base h₀ : Heap} {L : Addr} {m : Str → Option Value} {s : Shared}
    {nv : Int → Addr} {i : Int} {d : Addr} {kvs : List (Int × Value)} {R : Option Value → Shared → Prop} {E : Value → Shared → Prop}
    (B : Below A₀ base outer h₀) (F : Fr h₀ L s.heap m) (X : (Mine.hd.heap_39 w.params).In h₀) (T : Top p loose mean mg mb h₀) (hk : cs.kind = .function)
    (V : VarAt w s.heap nv) (G : GivAt s.heap nv d kvs) (hi : 0 ≤ i ∧ i < 5) (hd : dp + 4 < recursionLimit) (hu : un + 20 < cLine)
    (hnone : (∀ v, (i, v) ∉ kvs) → ∀ h' tks, Fr h₀ L h' m → (∀ b o, s.heap.get? b = some o → h'.get? b = some o) → R none { s with heap := h', toks := tks })
    (hsome : ∀ v, (i, v) ∈ kvs → ∀ h' tks, Fr h₀ L h' m → (∀ b o, s.heap.get? b = some o → h'.get? b = some o) → R (some v) { s with heap := h', toks := tks }) :
    wpAny (model PySem.Challenge.rw_ez0159_01.row.prog w) (ktrTop dp un gd cn cs L a ccd cl outer) (dictGet d (.ref (nv i))) R E s := by
  obtain ⟨dv, u1, u2, I⟩ := V i hi.1 hi.2
  refine dictGet_by (varhash_c w B F X T hk I hi hd hu fun h' tks F' up => ?_)
  obtain ⟨⟨o, ep, ho, hc, hdt⟩, hn, hr⟩ := G
  by_cases hin : i ∈ kvs.map (·.1)
  · obtain ⟨q, hq, rfl⟩ := List.mem_map.mp hin
    obtain ⟨j, hj⟩ := List.getElem?_of_mem hq
    refine find_hit_ref (up _ _ ho) hdt (places_one hn (v := q.2) hj) (e := ⟨q.1, .ref (nv q.1), q.2⟩) (by rw [ents_get, hj]; rfl) rfl rfl (fun e' he' hk' => ?_) ?_
    · obtain ⟨q', hq', rfl⟩ := ents_mem he'
      have : nv q'.1 = nv q.1 := by injection hk'
      exact var_inj V (hr _ hq') hi this
    · refine ⟨o, _, ep, up _ _ ho, hdt, ?_⟩
      rw [ents_get, hj]
      exact hsome q.2 hq _ _ F' up
  · refine find_none_ref (up _ _ ho) hdt (places_none hin) (fun e' he' hk' => ?_) ?_
    · obtain ⟨q', hq', rfl⟩ := ents_mem he'
      have : nv q'.1 = nv i := by injection hk'
      have := var_inj V (hr _ hq') hi this
      exact hin (List.mem_map.mpr ⟨q', hq', this⟩)
    · exact hnone (fun v hv => hin (List.mem_map.mpr ⟨_, hv, rfl⟩)) _ _ F' up

end Mine
end
section -- N12
open PySem PySem.W PySem.Calls PyProof.Rows
set_option maxRecDepth 100000
set_option maxHeartbeats 8000000
set_option linter.unusedVariables false
namespace Mine
local macro_rules | `(tactic| walk_at "idle0") => `(tactic| fail)
local macro_rules | `(tactic| k_all) => `(tactic| assumption)
local macro_rules | `(tactic| ktr_enter) => `(tactic| first
  | (refine' code_defG ?k1 ?k2 ?k3 ?k4 ?k5 ?kA ?kF ?kK ?k6 ?k7 ?k8 ?k9 ?kB ?_ ?c2 ?c3 ?c4 ?c5; (case kA => exact rfl); (case kF => exact rfl); (case kK => first | assumption | exact rfl); (case k1 => k_asm); (case k2 => k_asm); (case k3 => k_asm); (case k4 => first | k_asm | exact News.nil); (case k5 => k_asm); (case k6 => k_is); (case k7 => k_is); (case k8 => ktr_room); (case k9 => exact BindsTo.of_eq rfl); (case c5 => decide); (case kB => exact locs rfl); (case c2 => exact rfl); (case c3 => exact rfl); (case c4 => exact rfl))
  | (refine' code_defCG ?k1 ?k2 ?k3 ?k4 ?k5 ?kA ?kF ?kK ?k6 ?k7 ?k8 ?k9 ?kB ?kD ?_ ?c2 ?c3 ?c4; (case kA => exact rfl); (case kF => exact rfl); (case kK => first | assumption | exact rfl); (case k1 => k_asm); (case k2 => k_asm); (case k3 => k_asm); (case k4 => first | k_asm | exact News.nil); (case k5 => k_asm); (case k6 => k_is); (case k7 => k_is); (case k8 => ktr_room); (case k9 => exact BindsTo.of_eq rfl); (case kB => exact rfl); (case kD => decide +kernel); (case c2 => exact rfl); (case c3 => exact rfl); (case c4 => exact rfl)))
theorem mayTell {M : Model} {A : Around} {E : Value → Shared → Prop} {s : Shared} {key : Value} {b : Addr} {P : Bool → Shared → Prop}
    (h1 : ∀ P : Bool → Shared → Prop, (∀ t, P t s) → wpAny M A (eqIsQuiet 8 key) P E s) (h2 : ∀ P : Bool → Shared → Prop, (∀ t, P t s) → wpAny M A (eqIsQuiet 8 (.ref b)) P E s) (h : ∀ t, P t s) : wpAny M A (tableMayTell key [.ref b]) P E s := by
  unfold tableMayTell
  rw [if_neg (by simp)]
  refine wpAny_bind (h1 _ fun q => ?_)
  cases q
  · exact wpAny_pure (h _)
  · rw [if_neg (by simp)]
    rw [List.forIn_cons]
    refine wpAny_bind (wpAny_bind (wpAny_bind (h2 _ fun q => ?_)))
    cases q
    · exact wpAny_pure (wpAny_pure (wpAny_pure (h _)))
    · refine wpAny_pure ?_
      dsimp only
      rw [List.forIn_nil]
      exact wpAny_pure (wpAny_pure (h _))
/-- look-up of a made value that is no variable: not there, or TypeError -/
theorem get_md (w : World) {p : Program} {loose : List Str} {mean : ExcName → Option Value} {mg mb : Str → Option Value}
    {dp un : Nat} {gd : Option (List Code)} {cn : Str} {cs : Scope} {a : Addr} {ccd : Value} {cl : List (Str × Addr)} {outer : List Env} {A₀ : Around} {base h₀ : Heap} {L : Addr} {m : Str → Option Value} {s : Shared}
    {nv : Int → Addr} {u : Tm} {r : Value} {Ys : List Addr} {d : Addr} {kvs : List (Int × Value)} {R : Option Value → Shared → Prop} {E : Value → Shared → Prop}
    (B : Below A₀ base outer h₀) (F : Fr h₀ L s.heap m) (X : (Mine.hd.heap_39 w.params).In h₀) (T : Top p loose mean mg mb h₀) (hk : cs.kind = .function)
    (V : VarAt w s.heap nv) (G : GivAt s.heap nv d kvs) (hm : MdAt w s.heap Ys nv u r) (hw : Wf 0 5 u) (hnv : ∀ i, u ≠ .var i) (hd : dp + 4 < recursionLimit) (hu : un + u.depth + 30 < cLine)
    (hnone : ∀ h' tks, Fr h₀ L h' m → (∀ b o, s.heap.get? b = some o → h'.get? b = some o) → R none { s with heap := h', toks := tks })
    (hbad : ∀ e h' tks, Heap.NewExc s.heap h' e "TypeError" → E (.ref e) { s with heap := h', toks := tks }) :
    wpAny (model PySem.Challenge.rw_ez0159_01.row.prog w) (ktrTop dp un gd cn cs L a ccd cl outer) (dictGet d r) R E s := by
  cases u with
  | var i => exact absurd rfl (hnv i)
  | num n =>
    obtain ⟨t, rfl⟩ := hm
    refine dictGet_by (wpAny_pyHash_int ?_)
    obtain ⟨⟨o, ep, ho, hc, hdt⟩, hn, hr⟩ := G
    by_cases hin : hashInt n ∈ kvs.map (·.1)
    · obtain ⟨q, hq, e⟩ := List.mem_map.mp hin
      obtain ⟨j, hj⟩ := List.getElem?_of_mem hq
      have hr' := hr _ hq
      obtain ⟨dv, u1, u2, I⟩ := V q.1 hr'.1 hr'.2
      refine find_other (e := ⟨q.1, .ref (nv q.1), q.2⟩) ho hdt (places_one hn (v := q.2) (by rw [← e]; exact hj)) (by rw [ents_get, hj]; rfl) rfl e (.inl ⟨_, _, rfl⟩) (by omega)
        (fun P hP => mayTell (fun P hP => by unfold eqIsQuiet; exact wpAny_pure (hP _)) (fun P hP => quiet_var w 8 (X.keeps F.keep) I hP) hP) ?_
      refine vareq_int w B F X T hk I (fun v q => by unfold instObj at q; cases q) hd (by omega) fun h' tks F' up => ⟨rfl, up _ _ ho, ?_⟩
      exact hnone _ _ F' up
    · exact find_none_int ho hdt (places_none hin) (hnone _ _ F fun _ _ e => e)
  | node kd ts =>
    have hm' := hm
    obtain ⟨rr, ys, rfl, nr, hmk, hys⟩ := hm'
    have hcl := hmk.cls
    cases kd with
    | lst =>
      obtain ⟨o, ho, hc⟩ := hcl
      exact dictGet_by (pyHash_list ⟨o, ho, hc⟩ rfl (by dsimp only [ktrTop]; omega) fun h' tk e x => hbad _ _ _ x)
    | dct =>
      obtain ⟨o, ho, hc⟩ := hcl
      exact dictGet_by (pyHash_dict ⟨o, ho, hc⟩ rfl (by dsimp only [ktrTop]; omega) fun h' tk e x => hbad _ _ _ x)
    | row =>
      have ht : IsTup s.heap rr ys.toArray := hmk
      have hto : ∃ o, s.heap.get? rr = some o ∧ o.cls = .type "tuple" := let ⟨o, ho, hc, _⟩ := ht; ⟨o, ho, hc⟩
      obtain ⟨orr, horr, hcrr⟩ := hto
      have nev : ∀ i, 0 ≤ i → i < 5 → rr ≠ nv i := fun i h1 h2 q => by
        obtain ⟨dv, u1, u2, I⟩ := V i h1 h2
        have e1 := I.at_
        rw [← q, horr] at e1
        cases e1
        unfold instObj at hcrr
        cases hcrr
      refine dictGet_by (md_hash w ((Tm.node Kd.row ts).depth + 1) B F X T hk hm hw (Nat.lt_succ_self _) V hd (by omega) (fun n h' tks F' up => ?_) hbad)
      obtain ⟨⟨o, ep, ho, hc, hdt⟩, hn, hr⟩ := G
      have hne : ∀ e' ∈ ents nv kvs, e'.key ≠ .ref rr := fun e' he' hk' => by
        obtain ⟨q', hq', rfl⟩ := ents_mem he'
        have hk2 : nv q'.1 = rr := by injection hk'
        exact nev q'.1 (hr _ hq').1 (hr _ hq').2 hk2.symm
      by_cases hin : n ∈ kvs.map (·.1)
      · obtain ⟨q, hq, e⟩ := List.mem_map.mp hin
        obtain ⟨j, hj⟩ := List.getElem?_of_mem hq
        have hr' := hr _ hq
        obtain ⟨dv, u1, u2, I⟩ := V q.1 hr'.1 hr'.2
        have I' := inst_keep I up
        have V' := V.keep up
        have hm2 : MdAt w h' Ys nv (Tm.node Kd.row ts) (.ref rr) := MdAt.keep (KeepX.of up) _ hm
        refine find_other (e := ⟨q.1, .ref (nv q.1), q.2⟩) (up _ _ ho) hdt (places_one hn (v := q.2) (by rw [← e]; exact hj)) (by rw [ents_get, hj]; rfl) rfl e (.inr ⟨_, rfl, nev q.1 hr'.1 hr'.2, hne⟩) (by omega)
          (fun P hP => mayTell (fun P hP => quiet_md w (X.keeps F'.keep) V' 8 hm2 hw hP) (fun P hP => quiet_var w 8 (X.keeps F'.keep) I' hP) hP) ?_
        refine vareq_tup w B F' X T hk I' (isTup_at ht fun o e => up _ o e) (fun q' => nev q.1 hr'.1 hr'.2 q'.symm) (fun q => by unfold instObj at q; cases q) hd (by omega) fun h2 tks2 F2 up2 => ⟨rfl, up2 _ _ (up _ _ ho), ?_⟩
        exact hnone _ _ F2 fun b o e => up2 _ _ (up _ _ e)
      · exact find_none_ref (up _ _ ho) hdt (places_none hin) hne (hnone _ _ F' up)

end Mine
end
section -- M19
open PySem PySem.W PySem.Calls PyProof.Rows
set_option maxRecDepth 100000
namespace Mine
section
variable {prog : Program} {w : World} {A : Around} {s : Shared} {K : Frag} {base : Heap} {fr : List Env} {mg mb : Str → Option Value} {p : Program} {loose : List Str} {mean : ExcName → Option Value}
/-- a call of a plain def, with the whole heap as its ground -/
theorem code_defT {R : Result → Shared → Prop} {name qual : Str} {params : Arguments} {body : List Stmt} {scope : Scope} {dV kV doc pm cdv ct oc : Value} {an od : Option Addr} {osl : Array (Option Value)} {f : Addr} {args : Args} {binds : List (Str × Value)}
    (B : Below A base fr s.heap) (X : K.In s.heap) (T : Top p loose mean mg mb s.heap)
    (ho : K.lookup f = some ⟨oc, od, .func (fnOf name qual params body scope dV kV doc pm an cdv ct), osl⟩) (hcd : codeIn K cdv qual = true) (hroom : A.depth < recursionLimit)
    (hbind : BindsTo s (fnOf name qual params body scope dV kV doc pm an cdv ct) args binds) (hloc : ∀ y ∈ binds, scope.names.lookup y.1 = some .local)
    (h : ∀ L' h₁, L' = s.heap.objs.size → Fr s.heap L' h₁ (fun y => binds.reverse.lookup y) → Below (A.deeper (envOf qual scope L' f cdv)) base (envOf qual scope L' f cdv :: fr) h₁ →
      wpAny (model prog w) (A.deeper (envOf qual scope L' f cdv)) (execs body (envOf qual scope L' f cdv))
        (fun fl s' => R (.ok (.ret (match fl with | .ret v => v | _ => .none))) s')
        (fun e s' => wpAny (model prog w) (A.deeper (envOf qual scope L' f cdv)) (leaving (envOf qual scope L' f cdv) e) (fun _ s'' => R (.error e) s'') (fun e' s'' => R (.error e') s'') s')
        { s with heap := h₁, toks := s.toks + binds.length })
    (hco : scope.isCoroutine = false) (hgen : scope.isGenerator = false) (hk : scope.kind = .function)
    (hcell : ∀ x ∈ scope.names, x.2 ≠ .cell) : codeAny (model prog w) A (.call (.ref f) args) R s := by
  refine codeAny_call_def (fd := fnX name qual params body scope [] dV kV doc pm an cdv ct) (body := body) (binds := binds) hroom (X _ _ ho) rfl T.nolimit (codeRec_of X hcd) rfl hbind hcell hloc (fun h₁ hns hk₁ => ?_) hco hgen hk
  have F : Fr s.heap s.heap.objs.size h₁ (fun y => binds.reverse.lookup y) := ⟨hns, hk₁, Nat.le_refl _⟩
  exact h _ h₁ rfl F (B.push F hk)
theorem below_re {A : Around} {base h₀ h h₁ : Heap} {outer : List Env} {L a : Addr} {m : Str → Option Value} {name : Str} {scope : Scope} {cd : Value}
    (B1 : Below (A.deeper (envOf name scope L a cd)) base (envOf name scope L a cd :: outer) h₁) (K : Below A base outer h₀) (F : Fr h₀ L h m) : Below (A.deeper (envOf name scope L a cd)) base (envOf name scope L a cd :: outer) h := by
  have hnew : base.get? L = none := by
    cases hq : base.get? L with
    | none => rfl
    | some o => exact absurd (Nat.lt_of_lt_of_le (Heap.lt_size (K.stays L o hq)) F.above) (Nat.lt_irrefl _)
  refine ⟨B1.stack, fun b o e => F.keep b o (K.stays b o e), ?_⟩
  exact .cons B1.frames.1 rfl F.ns hnew (K.frames.of_keeps fun b o e _ => ⟨o, F.keep b o e, rfl⟩)
end
/-- what a raise within leaves: all but the frames stays, the frames stay up to their slots -/
structure Trn (fs : List Addr) (h h' : Heap) : Prop where
  keep : ∀ b o, b ∉ fs → h.get? b = some o → h'.get? b = some o
  slots : ∀ b o, b ∈ fs → h.get? b = some o → ∃ sl, h'.get? b = some { o with slots := sl }
theorem Trn.refl {fs : List Addr} {h : Heap} : Trn fs h h := ⟨fun _ _ _ e => e, fun _ o _ e => ⟨o.slots, e⟩⟩
theorem Trn.of {fs : List Addr} {h h' : Heap} (k : ∀ b o, h.get? b = some o → h'.get? b = some o) : Trn fs h h' := ⟨fun _ _ _ e => k _ _ e, fun _ o _ e => ⟨o.slots, k _ _ e⟩⟩
theorem Trn.trans {fs : List Addr} {h h₁ h₂ : Heap} (x : Trn fs h h₁) (y : Trn fs h₁ h₂) : Trn fs h h₂ :=
  ⟨fun b o n e => y.keep b o n (x.keep b o n e), fun b o m e => by
    obtain ⟨s1, h1⟩ := x.slots b o m e
    obtain ⟨s2, h2⟩ := y.slots b _ m h1
    exact ⟨s2, h2⟩⟩
theorem Trn.up {fs : List Addr} {h h' : Heap} (x : Trn fs h h') {b : Addr} {o : Obj} (e : h.get? b = some o) : ∃ sl, h'.get? b = some { o with slots := sl } := by
  by_cases m : b ∈ fs
  · exact x.slots b o m e
  · exact ⟨o.slots, x.keep b o m e⟩
theorem Trn.mono {fs fs' : List Addr} {h h' : Heap} (x : Trn fs h h') (k : ∀ b ∈ fs, b ∈ fs') : Trn fs' h h' :=
  ⟨fun b o n e => x.keep b o (fun q => n (k b q)) e, fun _ _ _ e => x.up e⟩
theorem Trn.cut {fs fs' : List Addr} {h h' : Heap} (x : Trn fs h h') (k : ∀ b o, h.get? b = some o → b ∈ fs → b ∈ fs') : Trn fs' h h' :=
  ⟨fun b o n e => x.keep b o (fun q => n (k b o e q)) e, fun _ _ _ e => x.up e⟩
theorem Trn.ns {fs : List Addr} {h h' : Heap} (x : Trn fs h h') {a : Addr} {m : Str → Option Value} (hn : h.Ns a m) : h'.Ns a m := by
  obtain ⟨o, es, ep, ho, hd, r⟩ := hn
  obtain ⟨sl, hs⟩ := x.up ho
  exact ⟨_, es, ep, hs, hd, r⟩
abbrev frs (l : List Env) : List Addr := l.filterMap (·.frame)
theorem Trn.below {A : Around} {base h h' : Heap} {fr : List Env} (x : Trn (frs fr) h h') (B : Below A base fr h) : Below A base fr h' :=
  ⟨B.stack, fun b o e => x.keep b o (fun m => by rw [(B.frames.mem m).1] at e; cases e) (B.stays b o e), B.frames.of_keeps fun b o e _ => let ⟨sl, hs⟩ := x.up e; ⟨_, hs, rfl⟩⟩
theorem Below.up {A : Around} {base h h' : Heap} {fr : List Env} (B : Below A base fr h) (k : ∀ b o, h.get? b = some o → h'.get? b = some o) : Below A base fr h' := (Trn.of k).below B
/-- a frame over a turned ground -/
theorem Trn.fr {A : Around} {base g h h' : Heap} {L : Addr} {m : Str → Option Value} {fr : List Env} (x : Trn (L :: frs fr) h h') (B : Below A base fr g) (F : Fr g L h m) : ∃ g', KtsTurn (frs fr) g g' ∧ Fr g' L h' m ∧ Below A base fr g' := by
  obtain ⟨T, S⟩ := kts_turn_at (h := h') (fs := frs fr) (g := g)
    (fun b hb => by
      obtain ⟨_, o, ho, _⟩ := B.frames.mem hb
      exact ⟨o, ho⟩)
    (fun b o e nm => x.keep b o (fun q => by
      rcases List.mem_cons.mp q with rfl | q
      · rw [kts_self F] at e; cases e
      · exact nm q) (F.keep b o e))
    (fun b o e hm => x.up (F.keep b o e))
  refine ⟨_, T, ⟨x.ns F.ns, S, by rw [T.size]; exact F.above⟩, ⟨B.stack, fun b o e => T.other b o (B.stays b o e) (fun hm => by
    rw [(B.frames.mem hm).1] at e
    cases e), B.frames.of_keeps fun b o e _ => ?_⟩⟩
  obtain ⟨sl, hs⟩ := T.up e
  exact ⟨_, hs, rfl⟩
/-- the frames of the stack are no objects of `base`, so what stays in `hideAll` stays -/
theorem trn_of_hide {h h' : Heap} {fs : List Addr} (k : (hideAll h fs).StaysIn h') (u : h.UpToSlots h') (hd : ∀ b ∈ fs, ∀ o, h.get? b = some o → ∀ vs, o.data ≠ .fields vs) : Trn fs h h' :=
  ⟨fun b o n e => k b o (hideAll_get _ e n), fun b o m e => u b o e (hd b m o e)⟩
end Mine
end
section -- M20
open PySem PySem.W PySem.Calls PyProof.Rows
set_option maxRecDepth 100000
namespace Mine
def HeldT (hb : Heap) (fr : List Env) (L e : Addr) (cls : String) (h : Heap) : Prop := ∃ a0, Heap.HeldW (hideAll hb (frs fr)) fr e (.type cls) a0 L h ∧ hb.UpToSlots h
def FlyT (hb : Heap) (fr : List Env) (e : Addr) (cls : String) (h : Heap) : Prop := ∃ a0, Heap.FlyingW (hideAll hb (frs fr)) fr e (.type cls) a0 h ∧ hb.UpToSlots h
theorem frs_nofields {A : Around} {base h : Heap} {fr : List Env} (B : Below A base fr h) : ∀ b ∈ frs fr, ∀ o, h.get? b = some o → ∀ vs, o.data ≠ .fields vs := fun b m o e => by
  obtain ⟨_, o', ho', hd⟩ := B.frames.mem m
  rw [e] at ho'; cases ho'; exact hd
theorem HeldT.trn {A : Around} {base hb h : Heap} {fr : List Env} {L e : Addr} {cls : String} (x : HeldT hb fr L e cls h) (B : Below A base fr hb) : Trn (frs fr) hb h := let ⟨_, a, b⟩ := x; trn_of_hide a.1 b (frs_nofields B)
theorem FlyT.trn {A : Around} {base hb h : Heap} {fr : List Env} {e : Addr} {cls : String} (x : FlyT hb fr e cls h) (B : Below A base fr hb) : Trn (frs fr) hb h := let ⟨_, a, b⟩ := x; trn_of_hide a.1 b (frs_nofields B)
theorem FlyT.there {hb h : Heap} {fr : List Env} {e : Addr} {cls : String} (x : FlyT hb fr e cls h) : ∃ ob, h.get? e = some ob ∧ ob.cls = .type cls := let ⟨_, a, _⟩ := x; a.there
theorem HeldT.there {hb h : Heap} {fr : List Env} {L e : Addr} {cls : String} (x : HeldT hb fr L e cls h) : ∃ ob, h.get? e = some ob ∧ ob.cls = .type cls := let ⟨_, a, _⟩ := x; a.there
section
variable {M : Model} {A : Around} {E : Value → Shared → Prop} {s : Shared} {env : Env} {outer : List Env} {base hb : Heap} {L e : Addr} {cls : String}
theorem note_newT {Q : Unit → Shared → Prop} (B : Below A base (env :: outer) hb) (hf : env.frame = some L) (hx : hb.NewExc s.heap e cls)
    (hQ : ∀ h', HeldT hb (env :: outer) L e cls h' → Q () { s with heap := h' }) : wpAny M A (noteFrame (.ref e) env) Q E s := by
  obtain ⟨ob, t, he, hc, hd⟩ := hx.there
  have hin : ∀ env' ∈ (env :: outer), ∀ b, env'.frame = some b → b ∈ frs (env :: outer) := fun env' he b hb => List.mem_filterMap.mpr ⟨env', he, hb⟩
  have hl : s.heap.FunFrames (hideAll hb (frs (env :: outer))) (env :: outer) := (funFrames_hide B.frames hin).of_keeps fun b o e' _ => ⟨o, hx.keeps b o e', rfl⟩
  have st : (hideAll hb (frs (env :: outer))).StaysIn s.heap := fun b o e' => hx.keeps b o (of_hideAll _ e')
  have hen : (hideAll hb (frs (env :: outer))).get? e = none := by
    cases q : (hideAll hb (frs (env :: outer))).get? e with
    | none => rfl
    | some o => have := of_hideAll _ q; rw [hx.new] at this; cases this
  unfold noteFrame
  simp only [hf]
  refine wpAny_bind (wpAny_field (x := Value.none) he hd rfl ?_)
  rw [if_neg (by decide)]
  refine wpAny_entryW (a0 := t) B.stack hl hf he st hen hd (by simp) (by simp) fun h' hN => hQ h' ?_
  obtain ⟨k1, k2, k3, k4⟩ := hN
  rw [hc] at k3
  exact ⟨t, ⟨k1, hen, k2, k3⟩, (Heap.UpToSlots.of_keeps hx.keeps).trans k4⟩
theorem setFlight_someT {Q : Unit → Shared → Prop} {fr : List Env} (x : HeldT hb fr L e cls s.heap) (hQ : ∀ h', HeldT hb fr L e cls h' → Q () { s with heap := h' }) : wpAny M A (setFlight (.ref e) (some L)) Q E s := by
  obtain ⟨a0, ⟨hkb, hen, hl, oe, vs, T, oT, ts, he, hcls, hd, h1, hnT, hTe, hT, hdT, h3⟩, hu⟩ := x
  have hsz3 : 3 < ts.size := (Array.getElem?_eq_some_iff.mp h3).1
  have other : ∀ b, b ≠ T → (s.heap.update T (Obj.mapFields (·.setIfInBounds 3 ((some L).elim Value.none fun f => rawInt f)))).get? b = s.heap.get? b :=
    fun b hb => Heap.get?_update_other _ _ (Ne.symm hb)
  have noRecord : ∀ b o, s.heap.get? b = some o → (∀ vs, o.data ≠ .fields vs) → b ≠ T := fun b o hb hnf q => by
    rw [q, hT] at hb; injection hb with hb; subst hb; exact hnf ts hdT
  unfold setFlight
  refine wpAny_bind (wpAny_field he hd h1 ?_)
  rw [if_pos (show (Value.ref T != Value.none) = true from by simp)]
  refine wpAny_setField hT hdT hsz3 (hQ _ ⟨a0, ⟨fun b o hbo => (other b fun q => by rw [q, hnT] at hbo; cases hbo).trans (hkb b o hbo), hen,
    hl.of_keeps fun b o hb hnf => ⟨o, (other b (noRecord b o hb hnf)).trans hb, rfl⟩, ?_⟩, hu.trans fun b o hb hnf => ⟨o.slots, (other b (noRecord b o hb hnf)).trans hb⟩⟩)
  exact ⟨oe, vs, T, _, _, (other e (Ne.symm hTe)).trans he, hcls, hd, h1, hnT, hTe, Heap.get?_update_self _ hT (Obj.isFreed_of_fields (Obj.data_mapFields hdT _)), Obj.data_mapFields hdT _, by simp [hsz3]⟩
theorem cameBackT {fr : List Env} (hf : env.frame = some L) (x : HeldT hb fr L e cls s.heap) (hQ : ∀ h', HeldT hb fr L e cls h' → E (.ref e) { s with heap := h' }) : cameBackBy M A env E (.ref e) s := by
  obtain ⟨a0, hh, hu⟩ := id x
  obtain ⟨hkb, hen, hl, oe, vs, T, oT, ts, he, hcls, hd, h1, hnT, hTe, hT, hdT, h3⟩ := hh
  unfold cameBackBy
  refine wpAny_bind (wpAny_field he hd h1 ?_)
  rw [if_neg (show ¬ (Value.ref T == Value.none) = true from by simp), hf]
  exact setFlight_someT x hQ
/-- a raise in a while loop's own code comes back to the statement -/
theorem noted_backT (B : Below A base (env :: outer) hb) (hf : env.frame = some L) (hx : hb.NewExc s.heap e cls) (hQ : ∀ h', HeldT hb (env :: outer) L e cls h' → E (.ref e) { s with heap := h' }) : notedBy M A env (cameBackBy M A env E) (.ref e) s :=
  note_newT B hf hx fun h' x => cameBackT hf x hQ
theorem landT {Q : Unit → Shared → Prop} {fr : List Env} (x : HeldT hb fr L e cls s.heap) (hQ : ∀ h', FlyT hb fr e cls h' → Q () { s with heap := h' }) : wpAny M A (setFlight (.ref e) none) Q E s := by
  obtain ⟨a0, hh, hu⟩ := x
  exact wpAny_landsW hh fun h' k1 k2 => hQ h' ⟨a0, k1, hu.trans k2⟩
theorem flyT_keep {hb h h' : Heap} {fr : List Env} {e : Addr} {cls : String} (x : FlyT hb fr e cls h) (k : ∀ b o, h.get? b = some o → h'.get? b = some o) : FlyT hb fr e cls h' := by
  obtain ⟨a0, ⟨k1, k2, k3, oe, vs, T, oT, ts, he, hc, hd, h1, hn, hT, ho, hdT, h3⟩, hu⟩ := x
  exact ⟨a0, ⟨fun b o q => k b o (k1 b o q), k2, k3.of_keeps fun b o q _ => ⟨o, k b o q, rfl⟩, oe, vs, T, oT, ts, k _ _ he, hc, hd, h1, hn, hT, k _ _ ho, hdT, h3⟩, hu.trans (Heap.UpToSlots.of_keeps k)⟩
theorem clearT {Q : Unit → Shared → Prop} {fr : List Env} (x : FlyT hb fr e cls s.heap) (hQ : ∀ h', FlyT hb fr e cls h' → Q () { s with heap := h' }) : wpAny M A (setFlight (.ref e) none) Q E s := by
  obtain ⟨a0, ⟨k1, k2, k3, k4⟩, hu⟩ := x
  exact wpAny_setFlight_noneW k1 k3 k4.at fun h6 m1 m2 m3 m4 => hQ h6 ⟨a0, ⟨m1, k2, m2, m3⟩, hu.trans fun b o hb hn => ⟨o.slots, m4 b o hb hn⟩⟩
theorem tracebackT {P : Value → Shared → Prop} {fr : List Env} (x : FlyT hb fr e cls s.heap) (hP : ∀ tb, P tb s) : wpAny M A (tracebackOf (.ref e)) P E s := by
  obtain ⟨a0, ⟨k1, k2, k3, oe, vs, T, oT, ts, he, hc, hd, h1, hn, hT, ho, hdT, h3⟩, hu⟩ := x
  obtain ⟨y, hy⟩ : ∃ y, ts[1]? = some y := by
    have := (Array.getElem?_eq_some_iff.mp h3).1
    exact ⟨ts[1], Array.getElem?_eq_getElem (by omega)⟩
  unfold tracebackOf
  refine wpAny_bind (wpAny_field he hd h1 ?_)
  refine wpAny_bind (wpAny_field ho hdT hy ?_)
  split
  · exact wpAny_pure (hP _)
  · exact wpAny_pure (hP _)
end
section
variable {prog : Program} {w : World} {A : Around} {E : Value → Shared → Prop} {s : Shared} {env : Env} {outer : List Env} {base hb : Heap} {L e : Addr} {x fx : Addr} {pos : Pos}
/-- the exit of a `with` swallows a held exception -/
theorem withErrT {Q : Flow → Shared → Prop} (hf : env.frame = some L) (hh : HeldT hb (env :: outer) L e "TypeError" s.heap)
    (h : ∀ h' tb, FlyT hb (env :: outer) e "TypeError" h' →
      codeAny (model prog w) (A.mark (some (.ref e))) (.call (.ref fx) ⟨[.ref x, .type "TypeError", .ref e, tb], []⟩) (fun r s₅ => match r with
        | .ok (.ret v) => v = .bool true ∧ (∀ b o, h'.get? b = some o → s₅.heap.get? b = some o) ∧ ∀ h6, FlyT hb (env :: outer) e "TypeError" h6 → Q .next { s₅ with heap := h6 }
        | _ => False) { s with heap := h' }) :
    wpAny (model prog w) A (withErr env pos fx x (.ref e)) Q E s := by
  unfold withErr
  refine wpAny_bind ?_
  obtain ⟨a0, hh', hu⟩ := id hh
  refine wpAny_noteFrame_againW hf hh'.2.2.2 ?_
  refine wpAny_bind (landT hh fun h' hfl => ?_)
  refine wpAny_bind (wpAny_standAt ?_)
  refine wpAny_holding ?_
  have hTI : Shared.TypeIs { s with heap := h' } (.ref e) "TypeError" := hfl.there
  refine wpAny_bind (wpAny_typeOf hTI ?_)
  refine wpAny_bind (tracebackT (s := { s with heap := h' }) hfl fun tb => ?_)
  refine wpAny_bind ?_
  unfold withItem.marked
  refine wpAny_bind (wpAny_run (codeAny_mono (h h' tb hfl) fun r s₅ z => ?_) (by intro q; cases q))
  cases r with
  | error e' => exact z.elim
  | ok f =>
    cases f with
    | ret v =>
      obtain ⟨rfl, up, hq⟩ := z
      refine wpAny_pure ?_
      refine wpAny_bind (wpAny_pure ?_)
      refine wpAny_bind (wpAny_pure ?_)
      simp only [if_true]
      refine wpAny_bind (wpAny_rule ?_)
      refine wpAny_bind (clearT (flyT_keep hfl up) fun h6 hf6 => ?_)
      exact wpAny_pure (hq h6 hf6)
    | _ => exact z.elim
end
end Mine
end
section -- M21
open PySem PySem.W PySem.Calls PyProof.Rows
set_option maxRecDepth 100000
namespace Mine
section
variable {prog : Program} {w : World} {A : Around} {R : Result → Shared → Prop} {s : Shared} {env : Env} {test : Expr} {body : List Stmt}
/-- one turn of a while loop, and then the loop again -/
theorem while_turn (h : wpAny (model prog w) A (isTrue test env (eval test env)) (fun b s₂ =>
        if b = true then wpAny (model prog w) A (execs body env) (fun f s₃ => match f with
            | .next | .cont => codeAny (model prog w) A (.whileLoop test body [] env) R s₃
            | .brk => R (.ok .next) s₃
            | .ret v => R (.ok (.ret v)) s₃) (notedBy (model prog w) A env fun e s' => R (.error e) s') s₂
        else R (.ok .next) s₂)
        (notedBy (model prog w) A env fun e s' => R (.error e) s') s) : codeAny (model prog w) A (.whileLoop test body [] env) R s := by
  refine codeAny_of_tree ?_
  show wpAny _ A ((whileTurn test body [] env).onRaise (fun x => do noteFrame x env; theTreesLotGoes x)) _ _ s
  refine wpAny_noted ?_
  simp only [whileTurn]
  refine wpAny_bind (wpAny_mono h (fun b s₂ h₂ => ?_) fun _ _ h' => h')
  cases b with
  | false =>
    simp only [Bool.false_eq_true, if_false] at h₂ ⊢
    exact wpAny_bind (wpAny_pure (wpAny_pure h₂))
  | true =>
    simp only [if_true] at h₂ ⊢
    refine wpAny_bind (wpAny_mono h₂ (fun f s₃ h₃ => ?_) fun _ _ h' => h')
    cases f with
    | next => exact wpAny_pure ⟨rfl, h₃⟩
    | cont => exact wpAny_pure ⟨rfl, h₃⟩
    | brk => exact wpAny_pure h₃
    | ret v => exact wpAny_pure h₃
theorem loop_ind {M : Model} {C : Code} (I : Nat → Shared → Prop) (step : ∀ n s, I n s → (∀ m s', m < n → I m s' → codeAny M A C R s') → codeAny M A C R s) (n : Nat) (h : I n s) : codeAny M A C R s := by
  induction n using Nat.strongRecOn generalizing s with
  | ind n ih => exact step n s h fun m s' hm hi => ih m hm hi
end
theorem below_hide {A : Around} {base h : Heap} {fr : List Env} (B : Below A base fr h) : Below A (hideAll h (frs fr)) fr h :=
  ⟨B.stack, fun b o e => of_hideAll _ e, funFrames_hide B.frames fun env he a ha => List.mem_filterMap.mpr ⟨env, he, ha⟩⟩
end Mine
end
section -- M22
open PySem PySem.W PySem.Calls PyProof.Rows
set_option maxRecDepth 100000
namespace Mine
theorem kind_subn : builtinKind "issubclass.nested" = none := by decide +kernel
theorem plain_subn : plainId "issubclass.nested" = true := by decide +kernel
theorem args_subn (a b c : Value) : argsOk "issubclass.nested" ⟨[a, b, c], []⟩ := by unfold argsOk; kernel_rfl
theorem self_te : isSubtype (.type "TypeError") (.type "TypeError") = pure true := by rw [isSubtype_type]; kernel_rfl
section
variable {prog : Program} {w : World} {A : Around} {E : Value → Shared → Prop} {s : Shared}
theorem is_type_none {T : String} {Q : Value → Shared → Prop} (h : Q (.bool false) s) : wpAny (model prog w) A (compareOp .Is (.type T) .none) Q E s := wpAny_is_plain rfl h
theorem subn_self {k : Value} {dep : Int} {tk : Tok} {Q : Value → Shared → Prop} (hk : k = .int dep tk) (h : Q (.bool true) s) :
    wpAny (model prog w) A (call (.builtin "issubclass.nested") [.type "TypeError", .type "TypeError", k]) Q E s :=
  call_function_entry kind_subn plain_subn F.entry_issubclass_nested (args_subn _ _ _) (issubclass_nested_self hk excClass_TypeError self_te ⟨_, rfl, h⟩)
theorem subcls_tup {D : Addr} {Q : Value → Shared → Prop} (hT : IsTup s.heap D #[.type "TypeError"]) (hq : Q (.bool true) s) : wpAny (model prog w) A (call (.builtin "issubclass") [.type "TypeError", .ref D]) Q E s := by
  refine call_issubclass (S := fun _ R s => IsTup s.heap D #[.type "TypeError"] ∧ R (.ok (.ret (.bool true))) s) (fun prog w A R s hs => issubclass_outer ?_) ⟨hT, hq⟩
  obtain ⟨hT, hq⟩ := hs
  obtain ⟨o, ho, hc, n, hd⟩ := hT
  have hTI : s.TypeIs (.ref D) "tuple" := ⟨o, ho, hc⟩
  have f1 := F.isi_sub_tuple
  unfold Builtin.«issubclass.nested»
  dsimp only [rawInt]
  refine wpAny_bind (wpAny_typeOf hTI ?_)
  rw [if_neg (by simp)]
  refine wpAny_bind (m := Builtin.Builtins.unionMembers _) ?_
  unfold Builtin.Builtins.unionMembers
  refine wpAny_bind (wpAny_typeOf hTI ?_)
  rw [if_neg (by simp)]
  refine wpAny_pure ?_
  refine wpAny_bind (wpAny_isInstance (b := true) hTI f1 ?_)
  rw [if_pos rfl]
  rw [if_neg (by decide)]
  refine wpAny_bind (wpAny_seqItems ho hd ?_)
  dsimp only [Option.getD]
  refine wpAny_bind ?_
  rw [← Array.forIn_toList]
  show wpAny _ _ (forIn [Value.type "TypeError"] _ _) _ _ _
  rw [List.forIn_cons]
  refine wpAny_bind (wpAny_bind (subn_self rfl ?_))
  refine wpAny_bind (m := truthy (.bool true)) (wpAny_pure ?_)
  rw [if_pos rfl]
  exact wpAny_bind (wpAny_pure (wpAny_pure (wpAny_pure (wpAny_pure hq))))
end
end Mine
end
section -- N13
open PySem PySem.W PySem.Calls PyProof.Rows
set_option maxRecDepth 100000
set_option maxHeartbeats 8000000
set_option linter.unusedVariables false
namespace Mine
local macro_rules | `(tactic| k_all) => `(tactic| assumption)
local macro_rules | `(tactic| ktr_enter) => `(tactic| first
  | (refine' code_defG ?k1 ?k2 ?k3 ?k4 ?k5 ?kA ?kF ?kK ?k6 ?k7 ?k8 ?k9 ?kB ?_ ?c2 ?c3 ?c4 ?c5; (case kA => exact rfl); (case kF => exact rfl); (case kK => first | assumption | exact rfl); (case k1 => k_asm); (case k2 => k_asm); (case k3 => k_asm); (case k4 => first | k_asm | exact News.nil); (case k5 => k_asm); (case k6 => k_is); (case k7 => k_is); (case k8 => ktr_room); (case k9 => exact BindsTo.of_eq rfl); (case c5 => decide); (case kB => exact locs rfl); (case c2 => exact rfl); (case c3 => exact rfl); (case c4 => exact rfl))
  | (refine' code_defCG ?k1 ?k2 ?k3 ?k4 ?k5 ?kA ?kF ?kK ?k6 ?k7 ?k8 ?k9 ?kB ?kD ?_ ?c2 ?c3 ?c4; (case kA => exact rfl); (case kF => exact rfl); (case kK => first | assumption | exact rfl); (case k1 => k_asm); (case k2 => k_asm); (case k3 => k_asm); (case k4 => first | k_asm | exact News.nil); (case k5 => k_asm); (case k6 => k_is); (case k7 => k_is); (case k8 => ktr_room); (case k9 => exact BindsTo.of_eq rfl); (case kB => exact rfl); (case kD => decide +kernel); (case c2 => exact rfl); (case c3 => exact rfl); (case c4 => exact rfl)))
local macro_rules | `(tactic| k_room) => `(tactic| (first | ((try simp only [depth_under_make, depth_under_kw, depth_in1, depth_deeper, depth_caller]); decide) | (dsimp only [ktrTop, Around.deeper, Around.in1, Around.mark]; omega) | ((try simp only [depth_under_make, depth_under_kw, depth_in1, depth_deeper, depth_caller]); (try dsimp only [ktrTop, Around.deeper, Around.in1, Around.mark]); omega)))
local macro_rules | `(tactic| k_units) => `(tactic| (first | exact Nat.le_of_ble_eq_true rfl | (dsimp only [ktrTop, Around.deeper, Around.in1, Around.mark]; omega)))
local macro_rules | `(tactic| k_inst) => `(tactic| first | (refine' inst_up1 ?F ?I; (case F => k_asm); (case I => assumption)) | (refine' inst_up2 ?F2 ?F ?I; (case F2 => k_asm); (case F => k_asm); (case I => assumption)))
local macro_rules | `(tactic| walk_at "KwIn") => `(tactic| (k_here; refine of_here ?_))
local macro_rules | `(tactic| walk_at "exec While") => `(tactic| (k_here; refine of_here ?_))
local macro_rules | `(tactic| walk_at "exec While Compare") => `(tactic| (k_here; refine of_here ?_))
local macro_rules | `(tactic| walk_at "last exec While") => `(tactic| (k_here; refine of_here ?_))
abbrev newsOf {g h : Heap} {L : Addr} {l : List (Addr × Obj)} (_ : News g L h l) : List (Addr × Obj) := l
theorem below_mark {A : Around} {base h : Heap} {fr : List Env} {v : Option Value} (B : Below A base fr h) : Below (A.mark v) base fr h := ⟨B.stack, B.stays, B.frames⟩
theorem trn_over {g h h' : Heap} {L : Addr} {m : Str → Option Value} {fs : List Addr} (F : Fr g L h m) (x : Trn (L :: fs) h h') : Trn fs g h' :=
  ⟨fun b o n e => x.keep b o (fun q => by
    rcases List.mem_cons.mp q with rfl | q
    · rw [kts_self F] at e; cases e
    · exact n q) (F.keep b o e), fun b o _ e => x.up (F.keep b o e)⟩
theorem nilNews {g h : Heap} {L : Addr} {m : Str → Option Value} (_ : Fr g L h m) : News g L h [] := News.nil
abbrev frOf {A : Around} {base h : Heap} {fr : List Env} (_ : Below A base fr h) : List Env := fr
local macro_rules | `(tactic| walk_at "compareOp In") => `(tactic| (k_here; (with_reducible show wpAny _ _ (compareOp CmpOp.In _ (Value.ref _)) _ _ _); refine of_here ?_))
local macro_rules | `(tactic| walk_at "eval Name") => `(tactic| (k_here; k_dflt (refine' ld ?k1 ?k2 ?_; (case k1 => k_asm); (case k2 => assumption))))
local macro_rules | `(tactic| walk_at "getItem") => `(tactic| (k_here; (with_reducible show wpAny _ _ (getItem (Value.ref _) _) _ _ _); refine of_here ?_))
local macro_rules | `(tactic| walk_at "compareOp Is") => `(tactic| (k_here; (with_reducible show wpAny _ _ (compareOp CmpOp.Is (Value.type _) Value.none) _ _ _); refine is_type_none ?_))
local macro_rules | `(tactic| walk_at "call builtin:issubclass") => `(tactic| (k_here; refine of_here ?_))
/-- what the dict of given values holds -/
def KvAt (w : World) (h : Heap) (Ys : List Addr) (nv : Int → Addr) (kvs : List (Int × Value)) (sg : Int → Option Tm) (D : Nat) : Prop :=
  ∀ i, 0 ≤ i → i < 5 → (sg i = none → ∀ v, (i, v) ∉ kvs) ∧ ∀ t, sg i = some t → (∃ v, (i, v) ∈ kvs) ∧ ∀ v, (i, v) ∈ kvs → MdAt w h Ys nv t v ∧ Wf 0 5 t ∧ t.depth ≤ D
/-- a look-up has raised -/
def TgEr (w : World) (s : Shared) (base : Heap) (Ys : List Addr) (nv : Int → Addr) (sg : Int → Option Tm) (n : Nat) (i : Int) (u : Tm) (L1 : Addr) (fr1 : List Env) (d : Addr) (news : List (Addr × Obj)) (e : Value) (s' : Shared) : Prop :=
  ∃ a hb t r m tk' n', e = .ref a ∧ s' = { s with heap := s'.heap, toks := tk' } ∧ HeldT hb fr1 L1 a "TypeError" s'.heap ∧ Fr s.heap L1 hb m ∧ News s.heap L1 hb news ∧ m (Str.ofString "key") = some r ∧ MdAt w base Ys nv t r ∧ Wf 0 5 t ∧ Wh sg n' t u ∧ n' ≤ n ∧ (∀ j, t = .var j → sg j = none) ∧ (sg i = none → t = .var i) ∧ (sg i ≠ none → n' < n)
theorem tget_c (w : World) {p : Program} {loose : List Str} {mean : ExcName → Option Value} {mg mb : Str → Option Value}
    {dp un : Nat} {gd : Option (List Code)} {fr : List Env} {base : Heap} {s : Shared} {nv : Int → Addr} {i : Int} {d : Addr} {kvs : List (Int × Value)} {sg : Int → Option Tm} {Ys : List Addr} {D n : Nat} {u : Tm} {Q E : Value → Shared → Prop}
    (B : Below ⟨none, dp, some fr, gd, un⟩ base fr s.heap) (X : (Mine.hd.heap_39 w.params).In base) (T : Top p loose mean mg mb base)
    (V : VarAt w base nv) (G : GivAt base nv d kvs) (K : KvAt w base Ys nv kvs sg D) (lo : (d == sysModules) = false) (hi : 0 ≤ i ∧ i < 5) (hW : Wh sg n (.var i) u)
    (hd : dp + 10 < recursionLimit) (hu : un + D + 100 < cLine)
    (hret : ∀ t r n' h' tks, Trn (frs fr) s.heap h' → MdAt w base Ys nv t r → Wf 0 5 t → Wh sg n' t u → n' ≤ n → (∀ j, t = .var j → sg j = none) → (sg i = none → t = .var i) → (sg i ≠ none → n' < n) → Q r { s with heap := h', toks := tks }) :
    wpAny (model PySem.Challenge.rw_ez0159_01.row.prog w) ⟨none, dp, some fr, gd, un⟩ (call (.ref 146) [.ref (nv i), .ref d]) Q E s := by
  have XS := X.keeps B.stays
  have TS := T.keeps B.stays
  refine wpAny_call ?_
  refine' code_defT B ?X TS ?ho ?hcd ?hroom ?hb ?hl ?_ ?c1 ?c2 ?c3 ?c4
  case X => exact XS
  case ho => k_is
  case hcd => k_is
  case hroom => dsimp only; omega
  case hb => exact BindsTo.of_eq rfl
  case hl => exact locs rfl
  case c1 => exact rfl
  case c2 => exact rfl
  case c3 => exact rfl
  case c4 => decide
  intro L1 h1 hL1 F1 B1
  (try dsimp only)
  have N1 : News s.heap L1 h1 [] := News.nil
  (try k_fold)
  k_steps
  rename Fr s.heap L1 _ _ => F2
  rename News s.heap L1 _ _ => N2
  show wpAny _ _ (withItem false _ _ (pure (Value.ref _)) none _) _ _ _
  have B2 := below_re B1 B F2
  refine' with_rule (Er := TgEr w s base Ys nv sg n i u L1 (frOf B2) d (newsOf N2)) ?X ?I ?he ?hfe ?hx ?hfx ?_ ?herr
  case X => exact X.keeps B2.stays
  case I =>
    refine' InstAt.of_news N2 ?h1 ?h2
    case h1 => k_mem
    case h2 => k_mem
  case he => k_is
  case hfe => k_is
  case hx => k_is
  case hfx => k_is
  · k_steps
    refine wpAny_While ?_
    rename Fr s.heap L1 _ _ => F3
    rename News s.heap L1 _ _ => N3
    refine loop_ind (I := fun n' s' => ∃ t r m h' tk', s' = { s with heap := h', toks := tk' } ∧ Fr s.heap L1 h' m ∧ News s.heap L1 h' (newsOf N3) ∧ m (Str.ofString "key") = some r ∧ m (Str.ofString "d") = some (.ref d) ∧ MdAt w base Ys nv t r ∧ Wf 0 5 t ∧ t.depth ≤ D + 1 ∧ Wh sg n' t u ∧ n' ≤ n ∧ (sg i = none → t = .var i) ∧ (t = .var i ∨ n' < n)) ?_ n ⟨.var i, .ref (nv i), _, _, _, rfl, F3, N3, rfl, rfl, rfl, hi, Nat.le_add_left _ _, hW, Nat.le_refl _, fun _ => rfl, .inl rfl⟩
    dsimp only [newsOf]
    clear F3 N3
    rintro n' s' ⟨t, r, m, h3, tk3, rfl, F3, N3, q1, q2, hm, hw, hdp, hW2, hn', hni, hlt⟩ ih
    refine while_turn ?_
    have B3 := below_re B1 B F3
    k_steps
    refine (?_ : wpAny _ _ (compareOp .In _ _) _ _ _)
    have hdT : ∀ h' : Heap, (∀ b o, h3.get? b = some o → h'.get? b = some o) → ∃ o : Obj, h'.get? d = some o ∧ o.cls = .type "dict" := fun h' up => let ⟨⟨o, ep, a, b, c⟩, _, _⟩ := G; ⟨o, up _ _ (B3.stays _ _ a), b⟩
    have keyInj : ∀ (v v' : Value) (j : Int), (j, v) ∈ kvs → (j, v') ∈ kvs → v = v' := fun v v' j a b => by
      obtain ⟨_, hn, _⟩ := G
      obtain ⟨x, hx⟩ := List.getElem?_of_mem a
      obtain ⟨y, hy⟩ := List.getElem?_of_mem b
      have e1 : (kvs.map (·.1))[x]? = some j := by rw [List.getElem?_map, hx]; rfl
      have e2 : (kvs.map (·.1))[y]? = some j := by rw [List.getElem?_map, hy]; rfl
      have hl : x < (kvs.map (·.1)).length := (List.getElem?_eq_some_iff.mp e1).1
      have : x = y := (List.getElem?_inj hl hn).mp (e1.trans e2.symm)
      subst this
      rw [hx] at hy
      injection hy with hy
      injection hy
    refine in_dict (hdT _ fun _ _ e => e) lo ?_
    have fin : (∀ j, t = .var j → sg j = none) → (sg i ≠ none → n' < n) := fun hf hs => by
      rcases hlt with e | e
      · exact absurd (hf i e) hs
      · exact e
    by_cases hv : ∃ j, t = .var j
    · obtain ⟨j, rfl⟩ := hv
      have hr : r = .ref (nv j) := hm
      subst hr
      refine get_var w B F3 XS TS ?hk (V.keep B3.stays) (G.keep fun o e => B3.stays _ _ e) hw ?hd ?hu ?hnone ?hsome
      case hk => exact rfl
      case hd => first | omega | (dsimp only [ktrTop, Around.deeper, Around.in1]; omega)
      case hu => first | omega | (dsimp only [ktrTop, Around.deeper, Around.in1]; omega)
      case hnone =>
        intro hno h4 tk4 F4 up4
        have N4 := news_grown0 N3 up4
        have hsj : sg j = none := by
          cases e : sg j with
          | none => rfl
          | some t' => obtain ⟨v, hv⟩ := ((K j hw.1 hw.2).2 t' e).1; exact absurd hv (hno v)
        have hf : ∀ j', Tm.var j = .var j' → sg j' = none := fun j' q => by cases q; exact hsj
        have fin' := fin hf
        clear F3 N3 ih
        dsimp only [Option.isSome]
        k_steps
        rename Fr s.heap L1 _ _ => F9
        exact hret _ _ _ _ _ (Trn.of F9.keep) hm hw hW2 hn' hf hni fin'
      case hsome =>
        intro v hv h4 tk4 F4 up4
        have N4 := news_grown0 N3 up4
        have B4 := below_re B1 B F4
        dsimp only [Option.isSome]
        clear F3 N3
        obtain ⟨t', hst⟩ : ∃ t', sg j = some t' := by
          cases e : sg j with
          | none => exact absurd hv ((K j hw.1 hw.2).1 e v)
          | some t' => exact ⟨t', rfl⟩
        obtain ⟨hm', hw', hd'⟩ := ((K j hw.1 hw.2).2 t' hst).2 v hv
        obtain ⟨k, rfl, hW3⟩ : ∃ k, n' = k + 1 ∧ Wh sg k t' u := by
          cases hW2 with
          | free e => rw [e] at hst; cases hst
          | bound e h => rw [e] at hst; cases hst; exact ⟨_, rfl, h⟩
        k_steps
        have hdT4 := hdT _ up4
        refine tail_any hdT4 slot_dict_getitem.lookup (item_dict hdT4 ?_) (by with_unfolding_all rfl)
        refine get_var w B F4 XS TS ?hk (V.keep B4.stays) (G.keep fun o e => B4.stays _ _ e) hw ?hd ?hu ?hnone ?hsome
        case hk => exact rfl
        case hd => (dsimp only [ktrTop, Around.deeper, Around.in1]; omega)
        case hu => (dsimp only [ktrTop, Around.deeper, Around.in1]; omega)
        case hnone => exact fun hno => absurd hv (hno v)
        case hsome =>
          intro v' hv' h5 tk5 F5 up5
          have N5 := news_grown0 N4 up5
          obtain rfl := keyInj _ _ _ hv hv'
          refine ⟨v, rfl, ?_⟩
          clear F4 N4
          k_steps
          rename Fr s.heap L1 _ _ => F9
          rename News s.heap L1 _ _ => N9
          refine ih k _ (Nat.lt_succ_self _) ⟨t', v, _, _, _, rfl, F9, N9, if_pos rfl, (if_neg (by decide)).trans q2, hm', hw', by omega, hW3, by omega, fun e => ?_, .inr (by omega)⟩
          have := hni e
          cases this
          rw [e] at hst; cases hst
    · have hv' : ∀ j, t ≠ .var j := fun j e => hv ⟨j, e⟩
      have hf : ∀ j', t = .var j' → sg j' = none := fun j' q => absurd q (hv' j')
      have fin' := fin hf
      refine get_md w B F3 XS TS ?hk (V.keep B3.stays) (G.keep fun o e => B3.stays _ _ e) (MdAt.keep (KeepX.of fun b o e => B3.stays b o e) _ hm) hw hv' ?hd ?hu ?hnone ?hbad
      case hk => exact rfl
      case hd => first | omega | (dsimp only [ktrTop, Around.deeper, Around.in1]; omega)
      case hu => first | omega | (dsimp only [ktrTop, Around.deeper, Around.in1]; omega)
      case hnone =>
        intro h4 tk4 F4 up4
        have N4 := news_grown0 N3 up4
        clear F3 N3 ih
        dsimp only [Option.isSome]
        k_steps
        rename Fr s.heap L1 _ _ => F9
        exact hret _ _ _ _ _ (Trn.of F9.keep) hm hw hW2 hn' hf hni fin'
      case hbad =>
        intro e h4 tk4 hx
        refine noted_backT B3 rfl hx fun h5 hh => ?_
        exact ⟨e, h3, t, r, m, tk4, n', rfl, rfl, hh, F3, N3, q1, hm, hw, hW2, hn', hf, hni, fin'⟩
  case herr =>
    rintro e s₄ ⟨a, hb, t, r, m, tk', n', rfl, hs4, hh, F4, N4, q1, hm, hw, hW2, hn', hf, hni, fin'⟩
    rw [hs4]
    have B4 := below_re B1 B F4
    refine withErrT rfl hh fun h5 tb hfl => ?_
    have B5 := (hfl.trn B4).below B4
    have N5 : News s.heap L1 h5 (newsOf N4) := fun q hq => ⟨(hfl.trn B4).keep _ _ (fun hm => by
      rcases kts_mem hm with z | z
      · exact (N4 q hq).2.1 z
      · obtain ⟨_, o, ho, _⟩ := B.frames.mem z
        rw [(N4 q hq).2.2] at ho; cases ho) (N4 q hq).1, (N4 q hq).2⟩
    have I5 := InstAt.of_news N5 (by k_mem) (by k_mem)
    have HT5 : IsTup h5 _ #[Value.type "TypeError"] := ⟨_, (N5 _ (List.Mem.head _)).1, rfl, _, rfl⟩
    have X5 := X.keeps B5.stays
    have T5 := T.keeps B5.stays
    refine' code_defT (below_mark B5) X5 T5 ?ho ?hcd ?hroom ?hb ?hl ?_ ?c1 ?c2 ?c3 ?c4
    case ho => k_is
    case hcd => k_is
    case hroom => dsimp only [Around.deeper, Around.mark]; omega
    case hb => exact BindsTo.of_eq rfl
    case hl => exact locs rfl
    case c1 => exact rfl
    case c2 => exact rfl
    case c3 => exact rfl
    case c4 => decide
    intro L2 h6 hL6 F6 B6
    (try dsimp only)
    have N6 : News h5 L2 h6 [] := News.nil
    clear N5 N4
    (try k_fold)
    k_steps
    rename Fr h5 L2 _ _ => F7
    refine (?_ : wpAny _ _ (call _ _) _ _ _)
    refine subcls_tup (isTup_at HT5 fun o e => F7.keep _ _ e) ?_
    k_steps
    rename FlyT hb _ a _ _ => hfl9
    have t9 := hfl9.trn B4
    obtain ⟨g9, KT, F9, B9⟩ := t9.fr B F4
    have N9 := nilNews F9
    have X9 := X.keeps B9.stays
    have T9 := T.keeps B9.stays
    have t10 := trn_over F4 t9
    clear F7 F4 N6
    k_steps
    exact hret _ _ _ _ _ t10 hm hw hW2 hn' hf hni fin'

end Mine
end
section -- M23
open PySem PySem.W PySem.Calls PyProof.Rows
set_option maxRecDepth 100000
namespace Mine
/-- a generator object, without a dict -/
def IsGenD (h : Heap) (a : Addr) (g : Nat) : Prop := h.IsGen a g ∧ ∃ o, h.get? a = some o ∧ o.dict = none
theorem IsGenD.keep {h h' : Heap} {a : Addr} {g : Nat} (x : IsGenD h a g) (k : ∀ o, h.get? a = some o → h'.get? a = some o) : IsGenD h' a g :=
  let ⟨⟨o, nm, qn, ho, r⟩, o', ho', hd⟩ := x; ⟨⟨o, nm, qn, k _ ho, r⟩, o', k _ ho', hd⟩
/-- the code of a generator made by the def at `f`, over the frame `L` -/
def GenCode (K : Frag) (f L : Addr) (c : Code) : Prop := ∃ oc od fd osl body, K.lookup f = some ⟨oc, od, .func fd, osl⟩ ∧ fd.body = .stmts body ∧ c = .func body (callEnv fd L f)
section
variable {prog : Program} {w : World} {A : Around} {s : Shared} {K : Frag} {mg mb : Str → Option Value} {p : Program} {loose : List Str} {mean : ExcName → Option Value}
/-- a call of a generator def -/
theorem code_gen {R : Result → Shared → Prop} {name qual : Str} {params : Arguments} {body : List Stmt} {scope : Scope} {dV kV doc pm cdv ct oc : Value} {an od : Option Addr} {osl : Array (Option Value)} {f : Addr} {args : Args} {binds : List (Str × Value)}
    (X : K.In s.heap) (T : Top p loose mean mg mb s.heap)
    (ho : K.lookup f = some ⟨oc, od, .func (fnOf name qual params body scope dV kV doc pm an cdv ct), osl⟩) (hcd : codeIn K cdv qual = true) (hroom : A.depth < recursionLimit)
    (hbind : BindsTo s (fnOf name qual params body scope dV kV doc pm an cdv ct) args binds) (hloc : ∀ y ∈ binds, scope.names.lookup y.1 = some .local)
    (h : ∀ L ga c h' tk, L = s.heap.objs.size → ga = L + 1 → (∀ b o, s.heap.get? b = some o → h'.get? b = some o) → h'.Ns L (fun y => binds.reverse.lookup y) → IsGenD h' ga s.gens.size → h'.objs.size = ga + 1 → GenCode K f L c →
      R (.ok (.ret (.ref ga))) { s with heap := h', gens := s.gens.push (.fresh c), toks := tk })
    (hco : scope.isCoroutine = false) (hgen : scope.isGenerator = true) (hk : scope.kind = .function)
    (hcell : ∀ x ∈ scope.names, x.2 ≠ .cell) : codeAny (model prog w) A (.call (.ref f) args) R s := by
  refine codeAny_call_generator (fd := fnX name qual params body scope [] dV kV doc pm an cdv ct) hroom (X _ _ ho) rfl hco hgen rfl (codeRec_of X hcd) (hbind _ _ _ _ ?_)
  refine wpAny_newFunctionEnv hcell hloc (fun h₁ hns hsb => ⟨T.nolimit.fresh _ hsb, ?_⟩) hk
  have up : ∀ b o, s.heap.get? b = some o → h₁.get? b = some o := fun b o e => hsb.extBut b o (Nat.ne_of_lt (Heap.lt_size e)) (Heap.get?_push_of_some _ e)
  have hsz : h₁.objs.size = s.heap.objs.size + 1 := by rw [hsb.1, Heap.size_push]
  refine h s.heap.objs.size _ _ _ _ rfl (by dsimp only; exact hsz) (fun b o e => Heap.get?_push_of_some _ (up b o e)) ?_ ?_ (by rw [Heap.size_push]) ⟨_, _, _, _, _, ho, rfl, rfl⟩
  · obtain ⟨o, es, ep, h1, h2, h3⟩ := hns
    exact ⟨o, es, ep, Heap.get?_push_of_some _ h1, h2, h3⟩
  · exact ⟨⟨_, _, _, Heap.get?_push_size _ rfl, rfl, rfl, rfl⟩, _, Heap.get?_push_size _ rfl, rfl⟩
end
theorem fr_up {g h h' : Heap} {L : Addr} {m : Str → Option Value} (F : Fr g L h m) (k : ∀ b o, h.get? b = some o → h'.get? b = some o) : Fr g L h' m := by
  obtain ⟨⟨o, es, ep, h1, h2, h3⟩, b, c⟩ := F
  exact ⟨⟨o, es, ep, k _ _ h1, h2, h3⟩, fun x y e => k _ _ (b x y e), c⟩
end Mine
end
section -- M24
open PySem PySem.W PySem.Calls PyProof.Rows
set_option maxRecDepth 100000
namespace Mine
section
variable {M : Model} {A : Around} {R : GenEnd} {Y : Protocol} {n : Nat} {s₀ : Shared} {c : Code} {fs : List Frame} {s : Shared} {env : Env}
  {K : Flow → Sem Fin} {H : Value → Sem Fin} {gd : Bool → Bool} {lv : List Value → List Value}
theorem seg_If {test : Expr} {body orelse : List Stmt} {pos : Pos}
    (h : wpAny M (A.over c fs) (isTrue test env (eval test env)) (fun b s' => if b = true then Seg M A R Y n s₀ c ((execs body env).wrap K H gd lv) fs s' else Seg M A R Y n s₀ c ((execs orelse env).wrap K H gd lv) fs s') (fun x s' => Seg M A R Y n s₀ c (H x) fs s') s) :
    Seg M A R Y n s₀ c ((exec (.If test body orelse pos) env).wrap K H gd lv) fs s := by
  show Seg M A R Y n s₀ c (.at pos fun _ => (isTrue test env (eval test env) >>= fun b => if b = true then execs body env else execs orelse env).wrap K H gd lv) fs s
  refine seg_at ?_
  rw [Sem.bind_eq_wrap', Sem.wrap_wrap]
  refine seg_wrap (wpAny_mono h (fun b s' hb => ?_) fun _ _ x => x)
  cases b with
  | true => rw [if_pos rfl] at hb; show Seg M A R Y n s₀ c ((if true = true then _ else _ : Sem Flow).wrap K H gd lv) fs s'; rw [if_pos rfl]; exact hb
  | false => rw [if_neg Bool.false_ne_true] at hb; show Seg M A R Y n s₀ c ((if false = true then _ else _ : Sem Flow).wrap K H gd lv) fs s'; rw [if_neg Bool.false_ne_true]; exact hb
theorem seg_stmt {st : Stmt} (h : wpAny M (A.over c fs) (exec st env) (fun f s' => Seg M A R Y n s₀ c (K f) fs s') (fun x s' => Seg M A R Y n s₀ c (H x) fs s') s) : Seg M A R Y n s₀ c ((exec st env).wrap K H gd lv) fs s := seg_wrap h
/-- a yield, and what is done with the value sent -/
theorem seg_yield_then {β : Type} {e : Expr} {ypos : Pos} {C : Value → Sem β} {K : β → Sem Fin} (hfs : splitAtGen fs = none) (hgd : gd false = false) (hfg : fs.any Frame.guarded = false)
    (h : wpAny M (A.over c fs) (eval e env) (fun v s' => ∀ kap : Resume → Shared → Prop,
        (∀ x s'', Seg M A R Y n s'' c ((C x).wrap K H gd lv) fs s'' → kap (.send x) s'') → Y n s₀ v s' kap)
      (fun x s' => Seg M A R Y (n + 1) s₀ c (H x) fs s') s) (hco : env.scope.isCoroutine = false) :
    Seg M A R Y (n + 1) s₀ c ((eval (.Yield (some e) ypos) env >>= C).wrap K H gd lv) fs s := by
  show Seg M A R Y (n + 1) s₀ c (((eval e env >>= fun v => (standAt ypos >>= fun _ => yieldOut env v)) >>= C).wrap K H gd lv) fs s
  have hy : ∀ v, yieldOut env v = yieldValue v := fun v => by simp only [yieldOut, hco, Bool.false_eq_true, if_false]
  simp only [hy]
  rw [Sem.bind_eq_wrap', Sem.bind_eq_wrap', Sem.wrap_wrap, Sem.wrap_wrap]
  refine seg_wrap (wpAny_mono h (fun v s' h' => ?_) fun _ _ x => x)
  refine seg_at (seg_yield hfs hgd hfg ?_)
  exact h' _ fun x s'' hx => hx
theorem seg_Expr_Y {e : Expr} {ypos pos : Pos} (hfs : splitAtGen fs = none) (hgd : gd false = false) (hfg : fs.any Frame.guarded = false)
    (h : wpAny M (A.over c fs) (eval e env) (fun v s' => ∀ kap : Resume → Shared → Prop,
        (∀ x s'', Seg M A R Y n s'' c ((dropValue (.Yield (some e) ypos) pos x).wrap K H gd lv) fs s'' → kap (.send x) s'') → Y n s₀ v s' kap)
      (fun x s' => Seg M A R Y (n + 1) s₀ c (H x) fs s') s) (hco : env.scope.isCoroutine = false := by rfl) (hi : interactive env = false := by rfl) :
    Seg M A R Y (n + 1) s₀ c ((exec (.Expr (.Yield (some e) ypos) pos) env).wrap K H gd lv) fs s := by
  rw [exec_Expr env _ pos hi rfl]
  show Seg M A R Y (n + 1) s₀ c (.at pos fun _ => (eval (.Yield (some e) ypos) env >>= fun x => dropValue (.Yield (some e) ypos) pos x).wrap K H gd lv) fs s
  exact seg_at (seg_yield_then hfs hgd hfg h hco)
theorem seg_Assign_Y {x : Str} {e : Expr} {ypos pos pos' : Pos} (hfs : splitAtGen fs = none) (hgd : gd false = false) (hfg : fs.any Frame.guarded = false)
    (h : wpAny M (A.over c fs) (eval e env) (fun v s' => ∀ kap : Resume → Shared → Prop,
        (∀ x' s'', Seg M A R Y n s'' c ((do standAt pos'; bindName env x x'; pure .next : Sem Flow).wrap K H gd lv) fs s'' → kap (.send x') s'') → Y n s₀ v s' kap)
      (fun x s' => Seg M A R Y (n + 1) s₀ c (H x) fs s') s) (hs : swapsWith (.Yield (some e) ypos) (some (.Name x pos')) pos.line env = pure false := by rfl) (hco : env.scope.isCoroutine = false := by rfl) :
    Seg M A R Y (n + 1) s₀ c ((exec (.Assign [.Name x pos'] (.Yield (some e) ypos) pos) env).wrap K H gd lv) fs s := by
  rw [exec_Assign_Name env x pos' _ pos hs]
  show Seg M A R Y (n + 1) s₀ c (.at pos fun _ => (eval (.Yield (some e) ypos) env >>= fun v => (do standAt pos'; bindName env x v; pure .next : Sem Flow)).wrap K H gd lv) fs s
  exact seg_at (seg_yield_then hfs hgd hfg h hco)
theorem seg_For {target iter : Expr} {body orelse : List Stmt} {pos : Pos}
    (h : wpAny M (A.over c fs) (eval iter env) (fun x s₁ => wpAny M (A.over c fs) (pyIter x) (fun it s₂ => ∀ p, Seg M A R Y n s₀ (.forLoop target it body orelse env) (M.den (.forLoop target it body orelse env))
      (.ret (fun r => ((match r with | .ok f => (.pure f : Sem Flow) | .error e => .raise e).onRaise fun (x : Value) => do
        if (← field x 1) == Value.none then unsupported "frame.own-activation:exception-without-traceback"
        setFlight x env.frame).wrap K H gd lv) none (gd false) (lv []) c p [] :: fs) s₂) (fun x s' => Seg M A R Y n s₀ c (H x) fs s') s₁) (fun x s' => Seg M A R Y n s₀ c (H x) fs s') s)
    (hs : ∀ x, foldedSetIterable iter env x = pure x := by intro _; rfl) :
    Seg M A R Y n s₀ c ((exec (.For target iter body orelse pos) env).wrap K H gd lv) fs s := by
  rw [exec_For]
  show Seg M A R Y n s₀ c (.at pos fun _ => (eval iter env >>= fun v => foldedSetIterable iter env v >>= fun x => standAt iter.pos >>= fun _ => holding [x] (pyIter x) >>= fun it => runOwn (.forLoop target it body orelse env) env).wrap K H gd lv) fs s
  refine seg_at ?_
  rw [Sem.bind_eq_wrap', Sem.wrap_wrap]
  refine seg_wrap (wpAny_mono h (fun x s₁ h₁ => ?_) fun _ _ x => x)
  rw [hs x]
  show Seg M A R Y n s₀ c (.at iter.pos fun _ => (holding [x] (pyIter x) >>= fun it => runOwn (.forLoop target it body orelse env) env).wrap K H gd lv) fs s₁
  refine seg_at ?_
  rw [Sem.bind_eq_wrap', Sem.wrap_wrap]
  refine seg_wrap (wpAny_holding (wpAny_mono h₁ (fun it s₂ h₂ => ?_) fun _ _ x => x))
  exact seg_call h₂
end
section
variable {prog : Program} {w : World} {A : Around} {R : GenEnd} {Y : Protocol} {n : Nat} {s₀ : Shared} {fs : List Frame} {s : Shared} {env : Env}
/-- one turn of a for loop within a generator -/
theorem seg_forName {x : Str} {px : Pos} {it : Value} {body : List Stmt}
    (h : wpAny (model prog w) (A.over (.forLoop (.Name x px) it body [] env) fs) (pyNext it) (fun r s' => match r with
      | none => Seg (model prog w) A R Y n s₀ (.block [] env) (.pure (.done .next)) fs s'
      | some v => wpAny (model prog w) (A.over (.forLoop (.Name x px) it body [] env) fs) (storeName env x v) (fun _ s'' => Seg (model prog w) A R Y n s₀ (.forLoop (.Name x px) it body [] env) ((execs body env).wrap (fun f => match f with
            | .next | .cont => .pure (.again (.forLoop (.Name x px) it body [] env))
            | .brk => .pure (.done .next)
            | .ret v => .pure (.done (.ret v))) (fun e => (do noteFrame e env; theTreesLotGoes e : Sem Unit).wrap (fun _ => .raise e) .raise id id) id id) fs s'') (fun _ _ => False) s') (fun _ _ => False) s) :
    Seg (model prog w) A R Y n s₀ (.forLoop (.Name x px) it body [] env) ((model prog w).den (.forLoop (.Name x px) it body [] env)) fs s := by
  show Seg _ A R Y n s₀ _ ((forTurn (.Name x px) it body [] env).onRaise (fun x => do noteFrame x env; theTreesLotGoes x)) fs s
  rw [Sem.onRaise_eq_wrap]
  show Seg _ A R Y n s₀ _ (.at px fun _ => ((pyNext it).onRaise (fun _ => standAt { px with line := 0 }) >>= fun r => (match r with
      | none => again (.block [] env)
      | some v => (standAt px >>= fun _ => bindName env x v >>= fun _ => execs body env >>= fun f => (match f with
          | .next | .cont => again (.forLoop (.Name x px) it body [] env)
          | .brk => pure (.done .next)
          | .ret v => pure (.done (.ret v)) : Sem Fin)) : Sem Fin)).wrap _ _ _ _) fs s
  refine seg_at ?_
  rw [Sem.bind_eq_wrap', Sem.wrap_wrap]
  refine seg_wrap (wpAny_onRaise (wpAny_mono h (fun r s' hr => ?_) fun _ _ q => q.elim))
  cases r with
  | none => exact seg_again rfl hr
  | some v =>
    show Seg _ A R Y n s₀ _ (.at px fun _ => (bindName env x v >>= fun _ => execs body env >>= fun f => (match f with
          | .next | .cont => again (.forLoop (.Name x px) it body [] env)
          | .brk => pure (.done .next)
          | .ret v => pure (.done (.ret v)) : Sem Fin)).wrap _ _ _ _) fs s'
    refine seg_at ?_
    rw [Sem.bind_eq_wrap', Sem.wrap_wrap]
    refine seg_wrap (wpAny_bindName (wpAny_mono hr (fun _ s'' hs => ?_) fun _ _ q => q.elim))
    rw [Sem.bind_eq_wrap', Sem.wrap_wrap]
    rw [Sem.wrap_congr (execs body env) _ _ (K' := fun f => match f with
            | .next | .cont => .pure (.again (.forLoop (.Name x px) it body [] env))
            | .brk => .pure (.done .next)
            | .ret v => .pure (.done (.ret v))) (H' := (fun e => (do noteFrame e env; theTreesLotGoes e : Sem Unit).wrap (fun _ => .raise e) .raise id id))
        (fun f => by cases f <;> rfl)
        (fun e => by first | exact Sem.bind_eq_wrap _ _ | (show (do noteFrame e env; theTreesLotGoes e : Sem Unit).bind (fun _ => .raise e) = _; rw [Sem.bind_eq_wrap]))]
    exact hs
theorem drop_any {M : Model} {e : Option Expr} {yp pos : Pos} {v : Value} {Q : Flow → Shared → Prop} {E : Value → Shared → Prop} (hM : M = model prog w) (h : Q .next s) : wpAny M A (dropValue (.Yield e yp) pos v) Q E s := by
  subst hM
  cases v with
  | ref a => exact wpAny_bind (wpAny_standAt (wpAny_bind (wpAny_runValue (codeAny_builtin entry_let_go (show wpAny _ _ (ret .none) _ _ s from wpAny_pure (wpAny_pure h))))))
  | _ => exact wpAny_pure h
end
end Mine
end
section -- M25
open PySem PySem.W PySem.Calls PyProof.Rows
set_option maxRecDepth 100000
namespace Mine
theorem kind_send : builtinKind "generator.send" = some .method := by decide +kernel
theorem plain_send : plainId "generator.send" = true := by decide +kernel
theorem entry_send : entryFor table "generator.send" = some Builtin.«generator.send» := entryFor_of_tree (by kernel_rfl)
theorem split_send : splitId "generator.send" = some ("generator", "send") := by decide +kernel
theorem args_send (a v : Value) : argsOk "generator.send" ⟨[a, v], []⟩ := by unfold argsOk; kernel_rfl
theorem slot_send : Slot "generator" "send" "generator.send" :=
  .of (owner := "generator") (n := "send") (by rw [typeLookup_type, builtinLookup_eq_fast]; kernel_rfl) (by decide +kernel) (by decide +kernel) (by decide +kernel)
    (by first | exact .inl (by decide +kernel) | exact .inr (by decide +kernel)) (by rw [isSubtype_type]; kernel_rfl)
theorem type_send : typeOf (.builtin "generator.send") = pure (.type "method_descriptor") := by show builtinType _ = _; rw [builtinType_eq_fast]; kernel_rfl
theorem plainAttrs_gen : PlainAttrs "generator" := 
  ⟨⟨"object.__getattribute__", by rw [typeLookup_type, builtinLookup_eq_fast]; kernel_rfl, by decide +kernel⟩, by rw [typeLookup_type, builtinLookup_eq_fast]; kernel_rfl⟩
section
variable {prog : Program} {w : World} {A : Around} {E : Value → Shared → Prop} {s : Shared}
theorem method_send {a : Addr} {g : Nat} {pl : Sem Bool} {Q : Value × List Value → Shared → Prop} (hg : IsGenD s.heap a g) (h : Q (.builtin "generator.send", [.ref a]) s) : wpAny (model prog w) A (getMethod (.ref a) "send" pl) Q E s :=
  getMethod_builtin hg.1.typeIs plainAttrs_gen slot_send type_send (fun b e => by cases e; exact hg.2) h
theorem send_run {a : Addr} {g n : Nat} {v : Value} {gs : GenState} {R : GenEnd} {Y : Protocol} {Q : Fin → Shared → Prop} (hh : A.handled = none)
    (hl : s.heap.NoLimit) (hroom : A.depth < recursionLimit)
    (hg : s.heap.IsGen a g) (hgs : s.gens[g]? = some gs)
    (hgo : gs.Goes (model prog w) A R Y n (.send v) (s.setGen g .running))
    (hY : ∀ v' s₁ gs', gs'.bare = true → Y (n - 1) (s.setGen g .running) v' s₁ (fun r' s'' => match n with
        | 0 => False
        | m + 1 => gs'.Goes (model prog w) A R Y m r' s'') → Q (.done (.ret v')) (s₁.setGen g gs'))
    (hR : ∀ x s₁, R n (s.setGen g .running) x s₁ → x = .ok (.ret .none) ∧ ∀ e h', Heap.NewExc s₁.heap h' e "StopIteration" → E (.ref e) { s₁.setGen g .finished with heap := h' }) :
    wpAny (model prog w) A (Builtin.«generator.send» ⟨[.ref a, v], []⟩) Q E s := by
  unfold Builtin.«generator.send»
  refine wpAny_bind (m := selfAndOne _ _) (wpAny_pure ?_)
  unfold Builtin.Generator.genWake
  refine wpAny_bind (wpAny_holding (wpAny_genNumber hg (wpAny_bind (wpAny_genState hgs ?_))))
  cases gs with
  | running => exact hgo.elim
  | finished => exact hgo.elim
  | _ =>
    refine wpAny_bind (wpAny_roomToWake hl hroom ?_)
    show wpAny _ _ (.resume g (.send v) [] _) _ _ s
    refine wpAny_resumeQ hgs hgo (fun x s₁ hx => ?_) (fun v' s₁ gs' hb hv => ?_)
    · obtain ⟨rfl, hp⟩ := hR _ _ hx
      show wpAny _ _ (newExc (.type "StopIteration") [] >>= _) _ _ _
      refine wpAny_bind ?_
      simp only [newExc, newTuple]
      refine wpAny_bind (wpAny_newObj_type ?_ (by size_fits))
      refine wpAny_bind (m := firstArgMember _ _) (wpAny_of_eq (a := Value.none) (by first | rfl | (simp only [firstArgMember]; rfl)) ?_)
      refine wpAny_newObj_type ?_ (by size_fits)
      simp only [raiseNew]
      refine wpAny_bind (wpAny_bind (wpAny_handled ?_))
      rw [hh]
      refine wpAny_throw (hp _ _ ⟨fun b o hb => Heap.get?_push_of_some _ (Heap.get?_push_of_some _ hb), Heap.get?_none_of_le (by simp [Shared.setGen]), ⟨_, _, Heap.get?_push_size _ rfl, rfl, rfl⟩⟩)
    · exact wpAny_pure (hY v' s₁ gs' hb hv)
end
end Mine
end
section -- M26
open PySem PySem.W PySem.Calls PyProof.Rows
set_option maxRecDepth 100000
namespace Mine
theorem with_fd {P : Prop} {K : Frag} {f : Addr} {oc oc' : Value} {od od' : Option Addr} {fd fd' : FuncData} {osl osl' : Array (Option Value)} (h1 : K.lookup f = some ⟨oc, od, .func fd, osl⟩) (ho : K.lookup f = some ⟨oc', od', .func fd', osl'⟩) (h : fd = fd' → P) : P := by
  rw [h1] at ho
  injection ho with ho
  injection ho with _ _ q _
  injection q with q
  exact h q
/-- the first while loop of a body -/
def whileOf : List Stmt → Option (Expr × List Stmt × List Stmt)
  | [] => none
  | .While t b o _ :: _ => some (t, b, o)
  | _ :: r => whileOf r
/-- the env and the loop of `stream_eval` over the frame `L` -/
def StreamCode (K : Frag) (f L : Addr) (env : Env) (c : Code) : Prop := ∃ oc od fd osl body t b o, K.lookup f = some ⟨oc, od, .func fd, osl⟩ ∧ fd.body = .stmts body ∧ whileOf body = some (t, b, o) ∧ env = callEnv fd L f ∧ c = .whileLoop t b o env
/-- what may change: the addresses of `X` at will, the frames in their slots -/
structure Chg (X fs : List Addr) (h h' : Heap) : Prop where
  keep : ∀ b o, b ∉ X → b ∉ fs → h.get? b = some o → h'.get? b = some o
  slots : ∀ b o, b ∈ fs → h.get? b = some o → ∃ sl, h'.get? b = some { o with slots := sl }
theorem Chg.of {X fs : List Addr} {h h' : Heap} (k : ∀ b o, h.get? b = some o → h'.get? b = some o) : Chg X fs h h' := ⟨fun b o _ _ e => k b o e, fun b o _ e => ⟨o.slots, k b o e⟩⟩
theorem Chg.refl {X fs : List Addr} {h : Heap} : Chg X fs h h := .of fun _ _ e => e
theorem Chg.trans {X fs : List Addr} {h h₁ h₂ : Heap} (x : Chg X fs h h₁) (y : Chg X fs h₁ h₂) : Chg X fs h h₂ :=
  ⟨fun b o n m e => y.keep b o n m (x.keep b o n m e), fun b o m e => by
    obtain ⟨s1, h1⟩ := x.slots b o m e
    obtain ⟨s2, h2⟩ := y.slots b _ m h1
    exact ⟨s2, h2⟩⟩
theorem Chg.mono {X X' fs : List Addr} {h h' : Heap} (x : Chg X fs h h') (k : ∀ b ∈ X, b ∈ X') : Chg X' fs h h' := ⟨fun b o n m e => x.keep b o (fun q => n (k b q)) m e, x.slots⟩
theorem Chg.trn {X fs : List Addr} {h h' : Heap} (x : Trn fs h h') : Chg X fs h h' := ⟨fun b o _ m e => x.keep b o m e, x.slots⟩
theorem funFrames_slots {base h h' : Heap} : ∀ {l : List Env}, h.FunFrames base l → (∀ b ∈ frs l, ∀ o, h.get? b = some o → ∃ sl, h'.get? b = some { o with slots := sl }) → h'.FunFrames base l
  | [], _, _ => trivial
  | env :: r, ⟨hk, ⟨L, o, hf, hn, ho, hd⟩, hr⟩, k => by
    obtain ⟨sl, hs⟩ := k L (List.mem_filterMap.mpr ⟨env, List.Mem.head _, hf⟩) o ho
    refine ⟨hk, ⟨L, _, hf, hn, hs, hd⟩, funFrames_slots hr fun b hb => k b ?_⟩
    obtain ⟨e', he, hf'⟩ := List.mem_filterMap.mp hb
    exact List.mem_filterMap.mpr ⟨e', List.Mem.tail _ he, hf'⟩
/-- a change that leaves the frames' data also leaves the block below -/
theorem Chg.below {A : Around} {X : List Addr} {base h h' : Heap} {fr : List Env} (x : Chg X (frs fr) h h') (B : Below A base fr h) (hb : ∀ b ∈ X, base.get? b = none) : Below A base fr h' :=
  ⟨B.stack, fun b o e => x.keep b o (fun m => by rw [hb b m] at e; cases e) (fun m => by rw [(B.frames.mem m).1] at e; cases e) (B.stays b o e), funFrames_slots B.frames fun b hb o e => x.slots b o hb e⟩
theorem keep_all {g h h' : Heap} {L : Addr} {ex : List Addr} {m m' : Str → Option Value} {l rest : List (Addr × Obj)} (F : Fr g L h m) (cov : ∀ b o, h.get? b = some o → b ≠ L → b ∉ ex → g.get? b = none → (b, o) ∈ rest)
    (N : News g L h (l ++ rest)) (F' : Fr g L h' m') (N' : News g L h' (l ++ rest)) (hl : ex = l.map (·.1)) : KeepX [L] h h' := fun b o n e => by
  by_cases hb : b ∈ ex
  · rw [hl] at hb
    obtain ⟨q, hq, rfl⟩ := List.mem_map.mp hb
    have e1 := (N q (List.mem_append_left _ hq)).1
    rw [e] at e1; cases e1
    exact (N' q (List.mem_append_left _ hq)).1
  · exact cov_keep F cov F' (news_sub N' fun q hq => List.mem_append_right _ hq) b o (fun q => by
      rcases List.mem_cons.mp q with q | q
      · exact n (by simp [q])
      · exact hb q) e
theorem keep_some {g h h' : Heap} {L : Addr} {ex ex' : List Addr} {m m' : Str → Option Value} {rest : List (Addr × Obj)} (F : Fr g L h m) (cov : ∀ b o, h.get? b = some o → b ≠ L → b ∉ ex → g.get? b = none → (b, o) ∈ rest)
    (F' : Fr g L h' m') (N' : News g L h' rest) (hs : ∀ b ∈ L :: ex, b ∈ ex') : KeepX ex' h h' := (cov_keep F cov F' N').mono hs
theorem chg_of {L1 sl : Addr} {fs : List Addr} {h h1 h2 : Heap} (x : Trn (L1 :: fs) h h1) (k : KeepX [L1, sl] h1 h2) (hfs : ∀ b ∈ fs, b ∉ [L1, sl]) : Chg [L1, sl] fs h h2 :=
  ⟨fun b o n m e => k b o n (x.keep b o (fun q => by
    rcases List.mem_cons.mp q with q | q
    · exact n (by simp [q])
    · exact m q) e), fun b o m e => by
    obtain ⟨sl', hs⟩ := x.slots b o (List.mem_cons_of_mem _ m) e
    exact ⟨sl', k b _ (hfs b m) hs⟩⟩
theorem frs_notin {A : Around} {base g h : Heap} {fr : List Env} {L1 sl : Addr} {m : Str → Option Value} (B : Below A base fr g) (F : Fr g L1 h m) (ns : g.get? sl = none) : ∀ b ∈ frs fr, b ∉ [L1, sl] := fun b hb q => by
  obtain ⟨_, o, ho, _⟩ := B.frames.mem hb
  rcases List.mem_cons.mp q with rfl | q
  · rw [kts_self F] at ho; cases ho
  · rw [List.mem_singleton.mp q, ns] at ho; cases ho
theorem pop_at_last {prog : Program} {w : World} {A : Around} {E : Value → Shared → Prop} {s : Shared} {D : Addr} {xs : List Value} {v : Value} {n : Nat} {Q : Value → Shared → Prop} (ho : s.heap.get? D = some (W.listOf (xs ++ [v]).toArray n)) (hsz : (xs ++ [v]).toArray.size ≤ sizeLine)
    (h : ∀ h', Heap.SameBut D s.heap h' → h'.get? D = some (W.listOf xs.toArray (n + 1)) → Q v { s with heap := h' }) : wpAny (model prog w) A (call (.builtin "list.pop") [.ref D]) Q E s := by
  have hy : (xs ++ [v]).toArray[(xs ++ [v]).toArray.size - 1]? = some v := by simp
  refine call_meets PySem.F.slot_list_pop ⟨_, ho, rfl⟩ PySem.F.entry_list_pop (PySem.F.args_list_pop_1 _) (PySem.MeetsSeq.list_pop_last D _ n v hy hsz) ⟨ho, h _ (Heap.SameBut.update ..) ?_⟩
  have e : (xs ++ [v]).toArray.eraseIdxIfInBounds ((xs ++ [v]).toArray.size - 1) = xs.toArray := by
    simp [Array.eraseIdxIfInBounds]
    rw [List.eraseIdx_append_of_length_le (Nat.le_refl _)]
    simp
  have u := IsL.update (l := D) (n := n) ho (fun ys => ys.eraseIdxIfInBounds ((xs ++ [v]).toArray.size - 1))
  simp only [e] at u
  rw [if_neg (by simp)] at u
  exact u
/-- the state of the loop of `stream_eval` -/
structure LoopSt (A : Around) (base : Heap) (fr : List Env) (hid : List Addr) (L1 sl : Addr) (xs : List Value) (za zo : Value) (h : Heap) : Prop where
  ex : ∃ g m n, Fr g L1 h m ∧ Below A base fr g ∧ m (Str.ofString "stack") = some (.ref sl) ∧ m (Str.ofString "z_args") = some za ∧ m (Str.ofString "z_out") = some zo ∧ m (Str.ofString "res_filter") = some .none ∧ h.get? sl = some (W.listOf xs.toArray n) ∧ g.get? sl = none ∧ sl ≠ L1 ∧ ∀ x ∈ hid, g.get? x = none
end Mine
end
section -- N14
open PySem PySem.W PySem.Calls PyProof.Rows
set_option maxRecDepth 100000
set_option maxHeartbeats 8000000
set_option linter.unusedVariables false
namespace Mine
local macro_rules | `(tactic| walk_at "idle0") => `(tactic| fail)
local macro_rules | `(tactic| walk_at "idle1") => `(tactic| fail)
local macro_rules | `(tactic| k_all) => `(tactic| assumption)
local macro_rules | `(tactic| ktr_enter) => `(tactic| first
  | (refine' code_defG ?k1 ?k2 ?k3 ?k4 ?k5 ?kA ?kF ?kK ?k6 ?k7 ?k8 ?k9 ?kB ?_ ?c2 ?c3 ?c4 ?c5; (case kA => exact rfl); (case kF => exact rfl); (case kK => first | assumption | exact rfl); (case k1 => k_asm); (case k2 => k_asm); (case k3 => k_asm); (case k4 => first | k_asm | exact News.nil); (case k5 => k_asm); (case k6 => k_is); (case k7 => k_is); (case k8 => ktr_room); (case k9 => exact BindsTo.of_eq rfl); (case c5 => decide); (case kB => exact locs rfl); (case c2 => exact rfl); (case c3 => exact rfl); (case c4 => exact rfl))
  | (refine' code_defCG ?k1 ?k2 ?k3 ?k4 ?k5 ?kA ?kF ?kK ?k6 ?k7 ?k8 ?k9 ?kB ?kD ?_ ?c2 ?c3 ?c4; (case kA => exact rfl); (case kF => exact rfl); (case kK => first | assumption | exact rfl); (case k1 => k_asm); (case k2 => k_asm); (case k3 => k_asm); (case k4 => first | k_asm | exact News.nil); (case k5 => k_asm); (case k6 => k_is); (case k7 => k_is); (case k8 => ktr_room); (case k9 => exact BindsTo.of_eq rfl); (case kB => exact rfl); (case kD => decide +kernel); (case c2 => exact rfl); (case c3 => exact rfl); (case c4 => exact rfl)))
local macro_rules | `(tactic| k_room) => `(tactic| (first | ((try simp only [depth_under_make, depth_under_kw, depth_in1, depth_deeper, depth_caller]); decide) | (dsimp only [ktrTop, Around.deeper, Around.in1, Around.mark]; omega) | ((try simp only [depth_under_make, depth_under_kw, depth_in1, depth_deeper, depth_caller]); (try dsimp only [ktrTop, Around.deeper, Around.in1, Around.mark]); omega)))
local macro_rules | `(tactic| k_units) => `(tactic| (first | exact Nat.le_of_ble_eq_true rfl | (dsimp only [ktrTop, Around.deeper, Around.in1, Around.mark]; omega)))
local macro_rules | `(tactic| k_inst) => `(tactic| first | (refine' inst_up1 ?F ?I; (case F => k_asm); (case I => assumption)) | (refine' inst_up2 ?F2 ?F ?I; (case F2 => k_asm); (case F => k_asm); (case I => assumption)))
local macro_rules | `(tactic| walk_at "call ref") => `(tactic| (k_here; (with_reducible show wpAny _ _ (call (Value.ref 197) _) _ _ _); k_dflt (refine' isvar_use _ ?B ?F ?X ?N ?T ?k ?i ?d ?u ?_; (case B => k_asm); (case F => k_asm); (case X => k_asm); (case N => k_asm); (case T => k_asm); (case k => first | assumption | exact rfl); (case i => assumption); (case d => (dsimp only [ktrTop, Around.deeper, Around.in1, Around.mark]; omega)); (case u => (dsimp only [ktrTop, Around.deeper, Around.in1, Around.mark]; omega)); k_whole; intro h' tks' F' N' k')))
local macro_rules | `(tactic| walk_at "call ref") => `(tactic| (k_here; (with_reducible show wpAny _ _ (call (Value.ref 220) _) _ _ _); refine of_here ?_))
local macro_rules | `(tactic| walk_at "call ref") => `(tactic| (k_here; (with_reducible show wpAny _ _ (call (Value.ref 227) _) _ _ _); refine of_here ?_))
theorem isi_lt {w : World} {prog : Program} {A : Around} {E : Value → Shared → Prop} {s : Shared} {Q : Value → Shared → Prop} {g : Heap} {L a : Addr} {m : Str → Option Value} (F : Fr g L s.heap m) (c : ClsAt g a "list") (h : Q (.bool false) { s with toks := s.toks + 1 }) : wpAny (model prog w) A (call (.builtin "isinstance") [.ref a, .type "tuple"]) Q E s := let ⟨_, ho, hc⟩ := c; IsiPair.list_tuple (F.keep _ _ ho) hc h
theorem isi_dt {w : World} {prog : Program} {A : Around} {E : Value → Shared → Prop} {s : Shared} {Q : Value → Shared → Prop} {g : Heap} {L a : Addr} {m : Str → Option Value} (F : Fr g L s.heap m) (c : ClsAt g a "dict") (h : Q (.bool false) { s with toks := s.toks + 1 }) : wpAny (model prog w) A (call (.builtin "isinstance") [.ref a, .type "tuple"]) Q E s := let ⟨_, ho, hc⟩ := c; IsiPair.dict_tuple (F.keep _ _ ho) hc h
theorem isi_dl {w : World} {prog : Program} {A : Around} {E : Value → Shared → Prop} {s : Shared} {Q : Value → Shared → Prop} {g : Heap} {L a : Addr} {m : Str → Option Value} (F : Fr g L s.heap m) (c : ClsAt g a "dict") (h : Q (.bool false) { s with toks := s.toks + 1 }) : wpAny (model prog w) A (call (.builtin "isinstance") [.ref a, .type "list"]) Q E s := let ⟨_, ho, hc⟩ := c; IsiPair.dict_list (F.keep _ _ ho) hc h
local macro_rules | `(tactic| walk_at "call builtin:isinstance") => `(tactic| (k_here; (with_reducible show wpAny _ _ (call _ [Value.ref _, Value.type _]) _ _ _); k_dflt (first
  | (refine' isi_tt ?F ?c ?_; (case F => k_asm); (case c => assumption))
  | (refine' isi_lt ?F ?c ?_; (case F => k_asm); (case c => assumption)) | (refine' isi_ll ?F ?c ?_; (case F => k_asm); (case c => assumption))
  | (refine' isi_dt ?F ?c ?_; (case F => k_asm); (case c => assumption)) | (refine' isi_dl ?F ?c ?_; (case F => k_asm); (case c => assumption)) | (refine' isi_dd ?F ?c ?_; (case F => k_asm); (case c => assumption)))))
def Kd.ty : Kd → String | .row => "tuple" | .lst => "list" | .dct => "dict"
/-- a generator call, within a walk -/
theorem gen_in {w : World} {A : Around} {s : Shared} {mg mb : Str → Option Value} {p : Program} {loose : List Str} {mean : ExcName → Option Value} {g₀ : Heap} {L₁ : Addr} {m : Str → Option Value} {Q E : Value → Shared → Prop}
    {name qual : Str} {params : Arguments} {body : List Stmt} {scope : Scope} {dV kV doc pm cdv ct oc : Value} {an od : Option Addr} {osl : Array (Option Value)} {f : Addr} {vals : List Value} {binds : List (Str × Value)} {news : List (Addr × Obj)}
    (F : Fr g₀ L₁ s.heap m) (N : News g₀ L₁ s.heap news) (X : (Mine.hd.heap_39 w.params).In g₀) (T : Top p loose mean mg mb g₀)
    (ho : (Mine.hd.heap_39 w.params).lookup f = some ⟨oc, od, .func (fnOf name qual params body scope dV kV doc pm an cdv ct), osl⟩) (hcd : codeIn (Mine.hd.heap_39 w.params) cdv qual = true) (hroom : A.depth < recursionLimit)
    (hbind : BindsTo s (fnOf name qual params body scope dV kV doc pm an cdv ct) ⟨vals, []⟩ binds) (hloc : ∀ y ∈ binds, scope.names.lookup y.1 = some .local)
    (h : ∀ L ga c h' tk oL oga, (∀ h'' : Heap, h''.get? L = some oL → h''.Ns L (fun y => binds.reverse.lookup y)) → (∀ h'' : Heap, h''.get? ga = some oga → IsGenD h'' ga s.gens.size) → GenCode (Mine.hd.heap_39 w.params) f L c → L < ga → g₀.objs.size ≤ L →
      Fr g₀ L₁ h' m → News g₀ L₁ h' ((ga, oga) :: (L, oL) :: news) →
      Q (.ref ga) { s with heap := h', gens := s.gens.push (.fresh c), toks := tk })
    (hco : scope.isCoroutine = false) (hgen : scope.isGenerator = true) (hk : scope.kind = .function)
    (hcell : ∀ x ∈ scope.names, x.2 ≠ .cell) : wpAny (model PySem.Challenge.rw_ez0159_01.row.prog w) A (call (.ref f) vals) Q E s := by
  refine wpAny_call (code_gen (X.keeps F.keep) (T.keeps F.keep) ho hcd hroom hbind hloc (fun L ga c h' tk hL hga up hns hgn hsz hc => ?_) hco hgen hk hcell)
  obtain ⟨⟨o1, nm, qn, e1, e2, e3, e4⟩, o3, e8, e9⟩ := id hgn
  rw [e1] at e8
  cases e8
  obtain ⟨o2, es, ep, e5, e6⟩ := id hns
  have nz : g₀.get? L = none := by
    cases q : g₀.get? L with
    | none => rfl
    | some o => exact absurd (Heap.lt_size (F.keep _ _ q)) (by rw [hL]; exact Nat.lt_irrefl _)
  have nz2 : g₀.get? ga = none := by
    cases q : g₀.get? ga with
    | none => rfl
    | some o => exact absurd (Heap.lt_size (F.keep _ _ q)) (by rw [hga, hL]; exact Nat.not_lt.mpr (Nat.le_succ _))
  obtain ⟨oo, _, _, e7, _⟩ := F.ns
  have lt := Heap.lt_size e7
  exact h L ga c h' tk o2 o1 (fun h'' q => ⟨o2, es, ep, q, e6⟩) (fun h'' q => ⟨⟨o1, nm, qn, q, e2, e3, e4⟩, o1, q, e9⟩) hc (by rw [hga]; exact Nat.lt_succ_self _) (Nat.le_trans F.above (Nat.le_of_lt (by rw [hL]; exact lt))) (fr_up F up)
    (news_cons e1 (by rw [hga, hL]; exact Nat.ne_of_gt (Nat.lt_succ_of_lt lt)) nz2 (news_cons e5 (by rw [hL]; exact Nat.ne_of_gt lt) nz (News.grown N up)))
/-- a new `Generator` over a new generator of the def at `f` -/
def MadeGen (w : World) (s s' : Shared) (v : Value) (f : Addr) (P : (Str → Option Value) → Prop) : Prop :=
  ∃ G dG ga Lg c tk m h' tk', v = .ref G ∧ s' = { s with heap := h', gens := s.gens.push (.fresh c), toks := tk' } ∧ (∀ b o, s.heap.get? b = some o → h'.get? b = some o) ∧
    W.InstAt h' G (instObj 38 dG) 38 (some (dictOf [⟨PyData.keyHash w.params (Str.ofString "rows"), .str (Str.ofString "rows") tk, .ref ga⟩] 1)) ∧ IsGenD h' ga s.gens.size ∧ GenCode (Mine.hd.heap_39 w.params) f Lg c ∧ h'.Ns Lg m ∧ P m ∧
    s.heap.objs.size ≤ Lg ∧ Lg < ga ∧ Lg < dG ∧ dG < G
theorem made_of {w : World} {s : Shared} {L1 x dx ga L2 : Addr} {oga oL2 : Obj} {tk tk' : Tok} {h : Heap} {m1 m : Str → Option Value} {rest : List (Addr × Obj)} {c : Code} {f : Addr} {P : (Str → Option Value) → Prop}
    (F : Fr s.heap L1 h m1) (N : News s.heap L1 h ((x, instObj 38 dx) :: (dx, dictOf [⟨PyData.keyHash w.params (Str.ofString "rows"), .str (Str.ofString "rows") tk, .ref ga⟩] 1) :: (ga, oga) :: (L2, oL2) :: rest))
    (hns : ∀ h'' : Heap, h''.get? L2 = some oL2 → h''.Ns L2 m) (hgn : ∀ h'' : Heap, h''.get? ga = some oga → IsGenD h'' ga s.gens.size) (hc : GenCode (Mine.hd.heap_39 w.params) f L2 c) (hlt : L2 < ga) (hz : s.heap.objs.size ≤ L2) (l1 : L2 < dx) (l2 : dx < x) (hP : P m) :
    MadeGen w s { s with heap := h, gens := s.gens.push (.fresh c), toks := tk' } (.ref x) f P :=
  ⟨x, dx, ga, L2, c, tk, m, h, tk', rfl, rfl, F.keep, InstAt.of_news N (List.Mem.head _) (List.Mem.tail _ (List.Mem.head _)), hgn _ (N _ (List.Mem.tail _ (List.Mem.tail _ (List.Mem.head _)))).1, hc, hns _ (N _ (List.Mem.tail _ (List.Mem.tail _ (List.Mem.tail _ (List.Mem.head _))))).1, hP, hz, hlt, l1, l2⟩
theorem reify_c (w : World) {p : Program} {loose : List Str} {mean : ExcName → Option Value} {mg mb : Str → Option Value}
    {dp un : Nat} {gd : Option (List Code)} {fr : List Env} {base : Heap} {s : Shared} {nv : Int → Addr} {d : Addr} {Ys : List Addr} {u : Tm} {r : Value} {Q E : Value → Shared → Prop}
    (B : Below ⟨none, dp, some fr, gd, un⟩ base fr s.heap) (X : (Mine.hd.heap_39 w.params).In base) (T : Top p loose mean mg mb base)
    (V : VarAt w s.heap nv) (hm : MdAt w s.heap Ys nv u r) (hw : Wf 0 5 u)
    (hd : dp + 10 < recursionLimit) (hu : un + 100 < cLine)
    (hnum : ∀ n, u = .num n → ∀ h' tks, (∀ b o, s.heap.get? b = some o → h'.get? b = some o) → Q r { s with heap := h', toks := tks })
    (hvar : ∀ i, u = .var i → ∀ v s', MadeGen w s s' v 220 (fun m => m (Str.ofString "o") = some (.ref (nv i)) ∧ m (Str.ofString "s") = some (.ref d)) → Q v s')
    (hnode : ∀ kd ts, u = .node kd ts → ∀ v s', MadeGen w s s' v 227 (fun m => m (Str.ofString "ctor") = some (.type kd.ty) ∧ m (Str.ofString "t") = some r ∧ m (Str.ofString "s") = some (.ref d)) → Q v s') :
    wpAny (model PySem.Challenge.rw_ez0159_01.row.prog w) ⟨none, dp, some fr, gd, un⟩ (call (.ref 213) [r, .ref d]) Q E s := by
  have XS := X.keeps B.stays
  have TS := T.keeps B.stays
  refine wpAny_call ?_
  refine' code_defT B ?X TS ?ho ?hcd ?hroom ?hb ?hl ?_ ?c1 ?c2 ?c3 ?c4
  case X => exact XS
  case ho => k_is
  case hcd => k_is
  case hroom => dsimp only; omega
  case hb => exact BindsTo.of_eq rfl
  case hl => exact locs rfl
  case c1 => exact rfl
  case c2 => exact rfl
  case c3 => exact rfl
  case c4 => decide
  intro L1 h1 hL1 F1 B1
  (try dsimp only)
  have N1 : News s.heap L1 h1 [] := News.nil
  (try k_fold)
  cases u with
  | num n =>
    obtain ⟨t, rfl⟩ := hm
    have hiv : IsVarIs w s.heap (.int n t) false := isvar_int
    k_steps
    rename Fr s.heap L1 _ _ => F9
    exact hnum n rfl _ _ F9.keep
  | var i =>
    have hr : r = .ref (nv i) := hm
    subst hr
    obtain ⟨dv, u1, u2, I⟩ := V i hw.1 hw.2
    have hiv : IsVarIs w s.heap (.ref (nv i)) true := isvar_var I
    k_steps
    refine (?_ : wpAny _ _ (call _ _) _ _ _)
    refine' gen_in ?F ?N ?X ?T ?ho ?hcd ?hroom ?hb ?hl ?_ ?c1 ?c2 ?c3 ?c4
    case F => k_asm
    case N => k_asm
    case X => exact XS
    case T => exact TS
    case ho => k_is
    case hcd => k_is
    case hroom => dsimp only [Around.deeper]; omega
    case hb => exact BindsTo.of_eq rfl
    case hl => exact locs rfl
    case c1 => exact rfl
    case c2 => exact rfl
    case c3 => exact rfl
    case c4 => decide
    intro L2 ga c2 h2 tk2 oL2 oga2 hns2 hgn2 hc2 hlt2 hnz2 F2 N2
    k_steps
    rename Fr s.heap L1 _ _ => F9
    rename News s.heap L1 _ _ => N9
    exact hvar i rfl _ _ (made_of F9 N9 hns2 hgn2 hc2 hlt2 hnz2 (by first | exact And.right (by assumption) | exact And.left (And.right (by assumption))) (by assumption) ⟨rfl, rfl⟩)
  | node kd ts =>
    obtain ⟨rr, ys, rfl, nr, hmk, hys⟩ := hm
    have hiv : IsVarIs w s.heap (.ref rr) false := isvar_mk hmk
    have hcl := hmk.cls
    cases kd
    all_goals (dsimp only at hcl)
    · k_steps
      refine (?_ : wpAny _ _ (call _ _) _ _ _)
      refine' gen_in ?F ?N ?X ?T ?ho ?hcd ?hroom ?hb ?hl ?_ ?c1 ?c2 ?c3 ?c4
      case F => k_asm
      case N => k_asm
      case X => exact XS
      case T => exact TS
      case ho => k_is
      case hcd => k_is
      case hroom => dsimp only [Around.deeper]; omega
      case hb => exact BindsTo.of_eq rfl
      case hl => exact locs rfl
      case c1 => exact rfl
      case c2 => exact rfl
      case c3 => exact rfl
      case c4 => decide
      intro L2 ga c2 h2 tk2 oL2 oga2 hns2 hgn2 hc2 hlt2 hnz2 F2 N2
      k_steps
      rename Fr s.heap L1 _ _ => F9
      rename News s.heap L1 _ _ => N9
      exact hnode _ ts rfl _ _ (made_of F9 N9 hns2 hgn2 hc2 hlt2 hnz2 (by first | exact And.right (by assumption) | exact And.left (And.right (by assumption))) (by assumption) ⟨rfl, rfl, rfl⟩)
    · k_steps
      refine (?_ : wpAny _ _ (call _ _) _ _ _)
      refine' gen_in ?F ?N ?X ?T ?ho ?hcd ?hroom ?hb ?hl ?_ ?c1 ?c2 ?c3 ?c4
      case F => k_asm
      case N => k_asm
      case X => exact XS
      case T => exact TS
      case ho => k_is
      case hcd => k_is
      case hroom => dsimp only [Around.deeper]; omega
      case hb => exact BindsTo.of_eq rfl
      case hl => exact locs rfl
      case c1 => exact rfl
      case c2 => exact rfl
      case c3 => exact rfl
      case c4 => decide
      intro L2 ga c2 h2 tk2 oL2 oga2 hns2 hgn2 hc2 hlt2 hnz2 F2 N2
      k_steps
      rename Fr s.heap L1 _ _ => F9
      rename News s.heap L1 _ _ => N9
      exact hnode _ ts rfl _ _ (made_of F9 N9 hns2 hgn2 hc2 hlt2 hnz2 (by first | exact And.right (by assumption) | exact And.left (And.right (by assumption))) (by assumption) ⟨rfl, rfl, rfl⟩)
    · k_steps
      refine (?_ : wpAny _ _ (call _ _) _ _ _)
      refine' gen_in ?F ?N ?X ?T ?ho ?hcd ?hroom ?hb ?hl ?_ ?c1 ?c2 ?c3 ?c4
      case F => k_asm
      case N => k_asm
      case X => exact XS
      case T => exact TS
      case ho => k_is
      case hcd => k_is
      case hroom => dsimp only [Around.deeper]; omega
      case hb => exact BindsTo.of_eq rfl
      case hl => exact locs rfl
      case c1 => exact rfl
      case c2 => exact rfl
      case c3 => exact rfl
      case c4 => decide
      intro L2 ga c2 h2 tk2 oL2 oga2 hns2 hgn2 hc2 hlt2 hnz2 F2 N2
      k_steps
      rename Fr s.heap L1 _ _ => F9
      rename News s.heap L1 _ _ => N9
      exact hnode _ ts rfl _ _ (made_of F9 N9 hns2 hgn2 hc2 hlt2 hnz2 (by first | exact And.right (by assumption) | exact And.left (And.right (by assumption))) (by assumption) ⟨rfl, rfl, rfl⟩)

end Mine
end
section -- N15
open PySem PySem.W PySem.Calls PyProof.Rows
set_option maxRecDepth 100000
set_option maxHeartbeats 8000000
set_option linter.unusedVariables false
namespace Mine
local macro_rules | `(tactic| k_all) => `(tactic| assumption)
local macro_rules | `(tactic| ktr_enter) => `(tactic| first
  | (refine' code_defG ?k1 ?k2 ?k3 ?k4 ?k5 ?kA ?kF ?kK ?k6 ?k7 ?k8 ?k9 ?kB ?_ ?c2 ?c3 ?c4 ?c5; (case kA => exact rfl); (case kF => exact rfl); (case kK => first | assumption | exact rfl); (case k1 => k_asm); (case k2 => k_asm); (case k3 => k_asm); (case k4 => first | k_asm | exact News.nil); (case k5 => k_asm); (case k6 => k_is); (case k7 => k_is); (case k8 => ktr_room); (case k9 => exact BindsTo.of_eq rfl); (case c5 => decide); (case kB => exact locs rfl); (case c2 => exact rfl); (case c3 => exact rfl); (case c4 => exact rfl))
  | (refine' code_defCG ?k1 ?k2 ?k3 ?k4 ?k5 ?kA ?kF ?kK ?k6 ?k7 ?k8 ?k9 ?kB ?kD ?_ ?c2 ?c3 ?c4; (case kA => exact rfl); (case kF => exact rfl); (case kK => first | assumption | exact rfl); (case k1 => k_asm); (case k2 => k_asm); (case k3 => k_asm); (case k4 => first | k_asm | exact News.nil); (case k5 => k_asm); (case k6 => k_is); (case k7 => k_is); (case k8 => ktr_room); (case k9 => exact BindsTo.of_eq rfl); (case kB => exact rfl); (case kD => decide +kernel); (case c2 => exact rfl); (case c3 => exact rfl); (case c4 => exact rfl)))
local macro_rules | `(tactic| k_room) => `(tactic| (first | ((try simp only [depth_under_make, depth_under_kw, depth_in1, depth_deeper, depth_caller]); decide) | (dsimp only [ktrTop, Around.deeper, Around.in1, Around.mark]; omega) | ((try simp only [depth_under_make, depth_under_kw, depth_in1, depth_deeper, depth_caller]); (try dsimp only [ktrTop, Around.deeper, Around.in1, Around.mark]); omega)))
local macro_rules | `(tactic| k_units) => `(tactic| (first | exact Nat.le_of_ble_eq_true rfl | (dsimp only [ktrTop, Around.deeper, Around.in1, Around.mark]; omega)))
local macro_rules | `(tactic| k_inst) => `(tactic| first | (refine' inst_up1 ?F ?I; (case F => k_asm); (case I => assumption)) | (refine' inst_up2 ?F2 ?F ?I; (case F2 => k_asm); (case F => k_asm); (case I => assumption)))
local macro_rules | `(tactic| walk_at "eval Name") => `(tactic| (k_here; k_dflt (refine' ld ?k1 ?k2 ?_; (case k1 => k_asm); (case k2 => assumption))))
local macro_rules | `(tactic| walk_at "exec Try") => `(tactic| (k_here; refine of_here ?_))
local macro_rules | `(tactic| walk_at "call builtin:generator.send") => `(tactic| (k_here; refine of_here ?_))
local macro_rules | `(tactic| walk_at "call builtin:isinstance") => `(tactic| (k_here; (with_reducible show wpAny _ _ (call _ [_, Value.ref 38]) _ _ _); refine of_here ?_))
/-- what isinstance says of a value and the class of generators -/
def IsGIs (w : World) (Xs : List Addr) (h : Heap) (v : Value) (b : Bool) : Prop := ∀ {A : Around} {E Q : Value → Shared → Prop} {s : Shared}, KeepX Xs h s.heap → (Mine.hd.heap_39 w.params).In s.heap → (∀ tk, Q (.bool b) { s with toks := tk }) →
  wpAny (model PySem.Challenge.rw_ez0159_01.row.prog w) A (call (.builtin "isinstance") [v, .ref 38]) Q E s
/-- what a send may give -/
def SendQ (w : World) (A A' : Around) (base : Heap) (fr : List Env) (hid : List Addr) (L1 sl : Addr) (xs : List Value) (za zo : Value) (C : Code) (R : Result → Shared → Prop) (fin : Fin) (s2 : Shared) : Prop :=
  ∃ v, fin = .done (.ret v) ∧ LoopSt A base fr hid L1 sl xs za zo s2.heap ∧
    ((IsGIs w [L1, sl] s2.heap v true ∧ ∀ h3 tk3, KeepX [L1, sl] s2.heap h3 → LoopSt A base fr hid L1 sl (xs ++ [v]) .none v h3 → codeAny (model PySem.Challenge.rw_ez0159_01.row.prog w) A' C R { s2 with heap := h3, toks := tk3 }) ∨
     (IsGIs w [L1, sl] s2.heap v false ∧ ∀ h3 tk3, KeepX [L1, sl] s2.heap h3 → LoopSt A base fr hid L1 sl xs v v h3 → codeAny (model PySem.Challenge.rw_ez0159_01.row.prog w) A' C R { s2 with heap := h3, toks := tk3 }))
def SendE (w : World) (A A' : Around) (base : Heap) (fr : List Env) (hid : List Addr) (L1 sl : Addr) (xs : List Value) (top : Value) (za zo : Value) (C : Code) (R : Result → Shared → Prop) (e : Value) (s2 : Shared) : Prop :=
  ∃ a hb, e = .ref a ∧ hb.NewExc s2.heap a "StopIteration" ∧ LoopSt A base fr hid L1 sl (xs ++ [top]) za zo hb ∧ ∀ h3 tk3, Chg [L1, sl] (frs fr) hb h3 → LoopSt A base fr hid L1 sl xs za zo h3 → codeAny (model PySem.Challenge.rw_ez0159_01.row.prog w) A' C R { s2 with heap := h3, toks := tk3 }
theorem turn_c (w : World) {p : Program} {loose : List Str} {mean : ExcName → Option Value} {mg mb : Str → Option Value}
    {dp un : Nat} {gd : Option (List Code)} {fr : List Env} {base : Heap} {s : Shared} {hid : List Addr} {L1 sl G dG ga : Addr} {tk : Tok} {xs : List Value} {za zo : Value} {env : Env} {C : Code} {R : Result → Shared → Prop}
    (X : (Mine.hd.heap_39 w.params).In base) (T : Top p loose mean mg mb base) (hC : StreamCode (Mine.hd.heap_39 w.params) 206 L1 env C)
    (S : LoopSt ⟨none, dp, some fr, gd, un⟩ base fr hid L1 sl (xs ++ [Value.ref G]) za zo s.heap) (hlen : xs.length ≤ 1000)
    (I : W.InstAt s.heap G (instObj 38 dG) 38 (some (dictOf [⟨PyData.keyHash w.params (Str.ofString "rows"), .str (Str.ofString "rows") tk, .ref ga⟩] 1)))
    {gno : Nat} (hgen : IsGenD s.heap ga gno) (oG : G ∈ hid ∨ L1 < G) (odG : dG ∈ hid ∨ L1 < dG) (oga : ga ∈ hid ∨ L1 < ga) (ndL : dG ≠ L1)
    (hsend : ∀ h1 tk1, KeepX [L1] s.heap h1 → LoopSt ⟨none, dp, some fr, gd, un⟩ base fr hid L1 sl (xs ++ [Value.ref G]) za zo h1 →
      wpAny (model PySem.Challenge.rw_ez0159_01.row.prog w) ⟨none, dp + 1, some (env :: fr), gd, un + 3 + 1⟩ (Builtin.«generator.send» ⟨[.ref ga, za], []⟩)
        (SendQ w ⟨none, dp, some fr, gd, un⟩ ((⟨none, dp, some fr, gd, un⟩ : Around).deeper env) base fr hid L1 sl (xs ++ [Value.ref G]) za zo C R)
        (SendE w ⟨none, dp, some fr, gd, un⟩ ((⟨none, dp, some fr, gd, un⟩ : Around).deeper env) base fr hid L1 sl xs (Value.ref G) za zo C R) { s with heap := h1, toks := tk1 })
    (hd : dp + 20 < recursionLimit) (hu : un + 100 < cLine) :
    codeAny (model PySem.Challenge.rw_ez0159_01.row.prog w) ((⟨none, dp, some fr, gd, un⟩ : Around).deeper env) C R s := by
  obtain ⟨oc, od, fd, osl, body, t, b, o, h1, h2, h3, rfl, rfl⟩ := hC
  refine' with_fd h1 ?ho ?_
  case ho => k_is
  intro e
  subst e
  clear h1
  cases h2
  simp only [whileOf] at h3
  cases h3
  obtain ⟨g, m, n, F, B, q1, q2, q3, q4, hst, nsl, nL, hh⟩ := S.ex
  have up : ∀ x, L1 < x → g.get? x = none := fun x hx => Heap.get?_none_of_le (Nat.le_trans F.above (Nat.le_of_lt hx))
  have zG : g.get? G = none := oG.elim (hh _) (up _)
  have zdG : g.get? dG = none := odG.elim (hh _) (up _)
  have eG := I.at_
  have edG : s.heap.get? dG = some _ := I.dict
  have nG : G ≠ L1 := fun q => by
    obtain ⟨oo, es, ep, a, b, _⟩ := F.ns
    rw [← q, eG] at a; cases a; cases b
  have zga : g.get? ga = none := oga.elim (hh _) (up _)
  obtain ⟨oo, hoo, hod⟩ := hgen.2
  have nga : ga ≠ L1 := fun q => by
    obtain ⟨⟨o2, nm, qn, a2, c2, d2, _⟩, _⟩ := hgen
    obtain ⟨oo, es, ep, a, b, _⟩ := F.ns
    rw [← q, a2] at a; cases a; rw [d2] at b; cases b
  obtain ⟨rest, hrest, hex, hcov⟩ := coverage g s.heap L1 [sl, G, dG, ga]
  have N : News g L1 s.heap ((sl, W.listOf (xs ++ [Value.ref G]).toArray n) :: (G, instObj 38 dG) :: (dG, dictOf [⟨PyData.keyHash w.params (Str.ofString "rows"), .str (Str.ofString "rows") tk, .ref ga⟩] 1) :: (ga, oo) :: rest) :=
    news_cons hst nL nsl (news_cons eG nG zG (news_cons edG ndL zdG (news_cons hoo nga zga hrest)))
  have FK := fun h' m' (F' : Fr g L1 h' m') N' => keep_all (h' := h') (l := [(sl, W.listOf (xs ++ [Value.ref G]).toArray n), (G, instObj 38 dG), (dG, dictOf [⟨PyData.keyHash w.params (Str.ofString "rows"), .str (Str.ofString "rows") tk, .ref ga⟩] 1), (ga, oo)]) F hcov N F' N' rfl
  have XG := X.keeps B.stays
  have TG := T.keeps B.stays
  refine (?_ : codeAny _ (Around.deeper _ (envOf _ _ _ _ _)) (.whileLoop _ _ _ (envOf _ _ _ _ _)) _ _)
  refine while_turn ?_
  k_steps
  refine wpAny_truthy_list ⟨_, hst, rfl, n, rfl⟩ (by simp; omega) ?_
  rw [if_pos (by simp)]
  have hidx : (xs ++ [Value.ref G]).toArray[(-1 + ((xs ++ [Value.ref G]).toArray.size : Int)).toNat]? = some (Value.ref G) := by
    have e : (-1 + ((xs.length : Int) + 1)).toNat = xs.length := by omega
    simp [e]
  have hl : s.heap.IsList sl (xs ++ [Value.ref G]).toArray := ⟨_, hst, rfl, n, rfl⟩
  k_steps
  refine tail_any hl.typeIs slot_list_getitem.lookup (wpAny_getItem_list_neg (x := Value.ref G) hl (by decide) (by simp; omega) (by decide) hidx ?_) (by with_unfolding_all rfl)
  k_steps
  refine wpAny_Try_except ?_
  k_steps
  rename Fr g L1 _ _ => F2
  rename News g L1 _ _ => N2
  have hgen2 := hgen.keep (fun o e => by rw [hoo] at e; cases e; exact (N2 (ga, oo) (by simp)).1)
  refine method_send hgen2 ?_
  k_steps
  refine (?_ : wpAny _ _ (call _ _) _ _ _)
  refine wpAny_call_entry slot_send hgen2.1.typeIs entry_send ?_ (args_send _ _)
  have U := FK _ _ F2 N2
  have hst2 := (N2 _ (List.Mem.head _)).1
  have S1 : LoopSt ⟨none, dp, some fr, gd, un⟩ base fr hid L1 sl (xs ++ [Value.ref G]) za zo _ := ⟨g, _, n, F2, B, (if_neg (by decide)).trans q1, (if_neg (by decide)).trans q2, (if_neg (by decide)).trans q3, (if_neg (by decide)).trans q4, hst2, nsl, nL, hh⟩
  refine wpAny_mono (hsend _ _ U S1) (fun fin s2 hq => ?_) (fun e s2 he => ?_)
  · obtain ⟨v, rfl, S2, hv⟩ := hq
    refine ⟨v, rfl, ?_⟩
    obtain ⟨h2, gs2, dr2, tk2, os2⟩ := s2
    obtain ⟨g3, m3, n3, F3, B3, p1, p2, p3, p4, hst3, nsl3, nL3, hh3⟩ := S2.ex
    obtain ⟨rest3, hrest3, hex3, hcov3⟩ := coverage g3 h2 L1 [sl]
    have N3 : News g3 L1 h2 ((sl, W.listOf (xs ++ [Value.ref G]).toArray n3) :: rest3) := news_cons hst3 nL3 nsl3 hrest3
    have XG3 := X.keeps B3.stays
    have TG3 := T.keeps B3.stays
    have FK3 := fun h' m' (F' : Fr g3 L1 h' m') N' => keep_all (h' := h') (l := [(sl, W.listOf (xs ++ [Value.ref G]).toArray n3)]) F3 hcov3 N3 F' N' rfl
    have FC3 := fun h' m' (F' : Fr g3 L1 h' m') N' => keep_some (h' := h') (ex' := [L1, sl]) F3 hcov3 F' N' (by simp)
    clear hsend F2 N2
    k_steps
    rename Fr g3 L1 _ _ => F4
    rename News g3 L1 _ _ => N4
    have U4 := FK3 _ _ F4 N4
    refine (?_ : wpAny _ _ (call _ _) _ _ _)
    rcases hv with ⟨hi, hk⟩ | ⟨hi, hk⟩
    · refine hi (U4.mono fun b hb => by simp at hb; simp [hb]) (XG3.keeps F4.keep) fun tk4 => ?_
      k_steps
      rename Fr g3 L1 _ _ => Fa
      rename News g3 L1 _ _ => Na
      have hz : (xs ++ [Value.ref G]).toArray.size ≤ sizeLine := by
        have : (1001 : Nat) ≤ sizeLine := by rw [sizeLine_eq]; decide
        simp
        omega
      refine append_K Fa Na (.head (rest_ne hex3 (by simp))) (hsz := hz) ?_
      intro h5 F5 N5
      k_steps
      rename Fr g3 L1 _ _ => F6
      rename News g3 L1 _ _ => N6
      have e : ((xs ++ [Value.ref G]).toArray.push v) = (xs ++ [Value.ref G] ++ [v]).toArray := by simp
      have hst6 := (N6 _ (List.Mem.head _)).1
      rw [e] at hst6
      exact hk _ _ (FC3 _ _ F6 (news_sub N6 fun q hq => List.mem_cons_of_mem _ hq)) ⟨g3, _, _, F6, B3, (if_neg (by decide)).trans ((if_neg (by decide)).trans p1), if_pos rfl, (if_neg (by decide)).trans (if_pos rfl), (if_neg (by decide)).trans ((if_neg (by decide)).trans p4), hst6, nsl3, nL3, hh3⟩
    · refine hi (U4.mono fun b hb => by simp at hb; simp [hb]) (XG3.keeps F4.keep) fun tk4 => ?_
      k_steps
      rename Fr g3 L1 _ _ => F6
      rename News g3 L1 _ _ => N6
      have hst6 := (N6 _ (List.Mem.head _)).1
      exact hk _ _ (FC3 _ _ F6 (news_sub N6 fun q hq => List.mem_cons_of_mem _ hq)) ⟨g3, _, _, F6, B3, (if_neg (by decide)).trans ((if_neg (by decide)).trans p1), if_pos rfl, (if_neg (by decide)).trans (if_pos rfl), (if_neg (by decide)).trans ((if_neg (by decide)).trans p4), hst6, nsl3, nL3, hh3⟩
  · obtain ⟨a, hb, rfl, hx, S2, hk⟩ := he
    obtain ⟨h2, gs2, dr2, tk2, os2⟩ := s2
    obtain ⟨g3, m3, n3, F3, B3, p1, p2, p3, p4, hst3, nsl3, nL3, hh3⟩ := S2.ex
    clear hsend F2 N2
    refine note_newT (B3.push F3 rfl) rfl hx fun h5 hh5 => ?_
    refine landT hh5 fun h6 hf6 => ?_
    have t6 := hf6.trn (B3.push F3 rfl)
    obtain ⟨g6, KT6, F6, B6⟩ := t6.fr B3 F3
    have N6 := nilNews F6
    have XG6 := X.keeps B6.stays
    have TG6 := T.keeps B6.stays
    refine wpAny_handleBy_builtin (T := "StopIteration") (X := "StopIteration") (b := true) (by rw [isSubtype_type]; kernel_rfl) (by rw [isSubtype_type]; kernel_rfl) (by rw [isSubtype_type]; kernel_rfl) ?_
    k_steps
    · exact hf6.there
    refine clearT hf6 fun h7 hf7 => ?_
    clear XG6 TG6 KT6 t6
    have t7 := hf7.trn (B3.push F3 rfl)
    obtain ⟨g7, KT7, F7, B7⟩ := t7.fr B3 F3
    have XG7 := X.keeps B7.stays
    have TG7 := T.keeps B7.stays
    have nsl7 := KT7.none_ _ nsl3
    have hst7 : h7.get? sl = some (W.listOf (xs ++ [Value.ref G]).toArray n3) := t7.keep _ _ (fun hm => by
      rcases kts_mem hm with z | z
      · exact nL3 z
      · obtain ⟨_, o, ho, _⟩ := B3.frames.mem z
        rw [nsl3] at ho; cases ho) hst3
    obtain ⟨rest7, hrest7, hex7, hcov7⟩ := coverage g7 h7 L1 [sl]
    have N7 : News g7 L1 h7 ((sl, W.listOf (xs ++ [Value.ref G]).toArray n3) :: rest7) := news_cons hst7 nL3 nsl7 hrest7
    have FC7 := fun h' m' (F' : Fr g7 L1 h' m') N' => keep_some (h' := h') (ex' := [L1, sl]) F7 hcov7 F' N' (by simp)
    have hfn := frs_notin B7 F7 nsl7
    have hz : (xs ++ [Value.ref G]).toArray.size ≤ sizeLine := by
      have : (1001 : Nat) ≤ sizeLine := by rw [sizeLine_eq]; decide
      simp
      omega
    k_steps
    rename Fr g7 L1 h7 _ => F7'
    refine pop_at_last hst7 hz fun h8 hs8 h8g => ?_
    have F8 := F7'.change hs8 nL3 nsl7
    have N8 : News g7 L1 h8 ((sl, W.listOf xs.toArray (n3 + 1)) :: rest7) := news_cons h8g nL3 nsl7 fun q hq => ⟨(hs8.2 _ (rest_ne hex7 (by simp) q hq)).trans (hrest7 q hq).1, (hrest7 q hq).2⟩
    clear F7'
    k_steps
    rename Fr g7 L1 _ _ => F9
    rename News g7 L1 _ _ => N9
    have hst9 := (N9 _ (List.Mem.head _)).1
    exact hk _ _ (chg_of t7 (FC7 _ _ F9 (news_sub N9 fun q hq => List.mem_cons_of_mem _ hq)) hfn) ⟨g7, _, _, F9, B7, (if_neg (by decide)).trans p1, (if_neg (by decide)).trans p2, (if_neg (by decide)).trans p3, (if_neg (by decide)).trans p4, hst9, nsl7, nL3, fun x hx => KT7.none_ _ (hh3 x hx)⟩

end Mine
end
section -- M27
open PySem PySem.W PySem.Calls PyProof.Rows
set_option maxRecDepth 100000
namespace Mine
/-- made of containers that `h₀` does not bear -/
def MdF (w : World) (h₀ h : Heap) (nv : Int → Addr) (u : Tm) (r : Value) : Prop := ∀ X : List Addr, Has h₀ X → MdAt w h X nv u r
theorem MdF.keep {w : World} {h₀ h h' : Heap} {nv : Int → Addr} {u : Tm} {r : Value} {X fs : List Addr} (x : MdF w h₀ h nv u r) (k : Chg X fs h h') (hX : Has h₀ X) (hf : Has h₀ fs) : MdF w h₀ h' nv u r := fun Z hZ => by
  have a := x (Z ++ (X ++ fs)) (has_append hZ (has_append hX hf))
  have b := MdAt.keep (h' := h') (fun b o n e => k.keep b o (fun q => n (by simp [q])) (fun q => n (by simp [q])) e) _ a
  exact MdAt.setX (fun b o n _ q => n (by simp [q])) _ b
theorem MdF.keepX {w : World} {h₀ h h' : Heap} {nv : Int → Addr} {u : Tm} {r : Value} {X : List Addr} (x : MdF w h₀ h nv u r) (k : KeepX X h h') (hX : Has h₀ X) : MdF w h₀ h' nv u r :=
  x.keep (X := X) (fs := []) ⟨fun b o n _ e => k b o n e, fun _ _ m => nomatch m⟩ hX has_nil
theorem MdF.older {w : World} {h₀ h₁ h : Heap} {nv : Int → Addr} {u : Tm} {r : Value} (x : MdF w h₁ h nv u r) (k : ∀ b o, h₀.get? b = some o → ∃ o', h₁.get? b = some o') : MdF w h₀ h nv u r := fun Z hZ =>
  x Z fun b hb => let ⟨o, e⟩ := hZ b hb; k b o e
/-- what a stretch of the run leaves -/
structure Ext (X fs : List Addr) (s s' : Shared) : Prop where
  chg : Chg X fs s.heap s'.heap
  alive : ∀ b o, s.heap.get? b = some o → ∃ o', s'.heap.get? b = some o'
  drawn : s'.drawn = s.drawn
  os : s'.os = s.os
  bare : AllBare s.gens → AllBare s'.gens
theorem bare_set {a : Array GenState} {g : Nat} {x : GenState} (h : AllBare a) (hx : x.bare = true) : AllBare (a.setIfInBounds g x) := fun y hy => by
  rcases Array.mem_or_eq_of_mem_setIfInBounds hy with q | rfl
  · exact h y q
  · exact hx
theorem Ext.refl {X fs : List Addr} {s : Shared} : Ext X fs s s := ⟨Chg.refl, fun _ o e => ⟨o, e⟩, rfl, rfl, id⟩
theorem Ext.trans {X fs : List Addr} {s s₁ s₂ : Shared} (x : Ext X fs s s₁) (y : Ext X fs s₁ s₂) : Ext X fs s s₂ :=
  ⟨x.chg.trans y.chg, fun b o e => let ⟨o', e'⟩ := x.alive b o e; y.alive b o' e', y.drawn.trans x.drawn, y.os.trans x.os, fun h => y.bare (x.bare h)⟩
theorem Ext.mono {X X' fs : List Addr} {s s' : Shared} (x : Ext X fs s s') (k : ∀ b ∈ X, b ∈ X') : Ext X' fs s s' := ⟨x.chg.mono k, x.alive, x.drawn, x.os, x.bare⟩
theorem Ext.has {X fs Z : List Addr} {s s' : Shared} (x : Ext X fs s s') (h : Has s.heap Z) : Has s'.heap Z := fun b hb => let ⟨o, e⟩ := h b hb; x.alive b o e
/-- what is new does not count -/
theorem Ext.cut {X X' fs : List Addr} {s s' : Shared} (x : Ext X fs s s') (k : ∀ b ∈ X, b ∈ X' ∨ s.heap.get? b = none) : Ext X' fs s s' :=
  ⟨⟨fun b o n m e => x.chg.keep b o (fun q => (k b q).elim n fun z => by rw [e] at z; cases z) m e, x.chg.slots⟩, x.alive, x.drawn, x.os, x.bare⟩
theorem alive_of {X fs : List Addr} {h h' : Heap} (c : Chg X fs h h') (hX : Has h' X) : ∀ b o, h.get? b = some o → ∃ o', h'.get? b = some o' := fun b o e => by
  by_cases hx : b ∈ X
  · exact hX b hx
  · by_cases hf : b ∈ fs
    · obtain ⟨sl, hs⟩ := c.slots b o hf e
      exact ⟨_, hs⟩
    · exact ⟨o, c.keep b o hx hf e⟩
/-- the states of the other generators stay -/
def GensBut (P : Nat → Prop) (s s' : Shared) : Prop := ∀ g st, s.gens[g]? = some st → ¬ P g → s'.gens[g]? = some st
theorem GensBut.refl {P : Nat → Prop} {s : Shared} : GensBut P s s := fun _ _ e _ => e
theorem GensBut.trans {P : Nat → Prop} {s s₁ s₂ : Shared} (x : GensBut P s s₁) (y : GensBut P s₁ s₂) : GensBut P s s₂ := fun g st e n => y g st (x g st e n) n
theorem GensBut.mono {P P' : Nat → Prop} {s s' : Shared} (x : GensBut P s s') (k : ∀ g, P g → P' g) : GensBut P' s s' := fun g st e n => x g st e fun q => n (k g q)
/-- what counts is what was there -/
theorem GensBut.cut {P P' : Nat → Prop} {s s' : Shared} (x : GensBut P s s') (k : ∀ g st, s.gens[g]? = some st → P g → P' g) : GensBut P' s s' := fun g st e n => x g st e fun q => n (k g st e q)
theorem gens_set {s : Shared} {g : Nat} {x : GenState} : GensBut (· = g) s (s.setGen g x) := fun i st e n => by
  show (s.gens.setIfInBounds g x)[i]? = some st
  rw [Array.getElem?_setIfInBounds_ne (Ne.symm n)]; exact e
theorem gens_self {s : Shared} {g : Nat} {x st : GenState} (e : s.gens[g]? = some st) : (s.setGen g x).gens[g]? = some x := by
  show (s.gens.setIfInBounds g x)[g]? = some x
  have := (Array.getElem?_eq_some_iff.mp e).1
  rw [Array.getElem?_setIfInBounds_self_of_lt this]
/-- the loop's state over a change of other things -/
theorem LoopSt.keep {A : Around} {base h h' : Heap} {fr : List Env} {hid : List Addr} {L1 sl : Addr} {xs : List Value} {za zo : Value} {Z : List Addr} (S : LoopSt A base fr hid L1 sl xs za zo h) (k : KeepX Z h h') (hZ : ∀ b ∈ Z, b ≠ L1 ∧ b ≠ sl ∧ (b ∈ hid ∨ L1 < b)) : LoopSt A base fr hid L1 sl xs za zo h' := by
  obtain ⟨g, m, n, F, B, q1, q2, q3, q4, hst, nsl, nL, hh⟩ := S.ex
  have kk : ∀ b o, g.get? b = some o → h'.get? b = some o := fun b o e => k b o (fun q => by
    rcases (hZ b q).2.2 with z | z
    · rw [hh b z] at e; cases e
    · rw [Heap.get?_none_of_le (Nat.le_trans F.above (Nat.le_of_lt z))] at e; cases e) (F.keep b o e)
  obtain ⟨oL, es, ep, e1, e2⟩ := F.ns
  exact ⟨⟨g, m, n, ⟨⟨oL, es, ep, k _ _ (fun q => (hZ _ q).1 rfl) e1, e2⟩, kk, F.above⟩, B, q1, q2, q3, q4, k _ _ (fun q => (hZ _ q).2.1 rfl) hst, nsl, nL, hh⟩⟩
/-- the loop's state over a raise and a change of other things -/
theorem LoopSt.turn {A : Around} {base h h' : Heap} {fr : List Env} {hid : List Addr} {L1 sl : Addr} {xs : List Value} {za zo : Value} (S : LoopSt A base fr hid L1 sl xs za zo h) (k : Trn (L1 :: frs fr) h h') : LoopSt A base fr hid L1 sl xs za zo h' := by
  obtain ⟨g, m, n, F, B, q1, q2, q3, q4, hst, nsl, nL, hh⟩ := S.ex
  obtain ⟨g', KT, F', B'⟩ := k.fr B F
  refine ⟨⟨g', m, n, F', B', q1, q2, q3, q4, k.keep _ _ (fun q => ?_) hst, KT.none_ _ nsl, nL, fun x hx => KT.none_ _ (hh x hx)⟩⟩
  rcases List.mem_cons.mp q with q | q
  · exact nL q
  · obtain ⟨_, o, ho, _⟩ := B.frames.mem q
    rw [nsl] at ho; cases ho
theorem LoopSt.has {A : Around} {base h : Heap} {fr : List Env} {hid : List Addr} {L1 sl : Addr} {xs : List Value} {za zo : Value} (S : LoopSt A base fr hid L1 sl xs za zo h) : Has h (L1 :: sl :: frs fr) := by
  obtain ⟨g, m, n, F, B, q1, q2, q3, q4, hst, nsl, nL, hh⟩ := S.ex
  obtain ⟨oL, es, ep, e1, e2⟩ := F.ns
  refine has_cons e1 (has_cons hst fun b hb => ?_)
  obtain ⟨_, o, ho, _⟩ := B.frames.mem hb
  exact ⟨o, F.keep _ _ ho⟩
theorem LoopSt.below {A : Around} {base h : Heap} {fr : List Env} {hid : List Addr} {L1 sl : Addr} {xs : List Value} {za zo : Value} (S : LoopSt A base fr hid L1 sl xs za zo h) {env : Env} (hf : env.frame = some L1) (hk : env.scope.kind = .function) : Below (A.deeper env) base (env :: fr) h := by
  obtain ⟨g, m, n, F, B, _⟩ := S.ex
  exact pushX B F hf hk
theorem LoopSt.base {A : Around} {base h : Heap} {fr : List Env} {hid : List Addr} {L1 sl : Addr} {xs : List Value} {za zo : Value} (S : LoopSt A base fr hid L1 sl xs za zo h) : base.StaysIn h := by
  obtain ⟨g, m, n, F, B, _⟩ := S.ex
  exact fun b o e => F.keep b o (B.stays b o e)
/-- the loop's state over a raise within a generator -/
theorem LoopSt.turnG {A : Around} {base h h' : Heap} {fr : List Env} {hid : List Addr} {L1 sl Lg : Addr} {xs : List Value} {za zo : Value} (S : LoopSt A base fr hid L1 sl xs za zo h) (k : Trn (Lg :: L1 :: frs fr) h h') (hL : Lg ∈ hid ∨ L1 < Lg) (nsl' : Lg ≠ sl) : LoopSt A base fr hid L1 sl xs za zo h' := by
  obtain ⟨g, m, n, F, B, q1, q2, q3, q4, hst, nsl, nL, hh⟩ := S.ex
  have zL : g.get? Lg = none := by
    rcases hL with z | z
    · exact hh _ z
    · exact Heap.get?_none_of_le (Nat.le_trans F.above (Nat.le_of_lt z))
  have nm : ∀ b o, g.get? b = some o → b ∉ frs fr → b ∉ Lg :: L1 :: frs fr := fun b o e n q => by
    rcases List.mem_cons.mp q with rfl | q
    · rw [zL] at e; cases e
    · rcases List.mem_cons.mp q with rfl | q
      · rw [kts_self F] at e; cases e
      · exact n q
  obtain ⟨T, K⟩ := kts_turn_at (h := h') (fs := frs fr) (g := g)
    (fun b hb => by
      obtain ⟨_, o, ho, _⟩ := B.frames.mem hb
      exact ⟨o, ho⟩)
    (fun b o e n => k.keep b o (nm b o e n) (F.keep b o e))
    (fun b o e hm => k.up (F.keep b o e))
  refine ⟨⟨_, m, n, ⟨k.ns F.ns, K, by rw [T.size]; exact F.above⟩, ⟨B.stack, fun b o e => T.other b o (B.stays b o e) (fun hm => by
    rw [(B.frames.mem hm).1] at e
    cases e), B.frames.of_keeps fun b o e _ => ?_⟩, q1, q2, q3, q4, k.keep _ _ (fun q => ?_) hst, T.none_ _ nsl, nL, fun x hx => T.none_ _ (hh x hx)⟩⟩
  · obtain ⟨sl, hs⟩ := T.up e
    exact ⟨_, hs, rfl⟩
  · rcases List.mem_cons.mp q with q | q
    · exact nsl' q.symm
    · rcases List.mem_cons.mp q with q | q
      · exact nL q
      · obtain ⟨_, o, ho, _⟩ := B.frames.mem q
        rw [nsl] at ho; cases ho
theorem frs_cons {env : Env} {L : Addr} {fr : List Env} (h : env.frame = some L) : frs (env :: fr) = L :: frs fr := by
  unfold frs
  rw [List.filterMap_cons, h]
/-- the block of a generator that runs -/
theorem gen_below {A A' : Around} {base h : Heap} {fr : List Env} {envG : Env} {Lg : Addr} {m : Str → Option Value} (B : Below A' base fr h) (hA : A.frames = some (envG :: fr)) (hf : envG.frame = some Lg) (hk : envG.scope.kind = .function) (hn : h.Ns Lg m) (hb : base.get? Lg = none) : Below A base (envG :: fr) h :=
  ⟨hA, B.stays, .cons (by rw [hk]; decide) hf hn hb B.frames⟩
end Mine
end
section -- N16
open PySem PySem.W PySem.Calls PyProof.Rows
set_option maxRecDepth 100000
set_option maxHeartbeats 8000000
set_option linter.unusedVariables false
namespace Mine
local macro_rules | `(tactic| k_all) => `(tactic| assumption)
local macro_rules | `(tactic| ktr_enter) => `(tactic| first
  | (refine' code_defG ?k1 ?k2 ?k3 ?k4 ?k5 ?kA ?kF ?kK ?k6 ?k7 ?k8 ?k9 ?kB ?_ ?c2 ?c3 ?c4 ?c5; (case kA => exact rfl); (case kF => exact rfl); (case kK => first | assumption | exact rfl); (case k1 => k_asm); (case k2 => k_asm); (case k3 => k_asm); (case k4 => first | k_asm | exact News.nil); (case k5 => k_asm); (case k6 => k_is); (case k7 => k_is); (case k8 => ktr_room); (case k9 => exact BindsTo.of_eq rfl); (case c5 => decide); (case kB => exact locs rfl); (case c2 => exact rfl); (case c3 => exact rfl); (case c4 => exact rfl))
  | (refine' code_defCG ?k1 ?k2 ?k3 ?k4 ?k5 ?kA ?kF ?kK ?k6 ?k7 ?k8 ?k9 ?kB ?kD ?_ ?c2 ?c3 ?c4; (case kA => exact rfl); (case kF => exact rfl); (case kK => first | assumption | exact rfl); (case k1 => k_asm); (case k2 => k_asm); (case k3 => k_asm); (case k4 => first | k_asm | exact News.nil); (case k5 => k_asm); (case k6 => k_is); (case k7 => k_is); (case k8 => ktr_room); (case k9 => exact BindsTo.of_eq rfl); (case kB => exact rfl); (case kD => decide +kernel); (case c2 => exact rfl); (case c3 => exact rfl); (case c4 => exact rfl)))
local macro_rules | `(tactic| k_room) => `(tactic| (first | ((try simp only [depth_under_make, depth_under_kw, depth_in1, depth_deeper, depth_caller]); decide) | (dsimp only [ktrTop, Around.deeper, Around.in1, Around.mark]; omega) | ((try simp only [depth_under_make, depth_under_kw, depth_in1, depth_deeper, depth_caller]); (try dsimp only [ktrTop, Around.deeper, Around.in1, Around.mark]); omega)))
local macro_rules | `(tactic| k_units) => `(tactic| (first | exact Nat.le_of_ble_eq_true rfl | (dsimp only [ktrTop, Around.deeper, Around.in1, Around.mark]; omega)))
local macro_rules | `(tactic| k_inst) => `(tactic| first | (refine' inst_up1 ?F ?I; (case F => k_asm); (case I => assumption)) | (refine' inst_up2 ?F2 ?F ?I; (case F2 => k_asm); (case F => k_asm); (case I => assumption)))
theorem stream_env {w : World} {L1 : Addr} {env : Env} {C : Code} (h : StreamCode (Mine.hd.heap_39 w.params) 206 L1 env C) : env.frame = some L1 ∧ env.scope.kind = .function := by
  obtain ⟨oc, od, fd, osl, body, t, b, o, h1, h2, h3, rfl, rfl⟩ := h
  refine' with_fd h1 ?ho ?_
  case ho => k_is
  intro e
  subst e
  exact ⟨rfl, rfl⟩
/-- what stands fast while a stream is evaluated -/
structure Cx (w : World) (dp un : Nat) (gd : Option (List Code)) (fr : List Env) (base base0 : Heap) (hid : List Addr) (L1 sl : Addr) (env : Env) (C : Code) (nv : Int → Addr) (d : Addr) (kvs : List (Int × Value)) (sg : Int → Option Tm) (D : Nat) : Prop where
  X0 : (Mine.hd.heap_39 w.params).In base0
  T0 : ∃ p loose mean mg mb, Top p loose mean mg mb base0
  b0 : base0.StaysIn base
  code : StreamCode (Mine.hd.heap_39 w.params) 206 L1 env C
  V : VarAt w base nv
  G : GivAt base nv d kvs
  K : KvAt w base [sysModules] nv kvs sg D
  lo : (d == sysModules) = false
  hd : dp + 40 < recursionLimit
  hu : un + D + 400 < cLine
abbrev A0x (dp un : Nat) (gd : Option (List Code)) (fr : List Env) : Around := ⟨none, dp, some fr, gd, un⟩
abbrev Asx (dp un : Nat) (gd : Option (List Code)) (fr : List Env) (env : Env) : Around := ⟨none, dp + 1, some (env :: fr), gd, un + 3 + 1⟩
abbrev LoopGo (w : World) (dp un : Nat) (gd : Option (List Code)) (fr : List Env) (env : Env) (C : Code) (R : Result → Shared → Prop) (s : Shared) : Prop := codeAny (model PySem.Challenge.rw_ez0159_01.row.prog w) ((A0x dp un gd fr).deeper env) C R s
section
variable {w : World} {dp un : Nat} {gd : Option (List Code)} {fr : List Env} {base base0 : Heap} {hid : List Addr} {L1 sl : Addr} {env : Env} {C : Code} {nv : Int → Addr} {d : Addr} {kvs : List (Int × Value)} {sg : Int → Option Tm} {D : Nat} {R : Result → Shared → Prop}
theorem Cx.X (cx : Cx w dp un gd fr base base0 hid L1 sl env C nv d kvs sg D) : (Mine.hd.heap_39 w.params).In base := cx.X0.keeps cx.b0
theorem Cx.T (cx : Cx w dp un gd fr base base0 hid L1 sl env C nv d kvs sg D) : ∃ p loose mean mg mb, Top p loose mean mg mb base := let ⟨p, loose, mean, mg, mb, T⟩ := cx.T0; ⟨p, loose, mean, mg, mb, T.keeps cx.b0⟩
/-- one turn, with the run of the generator as it is given -/
theorem turn2 (cx : Cx w dp un gd fr base base0 hid L1 sl env C nv d kvs sg D) {s : Shared} {xs : List Value} {za zo : Value} {G dG ga : Addr} {tk : Tok} {gno n : Nat} {gs : GenState} {Rg : GenEnd} {Y : Protocol}
    (S : LoopSt (A0x dp un gd fr) base fr hid L1 sl (xs ++ [.ref G]) za zo s.heap) (hlen : xs.length ≤ 1000)
    (I : W.InstAt s.heap G (instObj 38 dG) 38 (some (dictOf [⟨PyData.keyHash w.params (Str.ofString "rows"), .str (Str.ofString "rows") tk, .ref ga⟩] 1)))
    (hgen : IsGenD s.heap ga gno) (oG : G ∈ hid ∨ L1 < G) (odG : dG ∈ hid ∨ L1 < dG) (oga : ga ∈ hid ∨ L1 < ga) (ndL : dG ≠ L1) (hgs : s.gens[gno]? = some gs)
    (hgo : ∀ s', Ext [L1] (frs fr) s s' → GensBut (· = gno) s s' → s'.gens[gno]? = some .running → LoopSt (A0x dp un gd fr) base fr hid L1 sl (xs ++ [.ref G]) za zo s'.heap → gs.Goes (model PySem.Challenge.rw_ez0159_01.row.prog w) (Asx dp un gd fr env) Rg Y n (.send za) s')
    (hY : ∀ s' v' s₁ gs', Ext [L1] (frs fr) s s' → GensBut (· = gno) s s' → s'.gens[gno]? = some .running → LoopSt (A0x dp un gd fr) base fr hid L1 sl (xs ++ [.ref G]) za zo s'.heap →
      Y (n - 1) s' v' s₁ (fun r' s'' => match n with | 0 => False | m + 1 => gs'.Goes (model PySem.Challenge.rw_ez0159_01.row.prog w) (Asx dp un gd fr env) Rg Y m r' s'') →
      LoopSt (A0x dp un gd fr) base fr hid L1 sl (xs ++ [.ref G]) za zo s₁.heap ∧
      ((IsGIs w [L1, sl] s₁.heap v' true ∧ ∀ s3, Ext [L1, sl] (frs fr) s₁ s3 → s3.gens = (s₁.setGen gno gs').gens → LoopSt (A0x dp un gd fr) base fr hid L1 sl (xs ++ [.ref G] ++ [v']) .none v' s3.heap → LoopGo w dp un gd fr env C R s3) ∨
       (IsGIs w [L1, sl] s₁.heap v' false ∧ ∀ s3, Ext [L1, sl] (frs fr) s₁ s3 → s3.gens = (s₁.setGen gno gs').gens → LoopSt (A0x dp un gd fr) base fr hid L1 sl (xs ++ [.ref G]) v' v' s3.heap → LoopGo w dp un gd fr env C R s3)))
    (hR : ∀ s' x s₁, Ext [L1] (frs fr) s s' → GensBut (· = gno) s s' → LoopSt (A0x dp un gd fr) base fr hid L1 sl (xs ++ [.ref G]) za zo s'.heap → Rg n s' x s₁ →
      x = .ok (.ret .none) ∧ LoopSt (A0x dp un gd fr) base fr hid L1 sl (xs ++ [.ref G]) za zo s₁.heap ∧ ∀ s3, Ext [L1, sl] (frs fr) s₁ s3 → GensBut (· = gno) s₁ s3 → LoopSt (A0x dp un gd fr) base fr hid L1 sl xs za zo s3.heap → LoopGo w dp un gd fr env C R s3) :
    LoopGo w dp un gd fr env C R s := by
  obtain ⟨p, loose, mean, mg, mb, T⟩ := cx.T
  have hd := cx.hd
  have hu := cx.hu
  have alive2 : ∀ {h h' : Heap} {ys : List Value} {z1 z2 : Value}, KeepX [L1, sl] h h' → LoopSt (A0x dp un gd fr) base fr hid L1 sl ys z1 z2 h' → ∀ b o, h.get? b = some o → ∃ o', h'.get? b = some o' := fun k S' =>
    alive_of (fs := frs fr) (X := [L1, sl]) ⟨fun b o n _ e => k b o n e, fun b o m e => by
      by_cases q : b ∈ [L1, sl]
      · obtain ⟨o', e'⟩ := S'.has b (by simp at q; rcases q with rfl | rfl <;> simp)
        obtain ⟨g, mm, nn, F, B, _, _, _, _, _, nsl, _⟩ := S'.ex
        exact absurd q (frs_notin B F nsl b m)
      · exact ⟨o.slots, k b o q e⟩⟩ (fun b hb => S'.has b (by simp at hb; rcases hb with rfl | rfl <;> simp))
  have ext2 : ∀ {s1 s2 : Shared} {ys : List Value} {z1 z2 : Value}, KeepX [L1, sl] s1.heap s2.heap → LoopSt (A0x dp un gd fr) base fr hid L1 sl ys z1 z2 s2.heap → s2.drawn = s1.drawn → s2.os = s1.os → (AllBare s1.gens → AllBare s2.gens) → Ext [L1, sl] (frs fr) s1 s2 := fun k S' a b c => by
    refine ⟨⟨fun b o n _ e => k b o n e, fun b o m e => ?_⟩, alive2 k S', a, b, c⟩
    obtain ⟨g, mm, nn, F, B, _, _, _, _, _, nsl, _⟩ := S'.ex
    exact ⟨o.slots, k b o (frs_notin B F nsl b m) e⟩
  refine turn_c w cx.X T cx.code S hlen I hgen oG odG oga ndL (fun h1 tk1 U S1 => ?_) (by omega) (by omega)
  have E1 : Ext [L1] (frs fr) s (({ s with heap := h1, toks := tk1 } : Shared).setGen gno .running) := by
    obtain ⟨g, mm, nn, F, B, _, _, _, _, _, nsl, _⟩ := S1.ex
    have k : KeepX [L1, sl] s.heap h1 := U.mono fun b hb => by simp at hb; simp [hb]
    refine ⟨⟨fun b o n _ e => U b o n e, fun b o m e => ⟨o.slots, k b o (frs_notin B F nsl b m) e⟩⟩, alive2 k S1, rfl, rfl, fun h => bare_set h rfl⟩
  have G1 : GensBut (· = gno) s (({ s with heap := h1, toks := tk1 } : Shared).setGen gno .running) := gens_set (s := { s with heap := h1, toks := tk1 })
  have R1 : ((({ s with heap := h1, toks := tk1 } : Shared).setGen gno .running)).gens[gno]? = some .running := gens_self (s := { s with heap := h1, toks := tk1 }) hgs
  have nga : ga ≠ L1 := fun q => by
    obtain ⟨⟨o2, nm, qn, a2, c2, d2, _⟩, _⟩ := hgen
    obtain ⟨g, mm, nn, F, _⟩ := S.ex
    obtain ⟨oo, es, ep, a, b, _⟩ := F.ns
    rw [← q, a2] at a; cases a; rw [d2] at b; cases b
  refine send_run (n := n) (R := Rg) (Y := Y) rfl (T.nolimit.keeps S1.base) (by dsimp only; omega) (hgen.keep fun o e => U ga o (by simpa using nga) e).1 hgs (hgo _ E1 G1 R1 S1) (fun v' s₁ gs' hbr hy => ?_) (fun x s₁ hx => ?_)
  · obtain ⟨S2, hv⟩ := hY _ v' s₁ gs' E1 G1 R1 S1 hy
    refine ⟨v', rfl, S2, ?_⟩
    rcases hv with ⟨hi, hk⟩ | ⟨hi, hk⟩
    · exact .inl ⟨hi, fun h3 tk3 k3 S3 => hk _ (ext2 k3 S3 rfl rfl fun h => bare_set h hbr) rfl S3⟩
    · exact .inr ⟨hi, fun h3 tk3 k3 S3 => hk _ (ext2 k3 S3 rfl rfl fun h => bare_set h hbr) rfl S3⟩
  · obtain ⟨rfl, S2, hk⟩ := hR _ x s₁ E1 G1 S1 hx
    refine ⟨rfl, fun e h' hn => ⟨e, s₁.heap, rfl, hn, S2, fun h3 tk3 c3 S3 => hk _ ⟨c3, ?_, rfl, rfl, fun h => bare_set h rfl⟩ (gens_set (s := s₁)) S3⟩⟩
    exact alive_of c3 (fun b hb => S3.has b (by simp at hb; rcases hb with rfl | rfl <;> simp))
end

end Mine
end
section -- M28
open PySem PySem.W PySem.Calls PyProof.Rows
set_option maxRecDepth 100000
set_option maxHeartbeats 4000000
namespace Mine
theorem ob_class : typeLookup (.type "object") "__class__" = pure (some (.builtin "object.__class__")) := by rw [typeLookup_type, builtinLookup_eq_fast]; kernel_rfl
theorem ob_owner : isSubtype (.type "object") (.type (".".intercalate ("object.__class__".cutAt '.').dropLast)) = pure true := by
  rw [F.owner_object_class, isSubtype_type]; kernel_rfl
section
variable {prog : Program} {w : World} {A : Around} {E : Value → Shared → Prop} {a : Addr}
def ObAt (a : Addr) (h : Heap) : Prop := ∃ o, h.get? a = some o ∧ o.cls = .type "object"
theorem ob_attr {s : Shared} {Q : Option Value → Shared → Prop} (p : ObAt a s.heap) (hq : Q (some (.type "object")) { s with toks := s.toks + 1 }) : wpAny (model prog w) A (getAttr? (.ref a) "__class__") Q E s := by
  obtain ⟨h, g, d, t, os⟩ := s
  have hT : ∀ {t' : Nat}, (⟨h, g, d, t', os⟩ : Shared).TypeIs (.ref a) "object" := p
  have one : ∀ {A : Around} {t' : Nat} {R : Result → Shared → Prop}, R (.ok (.ret (.type "object"))) ⟨h, g, d, t', os⟩ → codeAny (model prog w) A (.call (.builtin "getset_descriptor.__get__") ⟨[.builtin "object.__class__", .ref a, .type "object"], []⟩) R ⟨h, g, d, t', os⟩ := by
    intro A t' R hr
    have hT0 := hT (t' := t')
    have hTo : (⟨h, g, d, t', os⟩ : Shared).TypeIs (.builtin "object.__class__") "getset_descriptor" := F.typeOf_object_class
    have f8 := ob_owner
    refine codeAny_call_builtin F.slot_gs_get.plain F.entry_gs_get (F.slot_gs_get.check _ _ _ _ _ _ _ _ hTo (F.args_gs_get _ _ _) ?_)
    repeat (any_goals (first | assumption | wp_step))
    refine ⟨Code.quiet_builtin _ (by decide +kernel), codeAny_builtin F.entry_object_class ?_⟩
    repeat (any_goals (first | assumption | wp_step))
  have two : ∀ {A : Around} {t' : Nat} {tk : Tok} {E : Value → Shared → Prop} {Q : Fin → Shared → Prop}, Q (.done (.ret (.type "object"))) ⟨h, g, d, t', os⟩ → wpAny (model prog w) A (Builtin.«object.__getattribute__» ⟨[.ref a, .str "__class__" tk], []⟩) Q E ⟨h, g, d, t', os⟩ := by
    intro A t' tk E Q hr
    have hT0 := hT (t' := t')
    have hTo : (⟨h, g, d, t', os⟩ : Shared).TypeIs (.builtin "object.__class__") "getset_descriptor" := F.typeOf_object_class
    have f4 := ob_class
    have f5 := F.typeOf_object_class
    have f6 := F.slot_gs_get.lookup
    have f7 := F.slot_gs_set.lookup
    repeat (any_goals (first | assumption | wp_step))
    refine one ?_
    repeat (any_goals (first | assumption | wp_step))
  have three : ∀ {A : Around} {t' : Nat} {tk : Tok} {E Q : Value → Shared → Prop}, Q (.type "object") ⟨h, g, d, t', os⟩ → wpAny (model prog w) A (getAttrBy (.ref a) (.str "__class__" tk) false) Q E ⟨h, g, d, t', os⟩ := by
    intro A t' tk E Q hr
    have hT0 := hT (t' := t')
    have f2 := F.slot_object_getattribute.lookup
    have f3 := F.slot_object_getattribute.bind (.ref a)
    repeat (any_goals (first | assumption | wp_step))
    refine codeAny_call_builtin F.slot_object_getattribute.plain F.entry_object_getattribute (F.slot_object_getattribute.check _ _ _ _ _ _ _ _ hT0 (F.args_object_getattribute_2 _ _) (two ?_))
    repeat (any_goals (first | assumption | wp_step))
  unfold getAttr? getAttrBy?
  repeat (any_goals (first | assumption | with_reducible apply three | wp_step))
end
end Mine
end
section -- N17
open PySem PySem.W PySem.Calls PyProof.Rows
set_option maxRecDepth 100000
set_option maxHeartbeats 8000000
set_option linter.unusedVariables false
namespace Mine
local macro_rules | `(tactic| walk_at "idle0") => `(tactic| fail)
local macro_rules | `(tactic| k_all) => `(tactic| assumption)
local macro_rules | `(tactic| ktr_enter) => `(tactic| first
  | (refine' code_defG ?k1 ?k2 ?k3 ?k4 ?k5 ?kA ?kF ?kK ?k6 ?k7 ?k8 ?k9 ?kB ?_ ?c2 ?c3 ?c4 ?c5; (case kA => exact rfl); (case kF => exact rfl); (case kK => first | assumption | exact rfl); (case k1 => k_asm); (case k2 => k_asm); (case k3 => k_asm); (case k4 => first | k_asm | exact News.nil); (case k5 => k_asm); (case k6 => k_is); (case k7 => k_is); (case k8 => ktr_room); (case k9 => exact BindsTo.of_eq rfl); (case c5 => decide); (case kB => exact locs rfl); (case c2 => exact rfl); (case c3 => exact rfl); (case c4 => exact rfl))
  | (refine' code_defCG ?k1 ?k2 ?k3 ?k4 ?k5 ?kA ?kF ?kK ?k6 ?k7 ?k8 ?k9 ?kB ?kD ?_ ?c2 ?c3 ?c4; (case kA => exact rfl); (case kF => exact rfl); (case kK => first | assumption | exact rfl); (case k1 => k_asm); (case k2 => k_asm); (case k3 => k_asm); (case k4 => first | k_asm | exact News.nil); (case k5 => k_asm); (case k6 => k_is); (case k7 => k_is); (case k8 => ktr_room); (case k9 => exact BindsTo.of_eq rfl); (case kB => exact rfl); (case kD => decide +kernel); (case c2 => exact rfl); (case c3 => exact rfl); (case c4 => exact rfl)))
local macro_rules | `(tactic| k_room) => `(tactic| (first | ((try simp only [depth_under_make, depth_under_kw, depth_in1, depth_deeper, depth_caller]); decide) | (dsimp only [ktrTop, Around.deeper, Around.in1, Around.mark]; omega) | ((try simp only [depth_under_make, depth_under_kw, depth_in1, depth_deeper, depth_caller]); (try dsimp only [ktrTop, Around.deeper, Around.in1, Around.mark]); omega)))
local macro_rules | `(tactic| k_units) => `(tactic| (first | exact Nat.le_of_ble_eq_true rfl | (dsimp only [ktrTop, Around.deeper, Around.in1, Around.mark]; omega)))
local macro_rules | `(tactic| k_inst) => `(tactic| first | (refine' inst_up1 ?F ?I; (case F => k_asm); (case I => assumption)) | (refine' inst_up2 ?F2 ?F ?I; (case F2 => k_asm); (case F => k_asm); (case I => assumption)))
section
variable {w : World} {dp un : Nat} {gd : Option (List Code)} {fr : List Env} {base base0 : Heap} {hid : List Addr} {L1 sl : Addr} {env : Env} {C : Code} {nv : Int → Addr} {d : Addr} {kvs : List (Int × Value)} {sg : Int → Option Tm} {D : Nat} {R : Result → Shared → Prop}
/-- a generator that will not yield again -/
theorem finish_c (cx : Cx w dp un gd fr base base0 hid L1 sl env C nv d kvs sg D) {s : Shared} {xs : List Value} {r : Value} {G dG ga : Addr} {tk : Tok} {gno : Nat} {gs : GenState} {Rg : GenEnd} {Y : Protocol}
    (S : LoopSt (A0x dp un gd fr) base fr hid L1 sl (xs ++ [.ref G]) r r s.heap) (hlen : xs.length ≤ 1000)
    (I : W.InstAt s.heap G (instObj 38 dG) 38 (some (dictOf [⟨PyData.keyHash w.params (Str.ofString "rows"), .str (Str.ofString "rows") tk, .ref ga⟩] 1)))
    (hgen : IsGenD s.heap ga gno) (oG : G ∈ hid ∨ L1 < G) (odG : dG ∈ hid ∨ L1 < dG) (oga : ga ∈ hid ∨ L1 < ga) (ndL : dG ≠ L1) (hgs : s.gens[gno]? = some gs)
    (hgo : ∀ s', Ext [L1] (frs fr) s s' → GensBut (· = gno) s s' → s'.gens[gno]? = some .running → LoopSt (A0x dp un gd fr) base fr hid L1 sl (xs ++ [.ref G]) r r s'.heap → gs.Goes (model PySem.Challenge.rw_ez0159_01.row.prog w) (Asx dp un gd fr env) Rg Y 0 (.send r) s')
    (hR0 : ∀ s₀ x s₁, Rg 0 s₀ x s₁ → x = .ok (.ret .none) ∧ ∃ tk, s₁ = { s₀ with toks := tk })
    (hY0 : ∀ s₀ v s₁ kap, Y 0 s₀ v s₁ kap → ∃ r' s', kap r' s')
    (hk : ∀ s3, Ext [L1, sl] (frs fr) s s3 → GensBut (· = gno) s s3 → LoopSt (A0x dp un gd fr) base fr hid L1 sl xs r r s3.heap → LoopGo w dp un gd fr env C R s3) : LoopGo w dp un gd fr env C R s := by
  refine turn2 cx (n := 0) S hlen I hgen oG odG oga ndL hgs hgo (fun s' v' s₁ gs' _ _ _ _ hy => ?_) (fun s' x s₁ E1 G1 S1 hx => ?_)
  · obtain ⟨_, _, h⟩ := hY0 _ _ _ _ hy
    exact h.elim
  · obtain ⟨rfl, tk, rfl⟩ := hR0 _ _ _ hx
    exact ⟨rfl, S1, fun s3 e3 g3 S3 => hk s3 ((E1.mono (by simp)).trans ⟨e3.chg, e3.alive, e3.drawn, e3.os, e3.bare⟩) (G1.trans g3) S3⟩
/-- the body of a generator for a term -/
def GenBody (w : World) (fr : List Env) (base : Heap) (L1 sl : Addr) (nv : Int → Addr) (d : Addr) (h : Heap) (Lg : Addr) (c : Code) (m : Str → Option Value) : Tm → Prop
  | .num _ => False
  | .var i => GenCode (Mine.hd.heap_39 w.params) 220 Lg c ∧ m (Str.ofString "o") = some (.ref (nv i)) ∧ m (Str.ofString "s") = some (.ref d) ∧ 0 ≤ i ∧ i < 5
  | .node kd ts => GenCode (Mine.hd.heap_39 w.params) 227 Lg c ∧ m (Str.ofString "ctor") = some (.type kd.ty) ∧ m (Str.ofString "s") = some (.ref d) ∧ ∃ rr ys, m (Str.ofString "t") = some (.ref rr) ∧ MkAt w h rr ys kd ∧ MdsAt w base [sysModules] nv ts ys ∧ Wf 0 5 (.node kd ts) ∧ (kd = .dct → rr ≠ sysModules) ∧ rr ≠ L1 ∧ rr ≠ sl ∧ rr ≠ Lg ∧ rr ∉ frs fr
/-- a new `Generator` for a term, with its frame and its number -/
def GenFor (w : World) (fr : List Env) (base base0 : Heap) (hid : List Addr) (L1 sl : Addr) (nv : Int → Addr) (d : Addr) (s : Shared) (t : Tm) (v : Value) (Lg gno : Nat) : Prop :=
  ∃ G dG ga c tk m, v = .ref G ∧ W.InstAt s.heap G (instObj 38 dG) 38 (some (dictOf [⟨PyData.keyHash w.params (Str.ofString "rows"), .str (Str.ofString "rows") tk, .ref ga⟩] 1)) ∧ IsGenD s.heap ga gno ∧ s.gens[gno]? = some (.fresh c) ∧ s.heap.Ns Lg m ∧
    (G ∈ hid ∨ L1 < G) ∧ (dG ∈ hid ∨ L1 < dG) ∧ (ga ∈ hid ∨ L1 < ga) ∧ (Lg ∈ hid ∨ L1 < Lg) ∧ dG ≠ L1 ∧ Lg ≠ L1 ∧ Lg ≠ dG ∧ base.get? Lg = none ∧ Lg ∉ frs fr ∧ base0.objs.size ≤ Lg ∧ GenBody w fr base L1 sl nv d s.heap Lg c m t
theorem isg_int {Xs : List Addr} {h : Heap} {n : Int} {t : Tok} : IsGIs w Xs h (.int n t) false := by
  intro A E Q s k X q
  k_dflt (refine' isn_call (P := fun _ => True) X ?k2 ?k3 ?k4 trivial int_cls (q _); (case k2 => (intro M; exact Looks.of_pure rfl)); (case k3 => k_not); (case k4 => intro e; cases e))
theorem isg_gen {Xs : List Addr} {h : Heap} {x dx : Addr} {od : Option Obj} (I : W.InstAt h x (instObj 38 dx) 38 od) (n1 : x ∉ Xs) (n2 : dx ∉ Xs) : IsGIs w Xs h (.ref x) true := by
  intro A E Q s k X q
  have I' : W.InstAt s.heap x (instObj 38 dx) 38 od := by
    obtain ⟨a, c, n, dd⟩ := I
    exact ⟨k _ _ n1 a, c, n, by cases od with | none => exact dd | some o => exact k _ _ n2 dd⟩
  k_dflt (refine' isi_call (t := .ref 38) X ?k2 ?k3 ?k4 (q s.toks); (case k2 => (intro M; exact InstAt.type I')); (case k3 => k_is); (case k4 => intro e; cases e))
theorem isg_var {Xs : List Addr} {h : Heap} {x : Addr} {ox od : Obj} (I : ∀ h', KeepX Xs h h' → W.InstAt h' x ox 185 (some od)) : IsGIs w Xs h (.ref x) false := by
  intro A E Q s k X q
  k_dflt (refine' kin_callC X (I _ k) ?e ?hg ?hd ?ha ?hn ?ht ?hm (q _); (case e => kin_no); (case hg => k_is); (case hd => k_is); (case ha => k_is); (case hn => k_is); (case ht => k_is); (case hm => k_is))
theorem isg_cls {Xs : List Addr} {h : Heap} {a : Addr} {T : String} (c : ClsAt h a T) (n : a ∉ Xs) (hT : T = "tuple" ∨ T = "list" ∨ T = "dict") : IsGIs w Xs h (.ref a) false := by
  intro A E Q s k X q
  have c' : ClsAt s.heap a T := let ⟨o, e, f⟩ := c; ⟨o, k _ _ n e, f⟩
  rcases hT with rfl | rfl | rfl
  · k_dflt (refine' isn_call (P := fun h => ∃ o, h.get? a = some o ∧ o.cls = .type "tuple") X ?k2 ?k3 ?k4 c' tuple_cls (q _); (case k2 => (intro M; obtain ⟨o, h1, h2⟩ := c'; exact h2 ▸ (Looks.ld h1).andThen .now)); (case k3 => k_not); (case k4 => intro e; cases e))
  · k_dflt (refine' isn_call (P := fun h => ∃ o, h.get? a = some o ∧ o.cls = .type "list") X ?k2 ?k3 ?k4 c' list_cls (q _); (case k2 => (intro M; obtain ⟨o, h1, h2⟩ := c'; exact h2 ▸ (Looks.ld h1).andThen .now)); (case k3 => k_not); (case k4 => intro e; cases e))
  · k_dflt (refine' isn_call (P := fun h => ∃ o, h.get? a = some o ∧ o.cls = .type "dict") X ?k2 ?k3 ?k4 c' dict_cls (q _); (case k2 => (intro M; obtain ⟨o, h1, h2⟩ := c'; exact h2 ▸ (Looks.ld h1).andThen .now)); (case k3 => k_not); (case k4 => intro e; cases e))
theorem sent_at {h : Heap} {o : Obj} (X : (Mine.hd.heap_39 w.params).In h) (ho : (Mine.hd.heap_39 w.params).lookup 198 = some o) (hc : o.cls = .type "object") : ObAt 198 h := ⟨o, X _ _ ho, hc⟩
theorem isg_sent {Xs : List Addr} {h : Heap} : IsGIs w Xs h (.ref 198) false := by
  intro A E Q s k X q
  have c' : ObAt 198 s.heap := by
    refine' sent_at X ?ho ?hc
    case ho => k_is
    case hc => exact rfl
  k_dflt (refine' isn_call (P := ObAt 198) X ?k2 ?k3 ?k4 c' ob_attr (q _); (case k2 => (intro M; obtain ⟨o, h1, h2⟩ := c'; exact h2 ▸ (Looks.ld h1).andThen .now)); (case k3 => k_not); (case k4 => intro e; cases e))
end

end Mine
end
section -- N18
open PySem PySem.W PySem.Calls PyProof.Rows
set_option maxRecDepth 100000
set_option maxHeartbeats 8000000
set_option linter.unusedVariables false
namespace Mine
local macro_rules | `(tactic| k_all) => `(tactic| assumption)
local macro_rules | `(tactic| ktr_enter) => `(tactic| first
  | (refine' code_defG ?k1 ?k2 ?k3 ?k4 ?k5 ?kA ?kF ?kK ?k6 ?k7 ?k8 ?k9 ?kB ?_ ?c2 ?c3 ?c4 ?c5; (case kA => exact rfl); (case kF => exact rfl); (case kK => first | assumption | exact rfl); (case k1 => k_asm); (case k2 => k_asm); (case k3 => k_asm); (case k4 => first | k_asm | exact News.nil); (case k5 => k_asm); (case k6 => k_is); (case k7 => k_is); (case k8 => ktr_room); (case k9 => exact BindsTo.of_eq rfl); (case c5 => decide); (case kB => exact locs rfl); (case c2 => exact rfl); (case c3 => exact rfl); (case c4 => exact rfl))
  | (refine' code_defCG ?k1 ?k2 ?k3 ?k4 ?k5 ?kA ?kF ?kK ?k6 ?k7 ?k8 ?k9 ?kB ?kD ?_ ?c2 ?c3 ?c4; (case kA => exact rfl); (case kF => exact rfl); (case kK => first | assumption | exact rfl); (case k1 => k_asm); (case k2 => k_asm); (case k3 => k_asm); (case k4 => first | k_asm | exact News.nil); (case k5 => k_asm); (case k6 => k_is); (case k7 => k_is); (case k8 => ktr_room); (case k9 => exact BindsTo.of_eq rfl); (case kB => exact rfl); (case kD => decide +kernel); (case c2 => exact rfl); (case c3 => exact rfl); (case c4 => exact rfl)))
local macro_rules | `(tactic| k_room) => `(tactic| (first | ((try simp only [depth_under_make, depth_under_kw, depth_in1, depth_deeper, depth_caller]); decide) | (dsimp only [ktrTop, Around.deeper, Around.in1, Around.mark]; omega) | ((try simp only [depth_under_make, depth_under_kw, depth_in1, depth_deeper, depth_caller]); (try dsimp only [ktrTop, Around.deeper, Around.in1, Around.mark]); omega)))
local macro_rules | `(tactic| k_units) => `(tactic| (first | exact Nat.le_of_ble_eq_true rfl | (dsimp only [ktrTop, Around.deeper, Around.in1, Around.mark]; omega)))
local macro_rules | `(tactic| k_inst) => `(tactic| first | (refine' inst_up1 ?F ?I; (case F => k_asm); (case I => assumption)) | (refine' inst_up2 ?F2 ?F ?I; (case F2 => k_asm); (case F => k_asm); (case I => assumption)))
local macro_rules | `(tactic| walk_at "eval Name") => `(tactic| (k_here; k_dflt (refine' ld ?k1 ?k2 ?_; (case k1 => k_asm); (case k2 => assumption))))
local macro_rules | `(tactic| walk_at "call ref") => `(tactic| (k_here; (with_reducible show wpAny _ _ (call (Value.ref 146) _) _ _ _); refine of_here ?_))
local macro_rules | `(tactic| walk_at "call ref") => `(tactic| (k_here; (with_reducible show wpAny _ _ (call (Value.ref 213) _) _ _ _); refine of_here ?_))
local macro_rules | `(tactic| walk_at "compareOp Is") => `(tactic| (k_here; refine of_here ?_))
theorem frs3 {env envG : Env} {fr : List Env} {L1 Lg : Addr} {h h' : Heap} (hef : env.frame = some L1) (x : Trn (frs (envG :: env :: fr)) h h') (hg : envG.frame = some Lg) : Trn (Lg :: L1 :: frs fr) h h' := by
  rw [frs_cons hg, frs_cons hef] at x; exact x
theorem is_same {M : Model} {A : Around} {E : Value → Shared → Prop} {s : Shared} {a : Addr} {Q : Value → Shared → Prop} (h : Q (.bool true) s) : wpAny M A (compareOp .Is (.ref a) (.ref a)) Q E s := by
  show wpAny M A (do return .bool (← isSame (.ref a) (.ref a))) Q E s
  refine wpAny_bind ?_
  show wpAny M A (if (a == a) = true then pure true else _) _ E s
  rw [if_pos (by simp)]
  exact wpAny_pure (wpAny_pure h)
theorem is_other {M : Model} {A : Around} {E : Value → Shared → Prop} {s : Shared} {a b : Addr} {oa ob : Obj} {Q : Value → Shared → Prop} (hne : a ≠ b) (ha : s.heap.get? a = some oa) (hb : s.heap.get? b = some ob) (hnt : ob.cls ≠ .type "tuple") (h : Q (.bool false) s) : wpAny M A (compareOp .Is (.ref a) (.ref b)) Q E s := by
  show wpAny M A (do return .bool (← isSame (.ref a) (.ref b))) Q E s
  exact wpAny_bind (PySem.SeqAt.wpAny_isSame_ref_other' hne ha hb hnt (wpAny_pure h))
theorem is_not_var {w : World} {base : Heap} {nv : Int → Addr} {t : Tm} {r : Value} {i : Int} {A : Around} {E Q : Value → Shared → Prop} {s : Shared} (b3 : base.StaysIn s.heap) (V : VarAt w base nv) (hm : MdAt w base [sysModules] nv t r) (hw : Wf 0 5 t) (hti : t ≠ .var i) (hi : 0 ≤ i ∧ i < 5) (hq : Q (.bool false) s) :
    wpAny (model PySem.Challenge.rw_ez0159_01.row.prog w) A (compareOp .Is r (.ref (nv i))) Q E s := by
  obtain ⟨dv, u1, u2, Ii⟩ := (V.keep b3) i hi.1 hi.2
  cases t with
  | num k =>
    obtain ⟨tt, rfl⟩ := hm
    exact wpAny_is_other rfl (fun q => by cases q) hq
  | var j =>
    have hr : r = .ref (nv j) := hm
    subst hr
    obtain ⟨dv', u1', u2', Ij⟩ := (V.keep b3) j hw.1 hw.2
    refine is_other (fun q => hti (by rw [var_inj V ⟨hw.1, hw.2⟩ hi q])) Ij.at_ Ii.at_ (fun q => by unfold instObj at q; cases q) hq
  | node kd ts =>
    obtain ⟨rr, ys, rfl, nr, hmk, hys⟩ := hm
    obtain ⟨o, ho, hc⟩ := hmk.cls
    refine is_other (fun q => ?_) (b3 _ _ ho) Ii.at_ (fun q => by unfold instObj at q; cases q) hq
    have e1 := Ii.at_
    rw [← q, b3 _ _ ho] at e1
    cases e1
    unfold instObj at hc
    cases kd <;> cases hc
theorem gens_push {s : Shared} {h : Heap} {c : GenState} {tk : Nat} : GensBut (fun _ => False) s { s with heap := h, gens := s.gens.push c, toks := tk } := fun g st e _ => by
  have := (Array.getElem?_eq_some_iff.mp e).1
  show (s.gens.push c)[g]? = some st
  rw [Array.getElem?_push_lt this]; exact (Array.getElem?_eq_some_iff.mp e).2 ▸ rfl
theorem new_back {h h' : Heap} (a : ∀ b o, h.get? b = some o → ∃ o', h'.get? b = some o') {x : Addr} (e : h'.get? x = none) : h.get? x = none := by
  cases q : h.get? x with
  | none => rfl
  | some o => obtain ⟨o', e'⟩ := a x o q; rw [e] at e'; cases e'
theorem new_none {h : Heap} {x : Addr} (e : h.objs.size ≤ x) : h.get? x = none := Heap.get?_none_of_le e
/-- what `_reify` has made is a generator for the term -/
theorem gen_of_made {w : World} {fr : List Env} {base base0 : Heap} {hid : List Addr} {L1 sl : Addr} {nv : Int → Addr} {d : Addr} {A : Around} {xs : List Value} {za zo : Value} {s s' : Shared} {v : Value} {f : Addr} {P : (Str → Option Value) → Prop} {t : Tm}
    (S : LoopSt A base fr hid L1 sl xs za zo s.heap) (h0 : base0.objs.size ≤ s.heap.objs.size) (hm : MadeGen w s s' v f P)
    (hB : ∀ Lk c m, GenCode (Mine.hd.heap_39 w.params) f Lk c → P m → Lk ≠ L1 → (∀ b o, s.heap.get? b = some o → b ≠ Lk) → GenBody w fr base L1 sl nv d s'.heap Lk c m t) :
    ∃ Lk, GenFor w fr base base0 hid L1 sl nv d s' t v Lk s.gens.size ∧ s.heap.get? Lk = none := by
  obtain ⟨G, dG, ga, Lk, c, tk, m, h', tk', rfl, rfl, up, I, hg, hc, hns, hP, hz, l1, l2, l3⟩ := hm
  obtain ⟨oL1, e1⟩ := S.has L1 (by simp)
  have lt1 := Heap.lt_size e1
  have bk : L1 < Lk := Nat.lt_of_lt_of_le lt1 hz
  have zk : s.heap.get? Lk = none := new_none hz
  refine ⟨Lk, ⟨G, dG, ga, c, tk, m, rfl, I, hg, ?_, hns, .inr (Nat.lt_trans bk (Nat.lt_trans l2 l3)), .inr (Nat.lt_trans bk l2), .inr (Nat.lt_trans bk l1), .inr bk, Nat.ne_of_gt (Nat.lt_trans bk l2), Nat.ne_of_gt bk, Nat.ne_of_lt l2, ?_, ?_, Nat.le_trans h0 hz, hB Lk c m hc hP (Nat.ne_of_gt bk) fun b o e q => ?_⟩, zk⟩
  · show (s.gens.push (.fresh c))[s.gens.size]? = _
    simp
  · cases q : base.get? Lk with
    | none => rfl
    | some o => have := S.base _ _ q; rw [zk] at this; cases this
  · intro q
    obtain ⟨o, e⟩ := S.has Lk (by simp [q])
    rw [zk] at e; cases e
  · subst q; rw [zk] at e; cases e
theorem base_none {A : Around} {base h : Heap} {fr : List Env} {hid : List Addr} {L1 sl : Addr} {xs : List Value} {za zo : Value} (S : LoopSt A base fr hid L1 sl xs za zo h) {a : Addr} {o : Obj} (e : base.get? a = some o) : a ≠ L1 ∧ a ≠ sl ∧ a ∉ frs fr := by
  obtain ⟨g, m, n, F, B, q1, q2, q3, q4, hst, nsl, nL, hh⟩ := S.ex
  refine ⟨fun q => ?_, fun q => ?_, fun q => ?_⟩
  · subst q; have := B.stays _ _ e; rw [kts_self F] at this; cases this
  · subst q; have := B.stays _ _ e; rw [nsl] at this; cases this
  · rw [(B.frames.mem q).1] at e; cases e
theorem tget_g (w : World) {p : Program} {loose : List Str} {mean : ExcName → Option Value} {mg mb : Str → Option Value}
    {dp un : Nat} {gd : Option (List Code)} {fr : List Env} {base : Heap} {s : Shared} {nv : Int → Addr} {i : Int} {d : Addr} {kvs : List (Int × Value)} {sg : Int → Option Tm} {Ys : List Addr} {D n : Nat} {u : Tm} {Q E : Value → Shared → Prop}
    (B : Below ⟨none, dp, some fr, gd, un⟩ base fr s.heap) (X : (Mine.hd.heap_39 w.params).In base) (T : Top p loose mean mg mb base)
    (V : VarAt w base nv) (G : GivAt base nv d kvs) (K : KvAt w base Ys nv kvs sg D) (lo : (d == sysModules) = false) (hi : 0 ≤ i ∧ i < 5) (hW : Wh sg n (.var i) u)
    (hd : dp + 10 < recursionLimit) (hu : un + D + 100 < cLine)
    (hret : ∀ t r n' h' tks, Trn (frs fr) s.heap h' → Below ⟨none, dp, some fr, gd, un⟩ base fr h' → MdAt w base Ys nv t r → Wf 0 5 t → Wh sg n' t u → n' ≤ n → (∀ j, t = .var j → sg j = none) → (sg i = none → t = .var i) → (sg i ≠ none → n' < n) → Q r { s with heap := h', toks := tks }) :
    wpAny (model PySem.Challenge.rw_ez0159_01.row.prog w) ⟨none, dp, some fr, gd, un⟩ (call (.ref 146) [.ref (nv i), .ref d]) Q E s :=
  tget_c w B X T V G K lo hi hW hd hu fun t r n' h' tks ht => hret t r n' h' tks ht (ht.below B)
section
variable {w : World} {dp un : Nat} {gd : Option (List Code)} {fr : List Env} {base base0 : Heap} {hid : List Addr} {L1 sl : Addr} {env : Env} {C : Code} {nv : Int → Addr} {d : Addr} {kvs : List (Int × Value)} {sg : Int → Option Tm} {D : Nat} {R : Result → Shared → Prop}
/-- the end of a generator that changes nothing any more -/
def REnd : GenEnd := fun n s₀ x s₁ => n = 0 ∧ x = .ok (.ret .none) ∧ ∃ tk, s₁ = { s₀ with toks := tk }
/-- what `_reify_Var` yields -/
def YVar (w : World) (fr : List Env) (base base0 : Heap) (hid : List Addr) (L1 sl : Addr) (nv : Int → Addr) (d : Addr) (sg : Int → Option Tm) (nn : Nat) (u : Tm) (Lg : Addr) : Protocol := fun m s₀ v s' kap =>
  m = 0 ∧ Ext [Lg] (L1 :: frs fr) s₀ s' ∧ GensBut (fun _ => False) s₀ s' ∧ (∀ r' s'', kap (.send r') s'') ∧
    ((MdAt w base [sysModules] nv u v ∧ Wf 0 5 u ∧ ∀ kd ts, u ≠ .node kd ts) ∨ ∃ t n' Lk gk, Wh sg n' t u ∧ n' < nn ∧ GenFor w fr base base0 hid L1 sl nv d s' t v Lk gk ∧ s₀.heap.get? Lk = none ∧ s₀.gens.size ≤ gk)
theorem var_seg (cx : Cx w dp un gd fr base base0 hid L1 sl env C nv d kvs sg D) {s : Shared} {xs : List Value} {za zo : Value} {Lg : Addr} {c : Code} {m : Str → Option Value} {i : Int} {u : Tm} {nn : Nat}
    (S : LoopSt (A0x dp un gd fr) base fr hid L1 sl xs za zo s.heap) (hc : GenCode (Mine.hd.heap_39 w.params) 220 Lg c) (hns : s.heap.Ns Lg m) (q1 : m (Str.ofString "o") = some (.ref (nv i))) (q2 : m (Str.ofString "s") = some (.ref d)) (hi : 0 ≤ i ∧ i < 5)
    (oL : Lg ∈ hid ∨ L1 < Lg) (nL1 : Lg ≠ L1) (nsl : Lg ≠ sl) (nfr : Lg ∉ frs fr) (hb : base.get? Lg = none) (hL0 : base0.objs.size ≤ Lg) (hW : Wh sg nn (.var i) u) :
    Seg (model PySem.Challenge.rw_ez0159_01.row.prog w) (Asx dp un gd fr env) REnd (YVar w fr base base0 hid L1 sl nv d sg nn u Lg) 1 s c ((model PySem.Challenge.rw_ez0159_01.row.prog w).den c) [] s := by
  obtain ⟨p, loose, mean, mg, mb, T0⟩ := cx.T0
  have X0 := cx.X0
  have hd := cx.hd
  have hu := cx.hu
  obtain ⟨hef, hek⟩ := stream_env cx.code
  obtain ⟨oc, od, fd, osl, body, h1, h2, rfl⟩ := hc
  refine' with_fd h1 ?ho ?_
  case ho => k_is
  intro e
  subst e
  clear h1
  cases h2
  refine (?_ : Seg _ _ _ _ _ _ (.func _ (envOf _ _ _ _ _)) _ _ _)
  refine seg_func ?_
  refine seg_execs_cons ?_
  refine seg_stmt ?_
  have F : Fr base0 Lg s.heap m := ⟨hns, fun b o e => S.base b o (cx.b0 b o e), hL0⟩
  have N : News base0 Lg s.heap [] := News.nil
  refine (?_ : wpAny _ (⟨none, dp + 2, some (envOf _ _ _ _ _ :: env :: fr), gd, un + 3 + 1 + 3⟩ : Around) (exec _ (envOf _ _ _ _ _)) _ _ _)
  k_steps
  refine (?_ : wpAny _ _ (call _ _) _ _ _)
  have T := T0.keeps cx.b0
  refine' tget_g w (gen_below (S.below hef hek) ?ga ?gb ?gc hns hb) cx.X T cx.V cx.G cx.K cx.lo hi hW ?gd ?ge (fun t r n' h' tks ht BG' hm hw hW' hn' hfree hni hlt => ?_)
  case ga => exact rfl
  case gb => exact rfl
  case gc => exact rfl
  case gd => omega
  case ge => omega
  have F2 : Fr base0 Lg h' m := ⟨ht.ns hns, fun b o e => BG'.stays b o (cx.b0 b o e), hL0⟩
  obtain ⟨rest, N2, hex, hcov⟩ := coverage base0 h' Lg []
  have FK := fun h'' m' (F' : Fr base0 Lg h'' m') N' => keep_all (h' := h'') (l := []) F2 hcov N2 F' N' rfl
  clear F N
  k_steps
  refine seg_execs_cons ?_
  refine seg_If ?_
  refine (?_ : wpAny _ (⟨none, dp + 2, some (envOf _ _ _ _ _ :: env :: fr), gd, un + 3 + 1 + 3⟩ : Around) _ _ _ _)
  k_steps
  rename Fr base0 Lg _ _ => F3
  rename News base0 Lg _ _ => N3
  have U3 := FK _ _ F3 N3
  have ht2 := frs3 (Lg := Lg) hef ht rfl
  have S' := S.turnG ht2 oL nsl
  have S3 := S'.keep U3 (by intro b hb; rw [List.mem_singleton.mp hb]; exact ⟨nL1, nsl, oL⟩)
  have c3 : Chg [Lg] (L1 :: frs fr) s.heap _ := ⟨fun b o n n2 e => U3 b o n (ht2.keep b o (fun q => (List.mem_cons.mp q).elim (fun q => n (by simp [q])) n2) e), fun b o hm e => by
    obtain ⟨sl', hs⟩ := ht2.slots b o (List.mem_cons_of_mem _ hm) e
    refine ⟨sl', U3 b _ (fun q => ?_) hs⟩
    rw [List.mem_singleton.mp q] at hm
    exact (List.mem_cons.mp hm).elim nL1 nfr⟩
  have a3 := alive_of c3 (fun b hb => by rw [List.mem_singleton.mp hb]; obtain ⟨o, _, _, e, _⟩ := F3.ns; exact ⟨o, e⟩)
  have b3 := S3.base
  refine (?_ : wpAny _ _ (compareOp .Is _ _) _ _ _)
  have fin : ∀ {K : Flow → Sem Fin} {pos : Pos} {e : Option Expr} {yp : Pos} {c : Code} {H : Value → Sem Fin} {gd' : Bool → Bool} {lv : List Value → List Value} (r' : Value) (s'' : Shared), K .next = .pure (.done (.ret .none)) → Seg (model PySem.Challenge.rw_ez0159_01.row.prog w) (Asx dp un gd fr env) REnd (YVar w fr base base0 hid L1 sl nv d sg nn u Lg) 0 s'' c ((dropValue (.Yield e yp) pos r').wrap K H gd' lv) [] s'' := fun r' s'' hK =>
    seg_wrap (wpAny_dropValue (by rw [hK]; exact seg_end (.ok (.ret .none)) ⟨rfl, rfl, _, rfl⟩))
  by_cases hs : sg i = none
  · obtain rfl := hni hs
    have hr : r = .ref (nv i) := hm
    subst hr
    refine is_same ?_
    have hu : u = .var i := by
      cases hW with
      | free e => rfl
      | bound e h => rw [e] at hs; cases hs
    subst hu
    k_steps
    refine seg_execs_cons ?_
    refine seg_Expr_Y rfl rfl rfl ?_
    refine (?_ : wpAny _ (⟨none, dp + 2, some (envOf _ _ _ _ _ :: env :: fr), gd, un + 3 + 1 + 3⟩ : Around) _ _ _ _)
    k_steps
    rename_i kap hkap
    exact ⟨rfl, ⟨c3, a3, rfl, rfl, id⟩, fun _ _ e _ => e, fun r' s'' => hkap r' s'' (fin r' s'' rfl), .inl ⟨rfl, hi, fun kd ts q => by cases q⟩⟩
  · have hlt' := hlt hs
    have hti : t ≠ .var i := fun q => hs (hfree i q)
    refine is_not_var b3 cx.V hm hw hti hi ?_
    k_steps
    refine seg_execs_cons ?_
    refine seg_Expr_Y rfl rfl rfl ?_
    refine (?_ : wpAny _ (⟨none, dp + 2, some (envOf _ _ _ _ _ :: env :: fr), gd, un + 3 + 1 + 3⟩ : Around) _ _ _ _)
    k_steps
    refine (?_ : wpAny _ _ (call _ _) _ _ _)
    refine' reify_c w (gen_below (S3.below hef hek) ?ga ?gb ?gc F3.ns hb) cx.X T (cx.V.keep b3) (MdAt.keep (KeepX.of b3) _ hm) hw ?gd ?ge ?hnum ?hvar ?hnode
    case ga => exact rfl
    case gb => exact rfl
    case gc => exact rfl
    case gd => omega
    case ge => omega
    case hnum =>
      rintro k rfl h4 tk4 up4
      intro kap hkap
      have hu : u = .num k := by cases hW'; rfl
      subst hu
      exact ⟨rfl, ⟨c3.trans (Chg.of up4), fun b o e => let ⟨o', e'⟩ := a3 b o e; ⟨o', up4 _ _ e'⟩, rfl, rfl, id⟩, fun _ _ e _ => e, fun r' s'' => hkap r' s'' (fin r' s'' rfl), .inl ⟨hm, trivial, fun kd ts q => by cases q⟩⟩
    all_goals have h0 : base0.objs.size ≤ _ := Nat.le_trans hL0 (Nat.le_of_lt (let ⟨_, _, _, e, _⟩ := F3.ns; Heap.lt_size e))
    case hvar =>
      rintro j rfl v s' hmade
      intro kap hkap
      obtain ⟨Lk, hg, hz⟩ := gen_of_made (t := .var j) (d := d) (base0 := base0) S3 h0 hmade (fun Lk c m hc hP _ _ => ⟨hc, hP.1, hP.2, hw⟩)
      obtain ⟨G', dG', ga', Lk', c', tk', m', h4, tk4, e1, rfl, up4, _⟩ := hmade
      exact ⟨rfl, ⟨c3.trans (Chg.of up4), fun b o e => let ⟨o', e'⟩ := a3 b o e; ⟨o', up4 _ _ e'⟩, rfl, rfl, fun h => h.push rfl⟩, gens_push, fun r' s'' => hkap r' s'' (fin r' s'' rfl), .inr ⟨_, n', Lk, _, hW', hlt', hg, new_back a3 hz, Nat.le_refl _⟩⟩
    case hnode =>
      rintro kd ts rfl v s' hmade
      intro kap hkap
      obtain ⟨rr, ys, rfl, nr, hmk, hys⟩ := hm
      obtain ⟨orr, herr⟩ := hmk.has
      have hbn := base_none S3 herr
      have up4' : ∀ b o, Heap.get? _ b = some o → s'.heap.get? b = some o := let ⟨_, _, _, _, _, _, _, _, _, _, e, up, _⟩ := hmade; fun b o q => by rw [e]; exact up b o q
      obtain ⟨Lk, hg, hz⟩ := gen_of_made (t := .node kd ts) (d := d) (base0 := base0) S3 h0 hmade (fun Lk c m hc hP _ hne => ⟨hc, hP.1, hP.2.2, rr, ys, hP.2.1, hmk.keep (fun o e => up4' _ _ (b3 _ _ e)), hys, hw, fun _ q => nr (by simp [q]), hbn.1, hbn.2.1, hne _ _ (b3 _ _ herr), hbn.2.2⟩)
      obtain ⟨G', dG', ga', Lk', c', tk', m', h4, tk4, e1, rfl, up4, _⟩ := hmade
      exact ⟨rfl, ⟨c3.trans (Chg.of up4), fun b o e => let ⟨o', e'⟩ := a3 b o e; ⟨o', up4 _ _ e'⟩, rfl, rfl, fun h => h.push rfl⟩, gens_push, fun r' s'' => hkap r' s'' (fin r' s'' rfl), .inr ⟨_, n', Lk, _, hW', hlt', hg, new_back a3 hz, Nat.le_refl _⟩⟩
end

end Mine
end
section -- M29
open PySem PySem.W PySem.Calls PyProof.Rows
set_option maxRecDepth 100000
set_option maxHeartbeats 4000000
namespace Mine
/-- an iterator over the items of a dict, with the pair it has handed out -/
abbrev DIt (h : Heap) (it d : Addr) (i n ep : Nat) (f0 : Value) (b : Bool) (ok ov : Value) : Prop :=
  h.get? it = some { cls := .type "dict_itemiterator", dict := none, data := .fields #[f0, .bool b, .ref d, .int i 0, .int n 0, .int ep 0, ok, ov], slots := #[] }
section
variable {prog : Program} {w : World} {K : Type} [DecidableEq K] {knd : KeyKind prog w K} {A : Around} {E : Value → Shared → Prop} {s : Shared}
theorem alive_load {M : Model} {a : Addr} {Q : Option Obj → Shared → Prop} (h : Q (s.heap.get? a) s) : wpAny M A (loadIfAlive a) Q E s := fun _ _ _ => h
theorem dit_next_end {it d : Addr} {i ep : Nat} {kvs : List (K × Value)} {f0 ok ov : Value} {b : Bool} {Q : Option Value → Shared → Prop} (hh : A.handled = none) (hit : DIt s.heap it d i kvs.length ep f0 b ok ov)
    (hm : s.heap.DictAt knd d kvs ep) (hx : kvs[i]? = none) (hQ : ∀ h', Heap.ExtBut it s.heap h' → (∃ o, h'.get? it = some o) → Q none { s with heap := h' }) : wpAny (model prog w) A (pyNext (.ref it)) Q E s := by
  obtain ⟨od, es, hod, hcd, hdd, hk, hpr, hn⟩ := id hm
  have hT : s.TypeIs (.ref it) "dict_itemiterator" := ⟨_, hit, rfl⟩
  have hown : Builtin.Dict_items.ownsTuple "dict_itemiterator" = true := by decide
  have hsz : es.size = kvs.length := by rw [← hpr.length]; simp
  have hge : es.size ≤ i := by rw [hsz]; simpa using hx
  unfold pyNext
  refine wpAny_bind (wpAny_attempt (wpAny_callSpecial?_slot (name := Str.ofString "__next__") hT F.slot_dict_itemiterator_next
    (wpAny_call_entry F.slot_dict_itemiterator_next hT F.entry_dict_itemiterator_next ?_ (F.args_dict_itemiterator_next_1 _))))
  refine wpAny_bind (wpAny_pure (wpAny_bind (wpAny_bind ?_)))
  refine wpAny_bind (wpAny_typeNameOfWhole_itemiter hT (wpAny_pure (wpAny_bind (wpAny_fieldsOf hit rfl ?_))))
  simp only [hown, if_true]
  show wpAny _ _ (if (Value.ref d == Value.none) = true then _ else _) _ _ s
  rw [if_neg (show ¬ ((Value.ref d == Value.none) = true) from Bool.false_ne_true)]
  refine wpAny_bind (wpAny_pure (wpAny_bind (wpAny_dictEntries hod hdd ?_)))
  rw [if_neg (by rw [hsz]; simp)]
  refine wpAny_bind (wpAny_pure (wpAny_bind (wpAny_dictEpoch hod hdd ?_)))
  rw [if_neg (by simp)]
  refine wpAny_pure ?_
  simp only [show ¬ ((i : Int) < 0) from by omega, if_false, Int.toNat_natCast, Array.getElem?_eq_none hge]
  refine wpAny_bind (wpAny_bind (wpAny_typeNameOfWhole_itemiter hT (wpAny_pure ?_)))
  show wpAny _ _ (setField (.ref it) 2 .none >>= _) _ _ s
  refine wpAny_bind (wpAny_setField hit rfl (by simp) ?_)
  show wpAny _ _ (newExc (.type "StopIteration") [] >>= _) _ _ _
  refine wpAny_bind ?_
  simp only [newExc, newTuple]
  refine wpAny_bind (wpAny_newObj_type ?_ (by size_fits))
  refine wpAny_bind (m := firstArgMember _ _) (wpAny_of_eq (a := Value.none) (by first | rfl | (simp only [firstArgMember]; rfl)) ?_)
  refine wpAny_newObj_type ?_ (by size_fits)
  simp only [raiseNew]
  refine wpAny_bind (wpAny_handled ?_)
  rw [show A.in1.handled = none from hh]
  refine wpAny_bind (wpAny_pure (wpAny_throw ?_))
  refine wpAny_bind (wpAny_isInstance (T := "StopIteration") (b := true) ⟨_, Heap.get?_push_size _ rfl, rfl⟩ isSubtype_stop ?_)
  exact wpAny_pure (hQ _ (((Heap.SameBut.update ..).extBut.push _).push _) ⟨_, Heap.get?_push_of_some _ (Heap.get?_push_of_some _ (Heap.get?_update_self _ hit rfl))⟩)
theorem tuple_next_end {it l : Addr} {i : Nat} {items} {Q : Option Value → Shared → Prop} (hh : A.handled = none) (hit : s.heap.IsTupleIter it l i) (hl : s.heap.IsTuple l items) (hx : items[i]? = none)
    (hQ : ∀ h', Heap.ExtBut it s.heap h' → (∃ o, h'.get? it = some o) → Q none { s with heap := h' }) : wpAny (model prog w) A (pyNext (.ref it)) Q E s := by
  obtain ⟨o, ho, hc, hd⟩ := id hit
  obtain ⟨ol, hol, _, nl, hdl⟩ := hl
  unfold pyNext
  refine wpAny_bind (wpAny_attempt (wpAny_callSpecial?_slot (name := Str.ofString "__next__") hit.typeIs F.slot_tuple_iterator_next
    (wpAny_call_entry F.slot_tuple_iterator_next hit.typeIs F.entry_tuple_iterator_next ?_ (F.args_tuple_iterator_next_1 _))))
  show wpAny _ _ (field (.ref it) 0 >>= _) _ _ s
  refine wpAny_bind (wpAny_field ho hd (x := .ref l) rfl ?_)
  show wpAny _ _ (if (Value.ref l == Value.none) = true then _ else _) _ _ s
  rw [if_neg (show ¬ ((Value.ref l == Value.none) = true) from Bool.false_ne_true)]
  show wpAny _ _ (field (.ref it) 1 >>= _) _ _ s
  refine wpAny_bind (wpAny_field ho hd (x := .int i 0) rfl ?_)
  show wpAny _ _ (seqItems? (.ref l) >>= _) _ _ s
  refine wpAny_bind (wpAny_seqItems hol hdl ?_)
  simp only [Int.toNat_natCast, hx]
  refine wpAny_bind (wpAny_rule (wpAny_bind (wpAny_setField ho hd (by simp) ?_)))
  show wpAny _ _ (newExc (.type "StopIteration") [] >>= _) _ _ _
  refine wpAny_bind ?_
  simp only [newExc, newTuple]
  refine wpAny_bind (wpAny_newObj_type ?_ (by size_fits))
  refine wpAny_bind (m := firstArgMember _ _) (wpAny_of_eq (a := Value.none) (by first | rfl | (simp only [firstArgMember]; rfl)) ?_)
  refine wpAny_newObj_type ?_ (by size_fits)
  simp only [raiseNew]
  refine wpAny_bind (wpAny_handled ?_)
  rw [show A.in1.handled = none from hh]
  refine wpAny_bind (wpAny_pure (wpAny_throw ?_))
  refine wpAny_bind (wpAny_isInstance (T := "StopIteration") (b := true) ⟨_, Heap.get?_push_size _ rfl, rfl⟩ isSubtype_stop ?_)
  refine wpAny_pure (hQ _ (((Heap.SameBut.update ..).extBut.push _).push _) ⟨_, Heap.get?_push_of_some _ (Heap.get?_push_of_some _ (Heap.get?_update_self _ ho ?_))⟩)
  cases o
  dsimp only at hd
  subst hd
  rfl
theorem list_next_end {it l : Addr} {i : Nat} {items} {Q : Option Value → Shared → Prop} (hh : A.handled = none) (hit : s.heap.IsListIter it l i) (hl : s.heap.IsList l items) (hx : items[i]? = none)
    (hQ : ∀ h', Heap.ExtBut it s.heap h' → (∃ o, h'.get? it = some o) → Q none { s with heap := h' }) : wpAny (model prog w) A (pyNext (.ref it)) Q E s := by
  obtain ⟨o, ho, hc, hd⟩ := id hit
  obtain ⟨ol, hol, _, nl, hdl⟩ := hl
  unfold pyNext
  refine wpAny_bind (wpAny_attempt (wpAny_callSpecial?_slot (name := Str.ofString "__next__") hit.typeIs slot_listiter_next
    (wpAny_call_entry slot_listiter_next hit.typeIs entry_listiter_next ?_ (args_listiter_next _))))
  show wpAny _ _ (field (.ref it) 0 >>= _) _ _ s
  refine wpAny_bind (wpAny_field ho hd (x := .ref l) rfl ?_)
  show wpAny _ _ (if (Value.ref l == Value.none) = true then _ else _) _ _ s
  rw [if_neg (show ¬ ((Value.ref l == Value.none) = true) from Bool.false_ne_true)]
  show wpAny _ _ (field (.ref it) 1 >>= _) _ _ s
  refine wpAny_bind (wpAny_field ho hd (x := .int i 0) rfl ?_)
  show wpAny _ _ (seqItems? (.ref l) >>= _) _ _ s
  refine wpAny_bind (wpAny_seqItems hol hdl ?_)
  simp only [Int.toNat_natCast, hx]
  refine wpAny_bind (wpAny_rule (wpAny_bind (wpAny_setField ho hd (by simp) ?_)))
  show wpAny _ _ (newExc (.type "StopIteration") [] >>= _) _ _ _
  refine wpAny_bind ?_
  simp only [newExc, newTuple]
  refine wpAny_bind (wpAny_newObj_type ?_ (by size_fits))
  refine wpAny_bind (m := firstArgMember _ _) (wpAny_of_eq (a := Value.none) (by first | rfl | (simp only [firstArgMember]; rfl)) ?_)
  refine wpAny_newObj_type ?_ (by size_fits)
  simp only [raiseNew]
  refine wpAny_bind (wpAny_handled ?_)
  rw [show A.in1.handled = none from hh]
  refine wpAny_bind (wpAny_pure (wpAny_throw ?_))
  refine wpAny_bind (wpAny_isInstance (T := "StopIteration") (b := true) ⟨_, Heap.get?_push_size _ rfl, rfl⟩ isSubtype_stop ?_)
  refine wpAny_pure (hQ _ (((Heap.SameBut.update ..).extBut.push _).push _) ⟨_, Heap.get?_push_of_some _ (Heap.get?_push_of_some _ (Heap.get?_update_self _ ho ?_))⟩)
  cases o
  dsimp only at hd
  subst hd
  rfl
/-- a further pair, while the one handed out is still there -/
theorem dit_next_out {it d a : Addr} {i ep : Nat} {kvs : List (K × Value)} {k : K} {v ok ov : Value} {oa : Obj} {b : Bool} {Q : Option Value → Shared → Prop} (hit : DIt s.heap it d i kvs.length ep (rawInt a) b ok ov) (ha : s.heap.get? a = some oa) (hne : a ≠ it)
    (hm : s.heap.DictAt knd d kvs ep) (hx : kvs[i]? = some (k, v))
    (hQ : ∀ key h', knd.is k key = true → DIt h' it d (i + 1) kvs.length ep (rawInt a) true ok ov → h'.get? s.heap.objs.size = some { cls := .type "tuple", data := .seq #[key, v] } → h'.objs.size = s.heap.objs.size + 1 →
      (∀ b o, b ≠ it → s.heap.get? b = some o → h'.get? b = some o) → Q (some (.ref s.heap.objs.size)) { s with heap := h' }) : wpAny (model prog w) A (pyNext (.ref it)) Q E s := by
  obtain ⟨hp, g, dr, tk, os⟩ := s
  obtain ⟨od, es, hod, hcd, hdd, hk, hpr, hn⟩ := id hm
  have hT : Shared.TypeIs ⟨hp, g, dr, tk, os⟩ (.ref it) "dict_itemiterator" := ⟨_, hit, rfl⟩
  have hown : Builtin.Dict_items.ownsTuple "dict_itemiterator" = true := by decide
  have hsz : es.size = kvs.length := by rw [← hpr.length]; simp
  have hlt : i < kvs.length := (List.getElem?_eq_some_iff.mp hx).1
  have hlt' : i < es.size := by rw [hsz]; exact hlt
  obtain ⟨hkey, hval⟩ := hpr.get? (e := es[i]) (by simp [hlt']) hx
  have hil : it < hp.objs.size := Heap.lt_size hit
  unfold pyNext
  refine wpAny_bind (wpAny_attempt (wpAny_callSpecial?_slot (name := Str.ofString "__next__") hT F.slot_dict_itemiterator_next
    (wpAny_call_entry F.slot_dict_itemiterator_next hT F.entry_dict_itemiterator_next ?_ (F.args_dict_itemiterator_next_1 _))))
  refine wpAny_bind (wpAny_pure (wpAny_bind (wpAny_bind ?_)))
  refine wpAny_bind (wpAny_typeNameOfWhole_itemiter hT (wpAny_pure (wpAny_bind (wpAny_fieldsOf hit rfl ?_))))
  simp only [hown, if_true]
  show wpAny _ _ (if (Value.ref d == Value.none) = true then _ else _) _ _ _
  rw [if_neg (show ¬ ((Value.ref d == Value.none) = true) from Bool.false_ne_true)]
  refine wpAny_bind (wpAny_pure (wpAny_bind (wpAny_dictEntries hod hdd ?_)))
  rw [if_neg (by rw [hsz]; simp)]
  refine wpAny_bind (wpAny_pure (wpAny_bind (wpAny_dictEpoch hod hdd ?_)))
  rw [if_neg (by simp)]
  refine wpAny_pure ?_
  simp only [show ¬ ((i : Int) < 0) from by omega, if_false, Int.toNat_natCast, Array.getElem?_eq_getElem hlt']
  refine wpAny_bind (wpAny_bind (wpAny_typeNameOfWhole_itemiter hT (wpAny_pure (wpAny_bind (wpAny_isOneOf_itemiter hT ?_)))))
  show wpAny _ _ (setField (.ref it) 3 (rawInt ((i : Int) + 1)) >>= _) _ _ ⟨hp, g, dr, tk, os⟩
  refine wpAny_bind (wpAny_setField_rec hit (by simp) fun h₁ he₁ hs₁ => ?_)
  replace hs₁ : Heap.SameBut it hp h₁ := hs₁
  replace he₁ : DIt h₁ it d (i + 1) kvs.length ep (rawInt a) b ok ov := by
    have e : ((i + 1 : Nat) : Int) = (i : Int) + 1 := by omega
    unfold DIt; rw [e]; simpa [rawInt] using he₁
  have hT₁ : Shared.TypeIs ⟨h₁, g, dr, tk, os⟩ (.ref it) "dict_itemiterator" := ⟨_, he₁, rfl⟩
  refine wpAny_bind (wpAny_holding ?_)
  refine wpAny_bind (wpAny_isOneOf_itemiter hT₁ (wpAny_bind (wpAny_isOneOf_itemiter hT₁ ?_)))
  show wpAny _ _ (Builtin.Dict_items.pairFromOwner (.ref it) 6 es[i].key es[i].val) _ _ ⟨h₁, g, dr, tk, os⟩
  unfold Builtin.Dict_items.pairFromOwner
  refine wpAny_bind (wpAny_newTuple ?_)
  have hz₁ : h₁.objs.size = hp.objs.size := hs₁.1
  have he₂ : DIt (h₁.push { cls := .type "tuple", data := .seq #[es[i].key, es[i].val] }) it d (i + 1) kvs.length ep (rawInt a) b ok ov := Heap.get?_push_of_some _ he₁
  have ht₂ : (h₁.push { cls := .type "tuple", data := .seq #[es[i].key, es[i].val] }).get? hp.objs.size = some { cls := .type "tuple", data := .seq #[es[i].key, es[i].val] } := by rw [← hz₁]; exact Heap.get?_push_size _ rfl
  have hz₂ : (h₁.push { cls := .type "tuple", data := .seq #[es[i].key, es[i].val] }).objs.size = hp.objs.size + 1 := by rw [Heap.size_push, hz₁]
  have hk₂ : ∀ b o, b ≠ it → hp.get? b = some o → (h₁.push { cls := .type "tuple", data := .seq #[es[i].key, es[i].val] }).get? b = some o := fun b o hb e => Heap.get?_push_of_some _ (hs₁.extBut b o hb e)
  generalize (h₁.push { cls := .type "tuple", data := .seq #[es[i].key, es[i].val] }) = h₂ at he₂ ht₂ hz₂ hk₂
  show wpAny _ _ (Builtin.Dict_items.ownedTupleIsFree (.ref it) >>= _) _ _ ⟨h₂, g, dr, tk, os⟩
  rw [hz₁]
  refine wpAny_bind ?_
  unfold Builtin.Dict_items.ownedTupleIsFree
  refine wpAny_bind (wpAny_field he₂ rfl (x := rawInt a) rfl ?_)
  show wpAny _ _ (loadIfAlive ((a : Int).toNat) >>= _) _ _ _
  refine wpAny_bind (alive_load ?_)
  rw [show ((a : Int).toNat) = a from Int.toNat_natCast a, show (⟨h₂, g, dr, tk, os⟩ : Shared).heap.get? a = some oa from hk₂ a oa hne ha]
  rw [if_neg (by simp)]
  have fin : ∀ h₃, DIt h₃ it d (i + 1) kvs.length ep (rawInt a) true ok ov → Heap.SameBut it h₂ h₃ → Q (some (.ref hp.objs.size)) ⟨h₃, g, dr, tk, os⟩ := fun h₃ e₃ s₃ =>
    hQ es[i].key h₃ hkey e₃ (by rw [← hval]; exact s₃.extBut _ _ (Nat.ne_of_gt hil) ht₂) (s₃.1.trans hz₂) fun b o hb e => s₃.extBut b o hb (hk₂ b o hb e)
  cases b with
  | true =>
    refine wpAny_bind (wpAny_field he₂ rfl (x := .bool true) rfl ?_)
    rw [if_neg (by simp)]
    refine wpAny_pure ?_
    simp only [Bool.false_eq_true, if_false]
    exact wpAny_pure (wpAny_pure ⟨_, rfl, wpAny_pure (fin h₂ he₂ (Heap.SameBut.refl ..))⟩)
  | false =>
    refine wpAny_bind (wpAny_field he₂ rfl (x := .bool false) rfl ?_)
    rw [if_pos (by simp)]
    refine wpAny_bind (wpAny_setField_rec he₂ (by simp) fun h₃ he₃ hs₃ => ?_)
    refine wpAny_pure ?_
    simp only [Bool.false_eq_true, if_false]
    exact wpAny_pure (wpAny_pure ⟨_, rfl, wpAny_pure (fin h₃ he₃ hs₃)⟩)
end
end Mine
end
section -- M30
open PySem PySem.W PySem.Calls PyProof.Rows
set_option maxRecDepth 100000
set_option maxHeartbeats 4000000
namespace Mine
/-- an iterator over what a made term bears, at place `j` -/
def IterAt (w : World) (h : Heap) (kd : Kd) (rr : Addr) (ys : List Value) (it j : Nat) : Prop := match kd with
  | .row => h.IsTupleIter it rr j
  | .lst => h.IsListIter it rr j
  | .dct => ∃ ep f0 b ok ov, DIt h it rr j ys.length ep f0 b ok ov ∧ h.DictAt (intKind PySem.Challenge.rw_ez0159_01.row.prog w) rr (enumV 0 ys) ep ∧ (f0 = .none ∧ b = false ∨ ∃ a : Addr, f0 = rawInt a ∧ a ≠ it ∧ ∃ o, h.get? a = some o)
theorem IterAt.keep {w : World} {h h' : Heap} {kd : Kd} {rr : Addr} {ys : List Value} {it j : Nat} (x : IterAt w h kd rr ys it j) (k1 : ∀ o, h.get? it = some o → h'.get? it = some o) (k2 : ∀ o, h.get? rr = some o → h'.get? rr = some o) (al : ∀ b o, h.get? b = some o → ∃ o', h'.get? b = some o') : IterAt w h' kd rr ys it j := by
  cases kd with
  | row => obtain ⟨o, ho, r⟩ := x; exact ⟨o, k1 _ ho, r⟩
  | lst => obtain ⟨o, ho, r⟩ := x; exact ⟨o, k1 _ ho, r⟩
  | dct =>
    obtain ⟨ep, f0, b, ok, ov, hi, ⟨o, es, ho, r⟩, hf⟩ := x
    refine ⟨ep, f0, b, ok, ov, k1 _ hi, ⟨o, es, k2 _ ho, r⟩, ?_⟩
    rcases hf with q | ⟨a, q, n, o', e⟩
    · exact .inl q
    · exact .inr ⟨a, q, n, al _ _ e⟩
/-- what the iterator hands out -/
def ItemAt (h h' : Heap) (kd : Kd) (j : Nat) (yj y : Value) : Prop := match kd with
  | .dct => ∃ a t, y = .ref a ∧ IsTup h' a #[.int j t, yj] ∧ h.get? a = none
  | _ => y = yj
section
variable {w : World} {A : Around} {E : Value → Shared → Prop} {s : Shared} {kd : Kd} {rr it j : Nat} {ys : List Value}
theorem iter_next {yj : Value} {Q : Option Value → Shared → Prop} (hi : IterAt w s.heap kd rr ys it j) (hm : MkAt w s.heap rr ys kd) (hne : rr ≠ it) (hx : ys[j]? = some yj)
    (hQ : ∀ y h', ItemAt s.heap h' kd j yj y → IterAt w h' kd rr ys it (j + 1) → KeepX [it] s.heap h' → (∃ o, h'.get? it = some o) → Q (some y) { s with heap := h' }) : wpAny (model PySem.Challenge.rw_ez0159_01.row.prog w) A (pyNext (.ref it)) Q E s := by
  cases kd with
  | row =>
    refine wpAny_pyNext_tuple_item hi (show s.heap.IsTuple rr ys.toArray from hm) (by simpa using hx) fun h' hi' hs => ?_
    exact hQ _ _ rfl hi' (fun b o n e => hs.extBut b o (by simpa using n) e) (let ⟨o, e, _⟩ := hi'; ⟨o, e⟩)
  | lst =>
    obtain ⟨n, ho⟩ := (show s.heap.PlainList rr ys.toArray from hm)
    refine wpAny_pyNext_list_item hi ⟨_, ho, rfl, n, rfl⟩ (by simpa using hx) fun h' hi' hs => ?_
    exact hQ _ _ rfl hi' (fun b o n e => hs.extBut b o (by simpa using n) e) (let ⟨o, e, _⟩ := hi'; ⟨o, e⟩)
  | dct =>
    obtain ⟨ep, f0, b, ok, ov, hd, hat, hf⟩ := hi
    have hx' : (enumV 0 ys)[j]? = some (((j : Nat) : Int), yj) := by rw [enumV_get, hx]; simp
    have fin : ∀ key h' f0' b' ok' ov', (intKind PySem.Challenge.rw_ez0159_01.row.prog w).is ((j : Nat) : Int) key = true → DIt h' it rr (j + 1) ys.length ep f0' b' ok' ov' → h'.get? s.heap.objs.size = some { cls := .type "tuple", data := .seq #[key, yj] } → (∀ b o, b ≠ it → s.heap.get? b = some o → h'.get? b = some o) →
        (f0' = .none ∧ b' = false ∨ ∃ a : Addr, f0' = rawInt a ∧ a ≠ it ∧ ∃ o, h'.get? a = some o) → Q (some (.ref s.heap.objs.size)) { s with heap := h' } := by
      intro key h' f0' b' ok' ov' hkey hd' ht hk hf'
      obtain ⟨t, rfl⟩ : ∃ t, key = .int j t := by
        cases key <;> simp [intKind, Value.isInt] at hkey
        subst hkey
        exact ⟨_, rfl⟩
      obtain ⟨o, es, ho, r⟩ := hat
      exact hQ _ _ ⟨_, t, rfl, ⟨_, ht, rfl, _, rfl⟩, Heap.get?_none_of_le (Nat.le_refl _)⟩ ⟨ep, f0', b', ok', ov', hd', ⟨o, es, hk _ _ hne ho, r⟩, hf'⟩ (fun b o n e => hk b o (by simpa using n) e) ⟨_, hd'⟩
    have hlen : (enumV 0 ys).length = ys.length := enumV_length
    rw [← hlen] at hd
    rcases hf with ⟨rfl, rfl⟩ | ⟨a, rfl, na, oa, ha⟩
    · refine wpAny_pyNext_items_item (show IsItemIter s.heap it rr j (enumV 0 ys).length ep ok ov from hd) hat hx' fun key h' hkey hd' ht hz hk => ?_
      have hlt : it < s.heap.objs.size := Heap.lt_size hd
      exact fin key h' (rawInt s.heap.objs.size) false key yj hkey (by rw [← hlen]; exact hd') ht hk (.inr ⟨_, rfl, Nat.ne_of_gt hlt, _, ht⟩)
    · refine dit_next_out hd ha na hat hx' fun key h' hkey hd' ht hz hk => ?_
      exact fin key h' (rawInt a) true ok ov hkey (by rw [← hlen]; exact hd') ht hk (.inr ⟨_, rfl, na, _, hk _ _ na ha⟩)
theorem iter_end {Q : Option Value → Shared → Prop} (hh : A.handled = none) (hi : IterAt w s.heap kd rr ys it j) (hm : MkAt w s.heap rr ys kd) (hx : ys[j]? = none)
    (hQ : ∀ h', KeepX [it] s.heap h' → (∃ o, h'.get? it = some o) → Q none { s with heap := h' }) : wpAny (model PySem.Challenge.rw_ez0159_01.row.prog w) A (pyNext (.ref it)) Q E s := by
  cases kd with
  | row => exact tuple_next_end hh hi (show s.heap.IsTuple rr ys.toArray from hm) (by simpa using hx) fun h' hs => hQ _ fun b o n e => hs b o (by simpa using n) e
  | lst =>
    obtain ⟨n, ho⟩ := (show s.heap.PlainList rr ys.toArray from hm)
    exact list_next_end hh hi ⟨_, ho, rfl, n, rfl⟩ (by simpa using hx) fun h' hs => hQ _ fun b o n e => hs b o (by simpa using n) e
  | dct =>
    obtain ⟨ep, f0, b, ok, ov, hd, hat, hf⟩ := hi
    have hlen : (enumV 0 ys).length = ys.length := enumV_length
    rw [← hlen] at hd
    exact dit_next_end hh hd hat (by rw [enumV_get, hx]; rfl) fun h' hs => hQ _ fun b o n e => hs b o (by simpa using n) e
/-- the iterator over the object itself -/
theorem iter_start {Q : Value → Shared → Prop} (hm : MkAt w s.heap rr ys kd) (hkd : kd ≠ .dct)
    (hQ : ∀ it h', it = s.heap.objs.size → IterAt w h' kd rr ys it 0 → (∀ b o, s.heap.get? b = some o → h'.get? b = some o) → (∃ o, h'.get? it = some o) → Q (.ref it) { s with heap := h' }) : wpAny (model PySem.Challenge.rw_ez0159_01.row.prog w) A (pyIter (.ref rr)) Q E s := by
  cases kd with
  | row =>
    refine wpAny_pyIter_tuple (show s.heap.IsTuple rr ys.toArray from hm) ?_
    exact hQ _ _ rfl ⟨_, Heap.get?_push_size _ rfl, rfl, rfl⟩ (fun b o e => Heap.get?_push_of_some _ e) ⟨_, Heap.get?_push_size _ rfl⟩
  | lst =>
    obtain ⟨n, ho⟩ := (show s.heap.PlainList rr ys.toArray from hm)
    refine wpAny_pyIter_list (items := ys.toArray) ⟨_, ho, rfl, n, rfl⟩ ?_
    exact hQ _ _ rfl ⟨_, Heap.get?_push_size _ rfl, rfl, rfl⟩ (fun b o e => Heap.get?_push_of_some _ e) ⟨_, Heap.get?_push_size _ rfl⟩
  | dct => exact absurd rfl hkd
/-- the iterator over the items of a dict -/
theorem iter_startD {v : Addr} {Q : Value → Shared → Prop} (hv : s.heap.IsItemsView v rr) (hm : MkAt w s.heap rr ys .dct)
    (hQ : ∀ it h', it = s.heap.objs.size → IterAt w h' .dct rr ys it 0 → (∀ b o, s.heap.get? b = some o → h'.get? b = some o) → (∃ o, h'.get? it = some o) → Q (.ref it) { s with heap := h' }) : wpAny (model PySem.Challenge.rw_ez0159_01.row.prog w) A (pyIter (.ref v)) Q E s := by
  obtain ⟨o, es, ep, ho, r⟩ := (show s.heap.DictOf (intKind PySem.Challenge.rw_ez0159_01.row.prog w) rr (enumV 0 ys) from hm)
  have hat : s.heap.DictAt (intKind PySem.Challenge.rw_ez0159_01.row.prog w) rr (enumV 0 ys) ep := ⟨o, es, ho, r⟩
  refine wpAny_pyIter_items hv hat ?_
  have hlen : (enumV 0 ys).length = ys.length := enumV_length
  refine hQ _ _ rfl ⟨ep, .none, false, .none, .none, ?_, ⟨o, es, Heap.get?_push_of_some _ ho, r⟩, .inl ⟨rfl, rfl⟩⟩ (fun b o e => Heap.get?_push_of_some _ e) ⟨_, Heap.get?_push_size _ rfl⟩
  unfold DIt
  rw [← hlen]
  exact Heap.get?_push_size _ rfl
end
end Mine
end
section -- M31
open PySem PySem.W PySem.Calls PyProof.Rows
set_option maxRecDepth 100000
set_option maxHeartbeats 4000000
namespace Mine
/-- what is reified at place `j` -/
def kidT (kd : Kd) (j : Nat) (t : Tm) : Tm := match kd with
  | .dct => .node .row [.num (j : Int), t]
  | _ => t
def kidsT (kd : Kd) : Nat → List Tm → List Tm
  | _, [] => []
  | j, t :: r => kidT kd j t :: kidsT kd (j + 1) r
theorem kidsT_get {kd : Kd} : ∀ {ts : List Tm} {i j : Nat}, (kidsT kd i ts)[j]? = ts[j]?.map (kidT kd (i + j))
  | [], i, j => by simp [kidsT]
  | t :: r, i, 0 => by simp [kidsT]
  | t :: r, i, j + 1 => by
    rw [kidsT, List.getElem?_cons_succ, kidsT_get, List.getElem?_cons_succ]
    have : i + 1 + j = i + (j + 1) := by omega
    rw [this]
theorem kidsT_length {kd : Kd} : ∀ {ts : List Tm} {i : Nat}, (kidsT kd i ts).length = ts.length
  | [], _ => rfl
  | t :: r, i => by simp [kidsT, kidsT_length]
theorem kidsT_same {kd : Kd} (h : kd ≠ .dct) : ∀ {ts : List Tm} {i : Nat}, kidsT kd i ts = ts
  | [], _ => rfl
  | t :: r, i => by
    rw [kidsT, kidsT_same h]
    cases kd <;> first | rfl | exact absurd rfl h
theorem isTup_eq {h : Heap} {a : Addr} {xs ys : Array Value} (x : IsTup h a xs) (y : IsTup h a ys) : xs = ys := by
  obtain ⟨o, e, _, n, d⟩ := x
  obtain ⟨o', e', _, n', d'⟩ := y
  rw [e] at e'; cases e'
  rw [d] at d'; cases d'
  rfl
theorem dct_split {w : World} {h : Heap} {X : List Addr} {nv : Int → Addr} : ∀ {us : List Tm} {i : Nat} {vs : List Value}, MdsAt w h X nv (kidsT .dct i us) vs →
    ∃ prs : List (Value × Value), vs.length = prs.length ∧ prs.length = us.length ∧ (∀ (j : Nat) (v k x : Value), vs[j]? = some v → prs[j]? = some (k, x) → ∃ a, v = .ref a ∧ IsTup h a #[k, x]) ∧ (∀ (j : Nat) (k x : Value), prs[j]? = some (k, x) → ∃ t, k = .int ((i + j : Nat) : Int) t) ∧
      ∀ Z, MdsAt w h Z nv (kidsT .dct i us) vs → MdsAt w h Z nv us (prs.map (·.2))
  | [], i, vs, hm => by
    unfold kidsT MdsAt at hm
    subst hm
    exact ⟨[], rfl, rfl, fun j v k x e => by simp at e, fun j k x e => by simp at e, fun Z z => by show MdsAt w h Z nv [] []; unfold MdsAt; rfl⟩
  | u :: r, i, vs, hm => by
    unfold kidsT at hm
    unfold MdsAt at hm
    obtain ⟨v, vs', rfl, hv, hr⟩ := hm
    obtain ⟨prs, l1, l2, p1, p2, p3⟩ := dct_split hr
    obtain ⟨a, ys, rfl, na, hmk, hys⟩ := hv
    unfold MdsAt at hys
    obtain ⟨y1, ys1, rfl, ⟨t, rfl⟩, hys⟩ := hys
    unfold MdsAt at hys
    obtain ⟨y2, ys2, rfl, hy2, hys⟩ := hys
    unfold MdsAt at hys
    subst hys
    have ht : IsTup h a #[.int (i : Int) t, y2] := hmk
    refine ⟨(.int (i : Int) t, y2) :: prs, by simp [l1], by simp [l2], fun j v k x e1 e2 => ?_, fun j k x e => ?_, fun Z hz => ?_⟩
    · cases j with
      | zero => simp at e1 e2; obtain ⟨rfl, rfl⟩ := e2; subst e1; exact ⟨a, rfl, ht⟩
      | succ j => simp at e1 e2; exact p1 j v k x e1 e2
    · cases j with
      | zero => simp at e; obtain ⟨rfl, rfl⟩ := e; exact ⟨t, rfl⟩
      | succ j =>
        simp at e
        obtain ⟨t', e'⟩ := p2 j k x e
        exact ⟨t', by rw [e']; congr 2; omega⟩
    · unfold kidsT at hz
      unfold MdsAt at hz
      obtain ⟨v', vs'', e, hv', hr'⟩ := hz
      cases e
      obtain ⟨a', ys', e, na', hmk', hys'⟩ := hv'
      cases e
      have ht' : IsTup h a ys'.toArray := hmk'
      have he := isTup_eq ht' ht
      have : ys' = [.int (i : Int) t, y2] := by
        have := congrArg Array.toList he
        simpa using this
      subst this
      unfold MdsAt at hys'
      obtain ⟨z1, zs1, e, _, hz2⟩ := hys'
      cases e
      unfold MdsAt at hz2
      obtain ⟨z2, zs2, e, hz3, _⟩ := hz2
      cases e
      show MdsAt w h Z nv (u :: r) (y2 :: prs.map (·.2))
      unfold MdsAt
      exact ⟨y2, _, rfl, hz3, p3 Z hr'⟩
section
variable {w : World} {A : Around} {E : Value → Shared → Prop} {s : Shared} {kd : Kd} {rs : Addr} {vs : List Value} {n : Nat} {us : List Tm} {X : List Addr} {nv : Int → Addr}
theorem zip_enum {i : Int} : ∀ {prs : List (Value × Value)}, (∀ (j : Nat) (k x : Value), prs[j]? = some (k, x) → ∃ t, k = .int (i + (j : Nat)) t) → IntPairs prs (enumV i (prs.map (·.2))) := fun {prs} h => by
  refine ⟨by rw [enumV_length]; simp, fun j k x e => ?_⟩
  obtain ⟨t, rfl⟩ := h j k x e
  exact ⟨_, t, rfl, by rw [enumV_get]; simp [e]⟩
/-- the container made of the list of what has been reified -/
theorem ctor_c (hh : A.handled = none) (hl : s.heap.get? rs = some (W.listOf vs.toArray n)) (hm : MdsAt w s.heap X nv (kidsT kd 0 us) vs) (hlen : us.length ≤ 3) {T : String} (hT : T = match kd with | .row => "tuple" | .lst => "list" | .dct => "dict") {Q : Value → Shared → Prop}
    (hQ : ∀ a h' tk ys, s.heap.get? a = none → (∀ b o, s.heap.get? b = some o → h'.get? b = some o) → MkAt w h' a ys kd → (∀ Z, MdsAt w s.heap Z nv (kidsT kd 0 us) vs → MdsAt w h' Z nv us ys) → Q (.ref a) { s with heap := h', toks := tk }) :
    wpAny (model PySem.Challenge.rw_ez0159_01.row.prog w) A (call (.type T) [.ref rs]) Q E s := by
  have hvl : vs.length ≤ 3 := by rw [hm.length, kidsT_length]; exact hlen
  have hz : vs.toArray.size ≤ sizeLine := by
    have : (1000 : Nat) ≤ sizeLine := by decide
    simp; omega
  have IL : s.heap.IsList rs vs.toArray := ⟨_, hl, rfl, n, rfl⟩
  cases kd with
  | row =>
    subst hT
    refine call_tuple_list IL (fun h' hk => ?_) hz
    have e := kidsT_same (kd := .row) (ts := us) (i := 0) (fun q => by cases q)
    refine hQ _ _ _ vs ?_ (fun b o e => Heap.get?_push_of_some _ (hk b o e)) ⟨_, Heap.get?_push_size _ rfl, rfl, _, rfl⟩ fun Z hz => ?_
    · cases q : s.heap.get? h'.objs.size with
      | none => rfl
      | some o => exact absurd (Heap.lt_size (hk _ _ q)) (Nat.lt_irrefl _)
    · rw [e] at hz
      exact MdsAt.keep (KeepX.of fun b o e => Heap.get?_push_of_some _ (hk b o e)) _ hz
  | lst =>
    subst hT
    have e := kidsT_same (kd := .lst) (ts := us) (i := 0) (fun q => by cases q)
    refine call_list_seq (hsz := hz) rs (.inl rfl) hl rfl rfl fun h' c' hk hD => ?_
    refine hQ _ _ _ vs (Heap.get?_none_of_le (Nat.le_refl _)) hk ⟨_, hD⟩ fun Z hz => ?_
    rw [e] at hz
    exact MdsAt.keep (KeepX.of hk) _ hz
  | dct =>
    subst hT
    obtain ⟨prs, l1, l2, p1, p2, p3⟩ := dct_split hm
    refine call_dict_ints hh ⟨n, hl⟩ l1 p1 (zip_enum (i := 0) fun j k x e => let ⟨t, q⟩ := p2 j k x e; ⟨t, by rw [q]; congr 2⟩) enumV_nodup (by rw [enumV_length]; simp; omega) fun h' tk hD hk => ?_
    have hM : MkAt w h' s.heap.objs.size (prs.map (·.2)) .dct := hD
    exact hQ _ _ _ _ (Heap.get?_none_of_le (Nat.le_refl _)) hk hM fun Z hz => MdsAt.keep (KeepX.of hk) _ (p3 Z hz)
end
end Mine
end
section -- N19
open PySem PySem.W PySem.Calls PyProof.Rows
set_option maxRecDepth 100000
set_option maxHeartbeats 8000000
set_option linter.unusedVariables false
namespace Mine
local macro_rules | `(tactic| k_all) => `(tactic| assumption)
local macro_rules | `(tactic| ktr_enter) => `(tactic| first
  | (refine' code_defG ?k1 ?k2 ?k3 ?k4 ?k5 ?kA ?kF ?kK ?k6 ?k7 ?k8 ?k9 ?kB ?_ ?c2 ?c3 ?c4 ?c5; (case kA => exact rfl); (case kF => exact rfl); (case kK => first | assumption | exact rfl); (case k1 => k_asm); (case k2 => k_asm); (case k3 => k_asm); (case k4 => first | k_asm | exact News.nil); (case k5 => k_asm); (case k6 => k_is); (case k7 => k_is); (case k8 => ktr_room); (case k9 => exact BindsTo.of_eq rfl); (case c5 => decide); (case kB => exact locs rfl); (case c2 => exact rfl); (case c3 => exact rfl); (case c4 => exact rfl))
  | (refine' code_defCG ?k1 ?k2 ?k3 ?k4 ?k5 ?kA ?kF ?kK ?k6 ?k7 ?k8 ?k9 ?kB ?kD ?_ ?c2 ?c3 ?c4; (case kA => exact rfl); (case kF => exact rfl); (case kK => first | assumption | exact rfl); (case k1 => k_asm); (case k2 => k_asm); (case k3 => k_asm); (case k4 => first | k_asm | exact News.nil); (case k5 => k_asm); (case k6 => k_is); (case k7 => k_is); (case k8 => ktr_room); (case k9 => exact BindsTo.of_eq rfl); (case kB => exact rfl); (case kD => decide +kernel); (case c2 => exact rfl); (case c3 => exact rfl); (case c4 => exact rfl)))
local macro_rules | `(tactic| k_room) => `(tactic| (first | ((try simp only [depth_under_make, depth_under_kw, depth_in1, depth_deeper, depth_caller]); decide) | (dsimp only [ktrTop, Around.deeper, Around.in1, Around.mark]; omega) | ((try simp only [depth_under_make, depth_under_kw, depth_in1, depth_deeper, depth_caller]); (try dsimp only [ktrTop, Around.deeper, Around.in1, Around.mark]); omega)))
local macro_rules | `(tactic| k_units) => `(tactic| (first | exact Nat.le_of_ble_eq_true rfl | (dsimp only [ktrTop, Around.deeper, Around.in1, Around.mark]; omega)))
local macro_rules | `(tactic| k_inst) => `(tactic| first | (refine' inst_up1 ?F ?I; (case F => k_asm); (case I => assumption)) | (refine' inst_up2 ?F2 ?F ?I; (case F2 => k_asm); (case F => k_asm); (case I => assumption)))
local macro_rules | `(tactic| walk_at "eval Name") => `(tactic| (k_here; k_dflt (refine' ld ?k1 ?k2 ?_; (case k1 => k_asm); (case k2 => assumption))))
local macro_rules | `(tactic| walk_at "call ref") => `(tactic| (k_here; (with_reducible show wpAny _ _ (call (Value.ref 213) _) _ _ _); refine of_here ?_))
local macro_rules | `(tactic| walk_at "call builtin:isinstance") => `(tactic| (k_here; refine of_here ?_))
local macro_rules | `(tactic| walk_at "getMethod ref") => `(tactic| (k_here; (with_reducible show wpAny _ _ (getMethod (Value.ref _) (PySem.Str.ofString "items") _) _ _ _); refine of_here ?_))
local macro_rules | `(tactic| walk_at "call builtin:dict.items") => `(tactic| (k_here; refine of_here ?_))
theorem seg_ind {M : Model} {A : Around} {R : GenEnd} {Y : Protocol} {c : Code} {t : Sem Fin} {fs : List Frame} (I : Nat → Nat → Shared → Shared → Prop)
    (step : ∀ k n s₀ s, I k n s₀ s → (∀ k' n' s₀' s', k' < k → I k' n' s₀' s' → Seg M A R Y n' s₀' c t fs s') → Seg M A R Y n s₀ c t fs s) (k n : Nat) (s₀ s : Shared) (h : I k n s₀ s) : Seg M A R Y n s₀ c t fs s := by
  induction k using Nat.strongRecOn generalizing n s₀ s with
  | ind k ih => exact step k n s₀ s h fun k' n' s₀' s' hk hi => ih k' hk n' s₀' s' hi
/-- the parts that are no numbers -/
def cntT : List Tm → Nat
  | [] => 0
  | .num _ :: r => cntT r
  | _ :: r => cntT r + 1
section
variable {w : World} {dp un : Nat} {gd : Option (List Code)} {fr : List Env} {base base0 : Heap} {hid : List Addr} {L1 sl : Addr} {env : Env} {C : Code} {nv : Int → Addr} {d : Addr} {kvs : List (Int × Value)} {sg : Int → Option Tm} {D : Nat} {R : Result → Shared → Prop}
/-- what `_reify_Iterable_ctor` yields -/
def YNode (w : World) (dp un : Nat) (gd : Option (List Code)) (fr : List Env) (base base0 : Heap) (hid : List Addr) (L1 sl : Addr) (nv : Int → Addr) (d : Addr) (hs : Heap) (kd : Kd) (ts us : List Tm) (Lg : Addr) : Protocol := fun m s₀ v s' kap =>
  ∃ O : List Addr, (∀ b ∈ O, b = Lg ∨ (hs.get? b = none ∧ L1 < b)) ∧ Ext O (L1 :: frs fr) s₀ s' ∧ GensBut (fun _ => False) s₀ s' ∧
    ((2 ≤ m ∧ ∃ (t u : Tm) (Lk gk j : Nat), (kidsT kd 0 ts)[j]? = some t ∧ (kidsT kd 0 us)[j]? = some u ∧ GenFor w fr base base0 hid L1 sl nv d s' t v Lk gk ∧ s₀.heap.get? Lk = none ∧ s₀.gens.size ≤ gk ∧ (∀ n, t ≠ .num n) ∧
        ∀ r' s'', Ext (L1 :: sl :: [Lk]) (frs fr) s' s'' → (∃ xs za zo, LoopSt (A0x dp un gd fr) base fr hid L1 sl xs za zo s''.heap) → MdF w s'.heap s''.heap nv u r' → kap (.send r') s'') ∨
     (m = 1 ∧ v = .ref 198 ∧ ∀ r' s'', Ext [L1, sl] (frs fr) s' s'' → (∃ xs za zo, LoopSt (A0x dp un gd fr) base fr hid L1 sl xs za zo s''.heap) → kap (.send r') s'') ∨
     (m = 0 ∧ MdF w hs s'.heap nv (.node kd us) v ∧ (∃ a, v = .ref a ∧ ClsAt s'.heap a kd.ty ∧ hs.get? a = none) ∧ ∀ r' s'', kap (.send r') s''))
/-- the state of the generator's own loop -/
structure GI (w : World) (hs : Heap) (nv : Int → Addr) (d : Addr) (kd : Kd) (us : List Tm) (rr : Addr) (ys : List Value) (Lg rs it : Addr) (j : Nat) (vs : List Value) (h : Heap) : Prop where
  ns : ∃ m, h.Ns Lg m ∧ m (Str.ofString "res") = some (.ref rs) ∧ m (Str.ofString "ctor") = some (.type kd.ty) ∧ m (Str.ofString "s") = some (.ref d)
  res : ∃ n, h.get? rs = some (W.listOf vs.toArray n)
  itr : IterAt w h kd rr ys it j
  src : MkAt w h rr ys kd
  done : ∀ X, Has hs X → MdsAt w h (rs :: it :: X) nv ((kidsT kd 0 us).take j) vs
/-- what `_reify` has made, with the frame `Lg` changed since -/
theorem gen_of_made2 {w : World} {fr : List Env} {base base0 : Heap} {hid : List Addr} {L1 sl Lg : Addr} {nv : Int → Addr} {d : Addr} {A : Around} {xs : List Value} {za zo : Value} {s s' : Shared} {v : Value} {f : Addr} {P : (Str → Option Value) → Prop} {t : Tm}
    (S : LoopSt A base fr hid L1 sl xs za zo s.heap) (h0 : base0.objs.size ≤ s.heap.objs.size) (hm : MadeGen w s s' v f P) (aLg : ∃ o, s.heap.get? Lg = some o)
    (hB : ∀ Lk c m h'', KeepX [Lg] s'.heap h'' → GenCode (Mine.hd.heap_39 w.params) f Lk c → P m → Lk ≠ L1 → (∀ b o, s.heap.get? b = some o → b ≠ Lk) → GenBody w fr base L1 sl nv d h'' Lk c m t) :
    ∃ Lk, s.heap.get? Lk = none ∧ ∀ h'' tk'', KeepX [Lg] s'.heap h'' → GenFor w fr base base0 hid L1 sl nv d { s' with heap := h'', toks := tk'' } t v Lk s.gens.size := by
  obtain ⟨Lk, hg, hz⟩ := gen_of_made (base0 := base0) (d := d) (nv := nv) S h0 hm (fun Lk c m a b c' e => hB Lk c m s'.heap KeepX.refl a b c' e)
  obtain ⟨G, dG, ga, Lk', c, tk, m, h', tk', rfl, rfl, up, I, hgd, hc, hns, hP, z1, z2, z3, z4⟩ := hm
  obtain ⟨oL1, e1⟩ := S.has L1 (by simp)
  have lt1 := Heap.lt_size e1
  have bk : L1 < Lk' := Nat.lt_of_lt_of_le lt1 z1
  have zk : s.heap.get? Lk' = none := new_none z1
  have nL : ∀ x, s.heap.get? x = none → x ∉ [Lg] := fun x e q => by
    obtain ⟨o, e'⟩ := aLg
    rw [List.mem_singleton.mp q] at e; rw [e] at e'; cases e'
  have zG : s.heap.get? G = none := new_none (Nat.le_trans z1 (Nat.le_of_lt (Nat.lt_trans z3 z4)))
  have zdG : s.heap.get? dG = none := new_none (Nat.le_trans z1 (Nat.le_of_lt z3))
  have zga : s.heap.get? ga = none := new_none (Nat.le_trans z1 (Nat.le_of_lt z2))
  refine ⟨Lk', zk, fun h'' tk'' k => ⟨G, dG, ga, c, tk, m, rfl, ?_, hgd.keep fun o e => k _ _ (nL _ zga) e, ?_, ?_, .inr (Nat.lt_trans bk (Nat.lt_trans z3 z4)), .inr (Nat.lt_trans bk z3), .inr (Nat.lt_trans bk z2), .inr bk, Nat.ne_of_gt (Nat.lt_trans bk z3), Nat.ne_of_gt bk, Nat.ne_of_lt z3, ?_, ?_, Nat.le_trans h0 z1, hB Lk' c m h'' k hc hP (Nat.ne_of_gt bk) fun b o e q => ?_⟩⟩
  · obtain ⟨a, b, n, dd⟩ := I
    exact ⟨k _ _ (nL _ zG) a, b, n, k _ _ (nL _ zdG) dd⟩
  · show (s.gens.push (.fresh c))[s.gens.size]? = _
    simp
  · obtain ⟨o, es, ep, a, b⟩ := hns
    exact ⟨o, es, ep, k _ _ (nL _ zk) a, b⟩
  · cases q : base.get? Lk' with
    | none => rfl
    | some o => have := S.base _ _ q; rw [zk] at this; cases this
  · intro q
    obtain ⟨o, e⟩ := S.has Lk' (by simp [q])
    rw [zk] at e; cases e
  · subst q; rw [zk] at e; cases e
/-- `_reify` of a part -/
theorem reify_k (cx : Cx w dp un gd fr base base0 hid L1 sl env C nv d kvs sg D) {dp' un' : Nat} {gd' : Option (List Code)} {fr' : List Env} {s : Shared} {xs : List Value} {za zo : Value} {Lg : Addr} {u : Tm} {r : Value} {Q E : Value → Shared → Prop}
    (B : Below ⟨none, dp', some fr', gd', un'⟩ base fr' s.heap) (S : LoopSt (A0x dp un gd fr) base fr hid L1 sl xs za zo s.heap) (h0 : base0.objs.size ≤ s.heap.objs.size) (aLg : ∃ o, s.heap.get? Lg = some o) (hm : MdAt w s.heap [] nv u r) (hw : Wf 0 5 u)
    (hsrc : ∀ kd ts, u = .node kd ts → ∃ rr ys, r = .ref rr ∧ MkAt w s.heap rr ys kd ∧ MdsAt w base [sysModules] nv ts ys ∧ (kd = .dct → rr ≠ sysModules) ∧ rr ≠ L1 ∧ rr ≠ sl ∧ rr ≠ Lg ∧ rr ∉ frs fr)
    (hd : dp' + 10 < recursionLimit) (hu : un' + 100 < cLine)
    (hnum : ∀ n, u = .num n → ∀ h' tks, (∀ b o, s.heap.get? b = some o → h'.get? b = some o) → Q r { s with heap := h', toks := tks })
    (hgen : (∀ n, u ≠ .num n) → ∀ G dG Lk c h' tk od, (∀ b o, s.heap.get? b = some o → h'.get? b = some o) → W.InstAt h' G (instObj 38 dG) 38 od →
      (∀ h'' tk'', KeepX [Lg] h' h'' → GenFor w fr base base0 hid L1 sl nv d { s with heap := h'', gens := s.gens.push (.fresh c), toks := tk'' } u (.ref G) Lk s.gens.size) → s.heap.get? Lk = none → s.heap.get? G = none → s.heap.get? dG = none →
      Q (.ref G) { s with heap := h', gens := s.gens.push (.fresh c), toks := tk }) :
    wpAny (model PySem.Challenge.rw_ez0159_01.row.prog w) ⟨none, dp', some fr', gd', un'⟩ (call (.ref 213) [r, .ref d]) Q E s := by
  obtain ⟨p, loose, mean, mg, mb, T⟩ := cx.T
  refine reify_c w B cx.X T (cx.V.keep B.stays) hm hw hd hu hnum ?_ ?_
  · rintro j rfl v s' hmade
    obtain ⟨Lk, hz, hg⟩ := gen_of_made2 (t := .var j) (d := d) (base0 := base0) S h0 hmade aLg (fun Lk c m h'' _ hc hP _ _ => ⟨hc, hP.1, hP.2, hw⟩)
    obtain ⟨G', dG', ga', Lk', c', tk', m', h4, tk4, rfl, rfl, up4, I4, _, _, _, _, z1, z2, z3, z4⟩ := hmade
    exact hgen (fun n q => by cases q) _ _ Lk _ _ _ _ up4 I4 hg hz (new_none (Nat.le_trans z1 (Nat.le_of_lt (Nat.lt_trans z3 z4)))) (new_none (Nat.le_trans z1 (Nat.le_of_lt z3)))
  · rintro kd ts rfl v s' hmade
    obtain ⟨rr, ys, rfl, hmk, hys, hdm, n1, n2, n3, n4⟩ := hsrc kd ts rfl
    obtain ⟨orr, herr⟩ := hmk.has
    have up4' : ∀ b o, s.heap.get? b = some o → s'.heap.get? b = some o := let ⟨_, _, _, _, _, _, _, _, _, _, e, up, _⟩ := hmade; fun b o q => by rw [e]; exact up b o q
    obtain ⟨Lk, hz, hg⟩ := gen_of_made2 (t := .node kd ts) (d := d) (base0 := base0) S h0 hmade aLg (fun Lk c m h'' k hc hP _ hne => ⟨hc, hP.1, hP.2.2, rr, ys, hP.2.1, hmk.keep (fun o e => k _ _ (by simpa using n3) (up4' _ _ e)), hys, hw, hdm, n1, n2, hne _ _ herr, n4⟩)
    obtain ⟨G', dG', ga', Lk', c', tk', m', h4, tk4, rfl, rfl, up4, I4, _, _, _, _, z1, z2, z3, z4⟩ := hmade
    exact hgen (fun n q => by cases q) _ _ Lk _ _ _ _ up4 I4 hg hz (new_none (Nat.le_trans z1 (Nat.le_of_lt (Nat.lt_trans z3 z4)))) (new_none (Nat.le_trans z1 (Nat.le_of_lt z3)))
/-- the part that the iterator hands out -/
theorem kid_at {w : World} {base h h' hA : Heap} {nv : Int → Addr} {kd : Kd} {j : Nat} {t : Tm} {yj y : Value} {Z : List Addr} (hi : ItemAt h h' kd j yj y) (k : KeepX Z h' hA) (hZ : Has h Z) (hb : base.StaysIn hA) (hm : MdAt w base [sysModules] nv t yj) (hw : Wf 0 5 t) :
    MdAt w hA [] nv (kidT kd j t) y ∧ Wf 0 5 (kidT kd j t) ∧ ∀ kd' ts', kidT kd j t = .node kd' ts' → ∃ rr ys, y = .ref rr ∧ MkAt w hA rr ys kd' ∧ MdsAt w base [sysModules] nv ts' ys ∧ (kd' = .dct → rr ≠ sysModules) ∧ ((∃ o, base.get? rr = some o) ∨ h.get? rr = none) := by
  have plain : MdAt w base [sysModules] nv t y → MdAt w hA [] nv t y ∧ Wf 0 5 t ∧ ∀ kd' ts', t = .node kd' ts' → ∃ rr ys, y = .ref rr ∧ MkAt w hA rr ys kd' ∧ MdsAt w base [sysModules] nv ts' ys ∧ (kd' = .dct → rr ≠ sysModules) ∧ ((∃ o, base.get? rr = some o) ∨ h.get? rr = none) := fun hm => by
    refine ⟨MdAt.setX (fun b o _ _ q => by cases q) _ (MdAt.keep (KeepX.of hb) _ hm), hw, fun kd' ts' e => ?_⟩
    subst e
    obtain ⟨rr, ys, rfl, nr, hmk, hys⟩ := hm
    exact ⟨rr, ys, rfl, hmk.keep (fun o e => hb _ _ e), hys, fun _ q => nr (by simp [q]), .inl hmk.has⟩
  cases kd with
  | row => have e : y = yj := hi; subst e; exact plain hm
  | lst => have e : y = yj := hi; subst e; exact plain hm
  | dct =>
    obtain ⟨a, tk, rfl, ht, hz⟩ := hi
    have na : a ∉ Z := fun q => by obtain ⟨o, e⟩ := hZ a q; rw [hz] at e; cases e
    have ht' : IsTup hA a #[.int j tk, yj] := isTup_at ht fun o e => k a o na e
    have hys : MdsAt w base [sysModules] nv [.num (j : Int), t] [.int j tk, yj] := by
      unfold MdsAt
      refine ⟨_, _, rfl, ⟨tk, rfl⟩, ?_⟩
      unfold MdsAt
      refine ⟨_, _, rfl, hm, ?_⟩
      unfold MdsAt
      rfl
    refine ⟨⟨a, [.int j tk, yj], rfl, by simp, ht', MdsAt.setX (fun b o _ _ q => by cases q) _ (MdsAt.keep (KeepX.of hb) _ hys)⟩, ?_, fun kd' ts' e => ?_⟩
    · refine ⟨by simp, ?_⟩
      unfold Wfs; refine ⟨trivial, ?_⟩
      unfold Wfs; refine ⟨hw, ?_⟩
      unfold Wfs; trivial
    · cases e
      exact ⟨a, [.int j tk, yj], rfl, ht', hys, (fun q => by cases q), .inr hz⟩
end

end Mine
end
section -- N20A
open PySem PySem.W PySem.Calls PyProof.Rows
set_option maxRecDepth 100000
set_option maxHeartbeats 8000000
set_option linter.unusedVariables false
namespace Mine
local macro_rules | `(tactic| walk_at "idle0") => `(tactic| fail)
local macro_rules | `(tactic| k_all) => `(tactic| assumption)
local macro_rules | `(tactic| ktr_enter) => `(tactic| first
  | (refine' code_defG ?k1 ?k2 ?k3 ?k4 ?k5 ?kA ?kF ?kK ?k6 ?k7 ?k8 ?k9 ?kB ?_ ?c2 ?c3 ?c4 ?c5; (case kA => exact rfl); (case kF => exact rfl); (case kK => first | assumption | exact rfl); (case k1 => k_asm); (case k2 => k_asm); (case k3 => k_asm); (case k4 => first | k_asm | exact News.nil); (case k5 => k_asm); (case k6 => k_is); (case k7 => k_is); (case k8 => ktr_room); (case k9 => exact BindsTo.of_eq rfl); (case c5 => decide); (case kB => exact locs rfl); (case c2 => exact rfl); (case c3 => exact rfl); (case c4 => exact rfl))
  | (refine' code_defCG ?k1 ?k2 ?k3 ?k4 ?k5 ?kA ?kF ?kK ?k6 ?k7 ?k8 ?k9 ?kB ?kD ?_ ?c2 ?c3 ?c4; (case kA => exact rfl); (case kF => exact rfl); (case kK => first | assumption | exact rfl); (case k1 => k_asm); (case k2 => k_asm); (case k3 => k_asm); (case k4 => first | k_asm | exact News.nil); (case k5 => k_asm); (case k6 => k_is); (case k7 => k_is); (case k8 => ktr_room); (case k9 => exact BindsTo.of_eq rfl); (case kB => exact rfl); (case kD => decide +kernel); (case c2 => exact rfl); (case c3 => exact rfl); (case c4 => exact rfl)))
local macro_rules | `(tactic| k_room) => `(tactic| (first | ((try simp only [depth_under_make, depth_under_kw, depth_in1, depth_deeper, depth_caller]); decide) | (dsimp only [ktrTop, Around.deeper, Around.in1, Around.mark]; omega) | ((try simp only [depth_under_make, depth_under_kw, depth_in1, depth_deeper, depth_caller]); (try dsimp only [ktrTop, Around.deeper, Around.in1, Around.mark]); omega)))
local macro_rules | `(tactic| k_units) => `(tactic| (first | exact Nat.le_of_ble_eq_true rfl | (dsimp only [ktrTop, Around.deeper, Around.in1, Around.mark]; omega)))
local macro_rules | `(tactic| k_inst) => `(tactic| first | (refine' inst_up1 ?F ?I; (case F => k_asm); (case I => assumption)) | (refine' inst_up2 ?F2 ?F ?I; (case F2 => k_asm); (case F => k_asm); (case I => assumption)))
local macro_rules | `(tactic| walk_at "eval Name") => `(tactic| (k_here; k_dflt (refine' ld ?k1 ?k2 ?_; (case k1 => k_asm); (case k2 => assumption))))
local macro_rules | `(tactic| walk_at "call ref") => `(tactic| (k_here; (with_reducible show wpAny _ _ (call (Value.ref 213) _) _ _ _); refine of_here ?_))
local macro_rules | `(tactic| walk_at "call builtin:isinstance") => `(tactic| (k_here; refine of_here ?_))
local macro_rules | `(tactic| walk_at "getMethod ref") => `(tactic| (k_here; (with_reducible show wpAny _ _ (getMethod (Value.ref _) (PySem.Str.ofString "items") _) _ _ _); refine of_here ?_))
local macro_rules | `(tactic| walk_at "call builtin:dict.items") => `(tactic| (k_here; refine of_here ?_))
section
variable {w : World} {dp un : Nat} {gd : Option (List Code)} {fr : List Env} {base base0 : Heap} {hid : List Addr} {L1 sl : Addr} {env : Env} {C : Code} {nv : Int → Addr} {d : Addr} {kvs : List (Int × Value)} {sg : Int → Option Tm} {D : Nat} {R : Result → Shared → Prop}
theorem node_end (cx : Cx w dp un gd fr base base0 hid L1 sl env C nv d kvs sg D) {s st s₀ : Shared} {Lg rs it : Addr} {kd : Kd} {ts us : List Tm} {vs : List Value} {O : List Addr}
    {oc : Value} {od : Option Addr} {fd : FuncData} {osl : Array (Option Value)} {body : List Stmt} (h1 : (Mine.hd.heap_39 w.params).lookup 227 = some ⟨oc, od, .func fd, osl⟩) (h2 : fd.body = .stmts body)
    (gi : (∃ m, st.heap.Ns Lg m ∧ m (Str.ofString "res") = some (.ref rs) ∧ m (Str.ofString "ctor") = some (.type kd.ty) ∧ m (Str.ofString "s") = some (.ref d)) ∧ (∃ n, st.heap.get? rs = some (W.listOf vs.toArray n)) ∧ ∀ X, Has s.heap X → MdsAt w st.heap (rs :: it :: X) nv (kidsT kd 0 us) vs) (hlen : us.length ≤ 3)
    (hO : ∀ b ∈ O, b = Lg ∨ (s.heap.get? b = none ∧ L1 < b)) (hE : Ext O (L1 :: frs fr) s₀ st) (hG : GensBut (fun _ => False) s₀ st) (S : ∃ xs za zo, LoopSt (A0x dp un gd fr) base fr hid L1 sl xs za zo st.heap) (hal : ∀ b o, s.heap.get? b = some o → ∃ o', st.heap.get? b = some o')
    (hbs : base.StaysIn s.heap) (aL : ∃ o, s.heap.get? Lg = some o) (aA : Has s.heap (L1 :: sl :: frs fr)) (nrs : s.heap.get? rs = none) (lrs : L1 < rs) (nit : s.heap.get? it = none) (oL : Lg ∈ hid ∨ L1 < Lg) (nL1 : Lg ≠ L1) (nsl : Lg ≠ sl) (nfr : Lg ∉ frs fr) (hb : base.get? Lg = none) (hL0 : base0.objs.size ≤ Lg) :
    Seg (model PySem.Challenge.rw_ez0159_01.row.prog w) (Asx dp un gd fr env) REnd (YNode w dp un gd fr base base0 hid L1 sl nv d s.heap kd ts us Lg) 2 s₀ (.func body (callEnv fd Lg 227))
      ((execs (body.drop 3) (callEnv fd Lg 227)).wrap (fun f => .pure (.done (.ret (match f with | .ret v => v | _ => .none)))) (fun e => (leaving (callEnv fd Lg 227) e).wrap (fun _ => .raise e) .raise id id) id id) [] st := by
  obtain ⟨p, loose, mean, mg, mb, T0⟩ := cx.T0
  have X0 := cx.X0
  have T := T0.keeps cx.b0
  have hd := cx.hd
  have hu := cx.hu
  obtain ⟨hef, hek⟩ := stream_env cx.code
  refine' with_fd h1 ?ho ?_
  case ho => k_is
  intro e
  subst e
  clear h1
  cases h2
  refine (?_ : Seg _ _ _ _ _ _ (.func _ (envOf _ _ _ _ _)) ((execs (_ :: _ :: []) (envOf _ _ _ _ _)).wrap _ _ _ _) _ _)
  obtain ⟨⟨m, hns, p1, p2, p3⟩, ⟨n', hres⟩, hdone⟩ := gi
  obtain ⟨xs, za, zo, S⟩ := S
  have F : Fr base0 Lg st.heap m := ⟨hns, fun b o e => S.base b o (cx.b0 b o e), hL0⟩
  have zb : ∀ b, s.heap.get? b = none → base0.get? b = none := fun b e => by
    cases q : base0.get? b with
    | none => rfl
    | some o => have := hbs _ _ (cx.b0 _ _ q); rw [e] at this; cases this
  have nLrs : Lg ≠ rs := fun q => by obtain ⟨o, e⟩ := aL; rw [q, nrs] at e; cases e
  have rssl : rs ≠ sl := fun q => by obtain ⟨o, e⟩ := aA sl (by simp); rw [← q, nrs] at e; cases e
  have frsNot : ∀ b, s.heap.get? b = none → b ∉ frs fr := fun b e q => by
    obtain ⟨o, e'⟩ := aA b (List.mem_cons_of_mem _ (List.mem_cons_of_mem _ q))
    rw [e] at e'; cases e'
  have N : News base0 Lg st.heap [(rs, W.listOf vs.toArray n')] := news_cons hres nLrs.symm (zb _ nrs) News.nil
  refine seg_execs_cons ?_
  refine seg_Expr_Y rfl rfl rfl ?_
  refine (?_ : wpAny _ (⟨none, dp + 2, some (envOf _ _ _ _ _ :: env :: fr), gd, un + 3 + 1 + 3⟩ : Around) _ _ _ _)
  k_steps
  rename_i kap hkap
  refine ⟨O, hO, hE, hG, .inr (.inl ⟨rfl, rfl, ?_⟩)⟩
  rintro r' ⟨h7, gs7, dr7, tk7, os7⟩ he ⟨xs7, za7, zo7, S7⟩
  refine hkap r' _ ?_
  have own7 : ∀ b ∈ [Lg, rs], ∀ o, st.heap.get? b = some o → h7.get? b = some o := fun b hbm o e => by
    simp at hbm
    rcases hbm with rfl | rfl
    · exact he.chg.keep _ o (by simp [nL1, nsl]) nfr e
    · exact he.chg.keep _ o (by simp [Nat.ne_of_gt lrs, rssl]) (frsNot _ nrs) e
  have h7rs := own7 rs (by simp) _ hres
  have ns7 : h7.Ns Lg m := let ⟨o, es, ep, a, b⟩ := hns; ⟨o, es, ep, own7 Lg (by simp) _ a, b⟩
  have F7 : Fr base0 Lg h7 m := ⟨ns7, fun b o e => S7.base b o (cx.b0 b o e), hL0⟩
  have N7 : News base0 Lg h7 [(rs, W.listOf vs.toArray n')] := news_cons h7rs nLrs.symm (zb _ nrs) News.nil
  have hd7 : ∀ X, Has s.heap X → MdsAt w h7 X nv (kidsT kd 0 us) vs := fun X hX => MdsAt.setX (fun b o n _ q => n (by simp [q])) _ (MdsAt.keep (h' := h7) (fun b o n e => by
    simp only [List.mem_cons, List.mem_append, not_or] at n
    exact he.chg.keep _ _ (by simp [n]) n.2.2.2.2.1 e) _ (hdone (L1 :: sl :: (frs fr ++ X)) (fun b hbm => by
      simp at hbm
      rcases hbm with rfl | rfl | hbm | hbm
      · exact aA _ (by simp)
      · exact aA _ (by simp)
      · exact aA _ (by simp [hbm])
      · exact hX _ hbm)))
  have al7 : ∀ b o, s.heap.get? b = some o → ∃ o', h7.get? b = some o' := fun b o e => let ⟨o1, e1⟩ := hal b o e; he.alive _ _ e1
  clear F N hkap
  refine seg_wrap (wpAny_dropValue ?_)
  refine (?_ : Seg _ _ _ _ _ _ (.func _ (envOf _ _ _ _ _)) ((execs (_ :: []) (envOf _ _ _ _ _)).wrap _ _ _ _) _ _)
  refine seg_execs_cons ?_
  refine seg_Expr_Y rfl rfl rfl ?_
  refine (?_ : wpAny _ (⟨none, dp + 2, some (envOf _ _ _ _ _ :: env :: fr), gd, un + 3 + 1 + 3⟩ : Around) _ _ _ _)
  k_steps
  have hh : ((Asx dp un gd fr env).over (Code.forLoop (Expr.Name (Str.ofString "y") default) (Value.ref it) [] [] env) []).handled = none := rfl
  refine ctor_c (X := []) (kd := kd) (us := us) (nv := nv) (hh := rfl) h7rs (hd7 [] has_nil) hlen (by cases kd <;> rfl) fun a h8 tk8 ys8 za8 up8 hmk8 hm8 => ?_
  intro kap hkap
  have zaS : s.heap.get? a = none := new_back al7 za8
  refine ⟨O, hO, ⟨Chg.of up8, fun b o e => ⟨o, up8 _ _ e⟩, rfl, rfl, id⟩, GensBut.refl, .inr (.inr ⟨rfl, fun X hX => ?_, ⟨a, rfl, ?_, zaS⟩, fun r' s'' => hkap r' s'' (seg_wrap (wpAny_dropValue (seg_execs_nil (seg_end (.ok (.ret .none)) ⟨rfl, rfl, _, rfl⟩))))⟩)⟩
  · exact ⟨a, ys8, rfl, (fun q => by obtain ⟨o, e⟩ := hX a q; rw [zaS] at e; cases e), hmk8, hm8 X (hd7 X hX)⟩
  · have := hmk8.cls
    cases kd <;> exact this
end

end Mine
end
section -- N20
open PySem PySem.W PySem.Calls PyProof.Rows
set_option maxRecDepth 100000
set_option maxHeartbeats 8000000
set_option linter.unusedVariables false
namespace Mine
local macro_rules | `(tactic| k_all) => `(tactic| assumption)
local macro_rules | `(tactic| ktr_enter) => `(tactic| first
  | (refine' code_defG ?k1 ?k2 ?k3 ?k4 ?k5 ?kA ?kF ?kK ?k6 ?k7 ?k8 ?k9 ?kB ?_ ?c2 ?c3 ?c4 ?c5; (case kA => exact rfl); (case kF => exact rfl); (case kK => first | assumption | exact rfl); (case k1 => k_asm); (case k2 => k_asm); (case k3 => k_asm); (case k4 => first | k_asm | exact News.nil); (case k5 => k_asm); (case k6 => k_is); (case k7 => k_is); (case k8 => ktr_room); (case k9 => exact BindsTo.of_eq rfl); (case c5 => decide); (case kB => exact locs rfl); (case c2 => exact rfl); (case c3 => exact rfl); (case c4 => exact rfl))
  | (refine' code_defCG ?k1 ?k2 ?k3 ?k4 ?k5 ?kA ?kF ?kK ?k6 ?k7 ?k8 ?k9 ?kB ?kD ?_ ?c2 ?c3 ?c4; (case kA => exact rfl); (case kF => exact rfl); (case kK => first | assumption | exact rfl); (case k1 => k_asm); (case k2 => k_asm); (case k3 => k_asm); (case k4 => first | k_asm | exact News.nil); (case k5 => k_asm); (case k6 => k_is); (case k7 => k_is); (case k8 => ktr_room); (case k9 => exact BindsTo.of_eq rfl); (case kB => exact rfl); (case kD => decide +kernel); (case c2 => exact rfl); (case c3 => exact rfl); (case c4 => exact rfl)))
local macro_rules | `(tactic| k_room) => `(tactic| (first | ((try simp only [depth_under_make, depth_under_kw, depth_in1, depth_deeper, depth_caller]); decide) | (dsimp only [ktrTop, Around.deeper, Around.in1, Around.mark]; omega) | ((try simp only [depth_under_make, depth_under_kw, depth_in1, depth_deeper, depth_caller]); (try dsimp only [ktrTop, Around.deeper, Around.in1, Around.mark]); omega)))
local macro_rules | `(tactic| k_units) => `(tactic| (first | exact Nat.le_of_ble_eq_true rfl | (dsimp only [ktrTop, Around.deeper, Around.in1, Around.mark]; omega)))
local macro_rules | `(tactic| k_inst) => `(tactic| first | (refine' inst_up1 ?F ?I; (case F => k_asm); (case I => assumption)) | (refine' inst_up2 ?F2 ?F ?I; (case F2 => k_asm); (case F => k_asm); (case I => assumption)))
local macro_rules | `(tactic| walk_at "eval Name") => `(tactic| (k_here; k_dflt (refine' ld ?k1 ?k2 ?_; (case k1 => k_asm); (case k2 => assumption))))
local macro_rules | `(tactic| walk_at "call ref") => `(tactic| (k_here; (with_reducible show wpAny _ _ (call (Value.ref 213) _) _ _ _); refine of_here ?_))
local macro_rules | `(tactic| walk_at "call builtin:isinstance") => `(tactic| (k_here; refine of_here ?_))
local macro_rules | `(tactic| walk_at "getMethod ref") => `(tactic| (k_here; (with_reducible show wpAny _ _ (getMethod (Value.ref _) (PySem.Str.ofString "items") _) _ _ _); refine of_here ?_))
local macro_rules | `(tactic| walk_at "call builtin:dict.items") => `(tactic| (k_here; refine of_here ?_))
theorem aliveX {h h' : Heap} {Z : List Addr} (k : KeepX Z h h') (hZ : Has h' Z) : ∀ b o, h.get? b = some o → ∃ o', h'.get? b = some o' := alive_of (fs := []) (X := Z) ⟨fun b o n _ e => k b o n e, fun _ _ m => nomatch m⟩ hZ
theorem inst_keepX {h h' : Heap} {Z : List Addr} {x dx C : Addr} {od : Option Obj} (I : W.InstAt h x (instObj C dx) C od) (k : KeepX Z h h') (n1 : x ∉ Z) (n2 : dx ∉ Z) : W.InstAt h' x (instObj C dx) C od := by
  obtain ⟨a, b, n, dd⟩ := I
  exact ⟨k _ _ n1 a, b, n, by cases od with | none => exact dd | some o => exact k _ _ n2 dd⟩
theorem gens_le {s s' : Shared} (h : GensBut (fun _ => False) s s') : s.gens.size ≤ s'.gens.size := by
  rcases Nat.lt_or_ge s'.gens.size s.gens.size with q | q
  · have := h _ _ (Array.getElem?_eq_getElem q) (fun z => z)
    simp at this
  · exact q
section
variable {w : World} {dp un : Nat} {gd : Option (List Code)} {fr : List Env} {base base0 : Heap} {hid : List Addr} {L1 sl : Addr} {env : Env} {C : Code} {nv : Int → Addr} {d : Addr} {kvs : List (Int × Value)} {sg : Int → Option Tm} {D : Nat} {R : Result → Shared → Prop}
theorem node_tail (cx : Cx w dp un gd fr base base0 hid L1 sl env C nv d kvs sg D) {s s' : Shared} {xs : List Value} {za zo tv : Value} {Lg rr rs : Addr} {m : Str → Option Value} {kd : Kd} {ts us : List Tm} {ys : List Value} {O : List Addr}
    {oc : Value} {od : Option Addr} {fd : FuncData} {osl : Array (Option Value)} {body : List Stmt} (h1 : (Mine.hd.heap_39 w.params).lookup 227 = some ⟨oc, od, .func fd, osl⟩) (h2 : fd.body = .stmts body)
    (S : LoopSt (A0x dp un gd fr) base fr hid L1 sl xs za zo s'.heap) (hns : s'.heap.Ns Lg m) (q1 : m (Str.ofString "ctor") = some (.type kd.ty)) (q2 : m (Str.ofString "s") = some (.ref d)) (q3 : m (Str.ofString "t") = some tv) (q4 : m (Str.ofString "res") = some (.ref rs))
    (hE : Ext O (L1 :: frs fr) s s') (hO : ∀ b ∈ O, b = Lg ∨ (s.heap.get? b = none ∧ L1 < b)) (hG : GensBut (fun _ => False) s s')
    (hrs : s'.heap.get? rs = some (W.listOf #[] 0)) (nrs : s.heap.get? rs = none) (lrs : L1 < rs)
    (hst : ∀ {A : Around} {E Q : Value → Shared → Prop} {s2 : Shared}, s2.heap = s'.heap → (∀ it h', it = s2.heap.objs.size → IterAt w h' kd rr ys it 0 → (∀ b o, s2.heap.get? b = some o → h'.get? b = some o) → (∃ o, h'.get? it = some o) → Q (.ref it) { s2 with heap := h' }) → wpAny (model PySem.Challenge.rw_ez0159_01.row.prog w) A (pyIter tv) Q E s2)
    (hmk : MkAt w s'.heap rr ys kd) (hys : MdsAt w base [sysModules] nv ts ys) (hw : Wf 0 5 (.node kd ts)) (hlen : ts.length = us.length) (hnum : ∀ (j : Nat) (n : Int) (u : Tm), ts[j]? = some (.num n) → us[j]? = some u → u = .num n)
    (rrs : ∃ o, s.heap.get? rr = some o) (r1 : rr ≠ L1) (r2 : rr ≠ sl) (r3 : rr ≠ Lg) (r4 : rr ∉ frs fr)
    (hbs : base.StaysIn s.heap) (aL : ∃ o, s.heap.get? Lg = some o) (aA : Has s.heap (L1 :: sl :: frs fr)) (oL : Lg ∈ hid ∨ L1 < Lg) (nL1 : Lg ≠ L1) (nsl : Lg ≠ sl) (nfr : Lg ∉ frs fr) (hb : base.get? Lg = none) (hL0 : base0.objs.size ≤ Lg) :
    Seg (model PySem.Challenge.rw_ez0159_01.row.prog w) (Asx dp un gd fr env) REnd (YNode w dp un gd fr base base0 hid L1 sl nv d s.heap kd ts us Lg) (cntT (kidsT kd 0 ts) + 2) s (.func body (callEnv fd Lg 227))
      ((execs (body.drop 2) (callEnv fd Lg 227)).wrap (fun f => .pure (.done (.ret (match f with | .ret v => v | _ => .none)))) (fun e => (leaving (callEnv fd Lg 227) e).wrap (fun _ => .raise e) .raise id id) id id) [] s' := by
  obtain ⟨p, loose, mean, mg, mb, T0⟩ := cx.T0
  have X0 := cx.X0
  have T := T0.keeps cx.b0
  have hd := cx.hd
  have hu := cx.hu
  obtain ⟨hef, hek⟩ := stream_env cx.code
  have NE : ∀ {st s₀ : Shared} {it : Addr} {vs : List Value} {O : List Addr}, ((∃ m, st.heap.Ns Lg m ∧ m (Str.ofString "res") = some (.ref rs) ∧ m (Str.ofString "ctor") = some (.type kd.ty) ∧ m (Str.ofString "s") = some (.ref d)) ∧ (∃ n, st.heap.get? rs = some (W.listOf vs.toArray n)) ∧ ∀ X, Has s.heap X → MdsAt w st.heap (rs :: it :: X) nv (kidsT kd 0 us) vs) → (∀ b ∈ O, b = Lg ∨ (s.heap.get? b = none ∧ L1 < b)) → Ext O (L1 :: frs fr) s₀ st → GensBut (fun _ => False) s₀ st → (∃ xs za zo, LoopSt (A0x dp un gd fr) base fr hid L1 sl xs za zo st.heap) → (∀ b o, s.heap.get? b = some o → ∃ o', st.heap.get? b = some o') → s.heap.get? it = none →
      Seg (model PySem.Challenge.rw_ez0159_01.row.prog w) (Asx dp un gd fr env) REnd (YNode w dp un gd fr base base0 hid L1 sl nv d s.heap kd ts us Lg) 2 s₀ (.func body (callEnv fd Lg 227))
        ((execs (body.drop 3) (callEnv fd Lg 227)).wrap (fun f => .pure (.done (.ret (match f with | .ret v => v | _ => .none)))) (fun e => (leaving (callEnv fd Lg 227) e).wrap (fun _ => .raise e) .raise id id) id id) [] st :=
    fun gi hO hE hG S hal nit => node_end cx h1 h2 gi (by have := hw.1; omega) hO hE hG S hal hbs aL aA nrs lrs nit oL nL1 nsl nfr hb hL0
  refine' with_fd h1 ?ho ?_
  case ho => k_is
  intro e
  subst e
  clear h1
  cases h2
  refine (?_ : Seg _ _ _ _ _ _ (.func _ (envOf _ _ _ _ _)) ((execs (_ :: _ :: _ :: []) (envOf _ _ _ _ _)).wrap _ _ _ _) _ _)
  refine seg_execs_cons ?_
  have F : Fr base0 Lg s'.heap m := ⟨hns, fun b o e => S.base b o (cx.b0 b o e), hL0⟩
  refine seg_For ?_
  refine (?_ : wpAny _ (⟨none, dp + 2, some (envOf _ _ _ _ _ :: env :: fr), gd, un + 3 + 1 + 3⟩ : Around) (eval _ (envOf _ _ _ _ _)) _ _ _)
  k_steps
  refine hst rfl fun it h3 hit hI up3 ha3 => ?_
  intro pos
  have lL1 : L1 < s'.heap.objs.size := by obtain ⟨o, e⟩ := S.has L1 (by simp); exact Heap.lt_size e
  have nit : s.heap.get? it = none := new_back hE.alive (by rw [hit]; exact new_none (Nat.le_refl _))
  have lit : L1 < it := by rw [hit]; exact lL1
  have nrr : rr ≠ it := fun q => by obtain ⟨o, e⟩ := rrs; rw [q, nit] at e; cases e
  have nrrs : rr ≠ rs := fun q => by obtain ⟨o, e⟩ := rrs; rw [q, nrs] at e; cases e
  have nLit : Lg ≠ it := fun q => by obtain ⟨o, e⟩ := aL; rw [q, nit] at e; cases e
  have nLrs : Lg ≠ rs := fun q => by obtain ⟨o, e⟩ := aL; rw [q, nrs] at e; cases e
  have itsl : it ≠ sl := fun q => by obtain ⟨o, e⟩ := aA sl (by simp); rw [← q, nit] at e; cases e
  have rssl : rs ≠ sl := fun q => by obtain ⟨o, e⟩ := aA sl (by simp); rw [← q, nrs] at e; cases e
  have nrsit : rs ≠ it := fun q => by rw [hit] at q; have := Heap.lt_size hrs; rw [q] at this; exact Nat.lt_irrefl _ this
  have lys : ts.length = ys.length := hys.length.symm
  have hO2 : ∀ b ∈ O ++ [Lg, rs, it], b = Lg ∨ (s.heap.get? b = none ∧ L1 < b) := fun b hb => by
    rcases List.mem_append.mp hb with hb | hb
    · exact hO b hb
    · simp at hb
      rcases hb with rfl | rfl | rfl
      · exact .inl rfl
      · exact .inr ⟨nrs, lrs⟩
      · exact .inr ⟨nit, lit⟩
  have hZ : ∀ b ∈ [Lg, rs, it], b ≠ L1 ∧ b ≠ sl ∧ (b ∈ hid ∨ L1 < b) := fun b hb => by
    simp at hb
    rcases hb with rfl | rfl | rfl
    · exact ⟨nL1, nsl, oL⟩
    · exact ⟨Nat.ne_of_gt lrs, rssl, .inr lrs⟩
    · exact ⟨Nat.ne_of_gt lit, itsl, .inr lit⟩
  have frsNot : ∀ b, s.heap.get? b = none → b ∉ frs fr := fun b e q => by
    obtain ⟨o, e'⟩ := aA b (List.mem_cons_of_mem _ (List.mem_cons_of_mem _ q))
    rw [e] at e'; cases e'
  have hdis : ∀ b ∈ L1 :: frs fr, b ∉ [Lg, rs, it] := fun b hbm q => by
    obtain ⟨o, e⟩ := aA b (by rcases List.mem_cons.mp hbm with q | q <;> simp [q])
    simp at q
    rcases q with rfl | rfl | rfl
    · rcases List.mem_cons.mp hbm with q | q
      · exact nL1 q
      · exact nfr q
    · rw [nrs] at e; cases e
    · rw [nit] at e; cases e
  have S3 : LoopSt (A0x dp un gd fr) base fr hid L1 sl xs za zo h3 := S.keep (Z := []) (KeepX.of up3) (fun b hb => nomatch hb)
  refine seg_ind (I := fun k n s₀ st => ∃ j vs, k = ys.length - j ∧ j ≤ ys.length ∧ n = cntT ((kidsT kd 0 ts).drop j) + 2 ∧ GI w s.heap nv d kd us rr ys Lg rs it j vs st.heap ∧ Ext (O ++ [Lg, rs, it]) (L1 :: frs fr) s₀ st ∧ GensBut (fun _ => False) s₀ st ∧
      (∃ xs za zo, LoopSt (A0x dp un gd fr) base fr hid L1 sl xs za zo st.heap) ∧ (∀ b o, s.heap.get? b = some o → ∃ o', st.heap.get? b = some o')) ?_ ys.length _ _ _
    ⟨0, [], by simp, Nat.zero_le _, rfl, ⟨⟨m, by obtain ⟨o, es, ep, a, b⟩ := hns; exact ⟨o, es, ep, up3 _ _ a, b⟩, q4, q1, q2⟩, ⟨0, up3 _ _ hrs⟩, hI, hmk.keep (fun o e => up3 _ _ e), fun X _ => by simp [MdsAt]⟩,
      ⟨(hE.mono (X' := O ++ [Lg, rs, it]) (fun b hb => List.mem_append_left _ hb)).chg.trans (Chg.of up3), fun b o e => let ⟨o', e'⟩ := hE.alive b o e; ⟨o', up3 _ _ e'⟩, hE.drawn, hE.os, hE.bare⟩, hG, ⟨xs, za, zo, S3⟩, fun b o e => let ⟨o', e'⟩ := hE.alive b o e; ⟨o', up3 _ _ e'⟩⟩
  clear hI up3 ha3 S3 hst hns q1 q2 q3 q4 hE hrs hmk F S hG
  rintro k n s₀ st ⟨j, vs, rfl, hj, rfl, gi, hE, hG, ⟨xs, za, zo, S⟩, hal⟩ ih
  obtain ⟨⟨m, hns, p1, p2, p3⟩, ⟨n', hres⟩, hI, hmk, hdone⟩ := gi
  have hitst : ∃ o, st.heap.get? it = some o := by
    cases kd with
    | row => obtain ⟨o, e, _⟩ := hI; exact ⟨o, e⟩
    | lst => obtain ⟨o, e, _⟩ := hI; exact ⟨o, e⟩
    | dct => obtain ⟨ep, f0, b, ok, ov, hd', _⟩ := hI; exact ⟨_, hd'⟩
  have hXst : Has st.heap (L1 :: sl :: Lg :: rs :: it :: frs fr) := fun b hbm => by
    simp at hbm
    rcases hbm with rfl | rfl | rfl | rfl | rfl | q
    · exact S.has _ (by simp)
    · exact S.has _ (by simp)
    · obtain ⟨o, _, _, e, _⟩ := hns; exact ⟨o, e⟩
    · exact ⟨_, hres⟩
    · exact hitst
    · exact S.has _ (by simp [q])
  refine seg_forName ?_
  have hh : ((Asx dp un gd fr env).over (Code.forLoop (Expr.Name (Str.ofString "y") default) (Value.ref it) [] [] env) []).handled = none := rfl
  by_cases hjl : j < ys.length
  · obtain ⟨yj, hx⟩ : ∃ yj, ys[j]? = some yj := ⟨_, List.getElem?_eq_getElem hjl⟩
    obtain ⟨tj, htj, hmt⟩ := hys.item hx
    refine iter_next hI hmk nrr hx fun y h4 hitem hI4 k4 ⟨oit, hit4⟩ => ?_
    have S4 := S.keep k4 (by intro b hb; rw [List.mem_singleton.mp hb]; exact ⟨Nat.ne_of_gt lit, itsl, .inr lit⟩)
    have hns4 : h4.Ns Lg m := by obtain ⟨o, es, ep, a, b⟩ := hns; exact ⟨o, es, ep, k4 _ _ (by simpa using nLit) a, b⟩
    have hres4 := k4 rs _ (by simpa using nrsit) hres
    have F : Fr base0 Lg h4 m := ⟨hns4, fun b o e => S4.base b o (cx.b0 b o e), hL0⟩
    have zb : ∀ b, s.heap.get? b = none → base0.get? b = none := fun b e => by
      cases q : base0.get? b with
      | none => rfl
      | some o => have := hbs _ _ (cx.b0 _ _ q); rw [e] at this; cases this
    obtain ⟨rest, hrest, hex, hcov⟩ := coverage base0 h4 Lg [rs, it]
    have N : News base0 Lg h4 ((rs, W.listOf vs.toArray n') :: (it, oit) :: rest) := news_cons hres4 nLrs.symm (zb _ nrs) (news_cons hit4 nLit.symm (zb _ nit) hrest)
    have FK := fun h'' m' (F' : Fr base0 Lg h'' m') N' => keep_all (h' := h'') (l := [(rs, W.listOf vs.toArray n'), (it, oit)]) F hcov N F' N' rfl
    have FC := fun h'' m' (F' : Fr base0 Lg h'' m') N' => keep_some (h' := h'') (ex' := [Lg, rs, it]) F hcov F' N' (by simp)
    have hzs : vs.toArray.size ≤ sizeLine := by
      have e1 : vs.length = ((kidsT kd 0 us).take j).length := (hdone [] has_nil).length
      have : (1000 : Nat) ≤ sizeLine := by decide
      have e2 : ((kidsT kd 0 us).take j).length ≤ us.length := by rw [List.length_take, kidsT_length]; omega
      have := hw.1
      simp; omega
    have hne : ∀ p ∈ (it, oit) :: rest, p.1 ≠ rs := fun p hp => (List.mem_cons.mp hp).elim (fun q => by rw [q]; exact nrsit.symm) (rest_ne hex (by simp) p)
    have k34 : KeepX [Lg, rs, it] st.heap h4 := k4.mono (by simp)
    dsimp only
    refine (?_ : wpAny _ (⟨none, dp + 2, some (envOf _ _ _ _ _ :: env :: fr), gd, un + 3 + 1 + 3⟩ : Around) (storeName (envOf _ _ _ _ _) _ _) _ _ _)
    k_steps
    rename Fr base0 Lg _ _ => FA
    rename News base0 Lg _ _ => NA
    have UA := FK _ _ FA NA
    have kA : KeepX [Lg, rs, it] st.heap _ := k34.trans (UA.mono (by simp))
    have alA := alive_of (fs := []) (X := [Lg, rs, it]) ⟨fun b o n _ e => kA b o n e, fun _ _ m => nomatch m⟩ (fun b hbm => by
      simp at hbm
      rcases hbm with rfl | rfl | rfl
      · obtain ⟨o, _, _, e, _⟩ := FA.ns; exact ⟨o, e⟩
      · exact ⟨_, (NA _ (List.Mem.head _)).1⟩
      · exact ⟨_, (NA _ (List.Mem.tail _ (List.Mem.head _))).1⟩)
    have alLg : ∃ o, Heap.get? _ Lg = some o := let ⟨o, _, _, e, _⟩ := FA.ns; ⟨o, e⟩
    have SA := S4.keep UA (by intro b hb; rw [List.mem_singleton.mp hb]; exact ⟨nL1, nsl, oL⟩)
    have hAs : base0.objs.size ≤ _ := Nat.le_trans hL0 (Nat.le_of_lt (let ⟨_, _, _, e, _⟩ := FA.ns; Heap.lt_size e))
    have hwj := wfs_item hw.2 htj
    obtain ⟨hmA, hwA, hsA⟩ := kid_at hitem UA (fun b hb => by rw [List.mem_singleton.mp hb]; obtain ⟨o, _, _, e, _⟩ := hns; exact ⟨o, e⟩) SA.base hmt hwj
    obtain ⟨uj, huj⟩ : ∃ uj, us[j]? = some uj := ⟨_, List.getElem?_eq_getElem (by rw [← hlen, lys]; exact hjl)⟩
    have hkt : (kidsT kd 0 ts)[j]? = some (kidT kd j tj) := by rw [kidsT_get, htj]; simp
    have hku : (kidsT kd 0 us)[j]? = some (kidT kd j uj) := by rw [kidsT_get, huj]; simp
    have hdrop : (kidsT kd 0 ts).drop j = kidT kd j tj :: (kidsT kd 0 ts).drop (j + 1) := by
      obtain ⟨hl, e⟩ := List.getElem?_eq_some_iff.mp hkt
      rw [List.drop_eq_getElem_cons hl, e]
    refine seg_execs_cons ?_
    refine seg_stmt ?_
    refine (?_ : wpAny _ (⟨none, dp + 2, some (envOf _ _ _ _ _ :: env :: fr), gd, un + 3 + 1 + 3⟩ : Around) (exec _ (envOf _ _ _ _ _)) _ _ _)
    k_steps
    refine (?_ : wpAny _ _ (call _ _) _ _ _)
    refine' reify_k cx (Lg := Lg) (gen_below (SA.below hef hek) ?ga ?gb ?gc FA.ns hb) SA hAs (let ⟨o, _, _, e, _⟩ := FA.ns; ⟨o, e⟩) hmA hwA ?gs ?gd ?ge ?hnum ?hgen
    case ga => exact rfl
    case gb => exact rfl
    case gc => exact rfl
    case gs =>
      intro kd' ts' e
      obtain ⟨rr', ys', e1, e2, e3, e4, e5⟩ := hsA kd' ts' e
      refine ⟨rr', ys', e1, e2, e3, e4, ?_⟩
      rcases e5 with ⟨o, e5⟩ | e5
      · have bn := base_none SA e5
        exact ⟨bn.1, bn.2.1, (fun q => by rw [q, hb] at e5; cases e5), bn.2.2⟩
      · have z := new_back hal e5
        have nn : ∀ b, Has s.heap [b] → rr' ≠ b := fun b hb q => by
          obtain ⟨o, e⟩ := hb b (by simp)
          rw [← q, z] at e; cases e
        refine ⟨nn _ (fun b hb => aA b (by simp at hb; simp [hb])), nn _ (fun b hb => aA b (by simp at hb; simp [hb])), nn _ (fun b hb => by rw [List.mem_singleton.mp hb]; exact aL), fun q => ?_⟩
        obtain ⟨o, e⟩ := aA rr' (by simp [q])
        rw [z] at e; cases e
    case gd => omega
    case ge => omega
    case hnum =>
      intro k ek h5 tk5 up5
      obtain ⟨tt, rfl⟩ : ∃ tt, y = .int k tt := by rw [ek] at hmA; exact hmA
      have F5 := fr_up FA up5
      have N5 := news_grown0 NA up5
      clear FA NA
      k_steps
      refine seg_execs_cons ?_
      refine seg_If ?_
      refine (?_ : wpAny _ (⟨none, dp + 2, some (envOf _ _ _ _ _ :: env :: fr), gd, un + 3 + 1 + 3⟩ : Around) _ _ _ _)
      k_steps
      rename Fr base0 Lg _ _ => F6
      refine (?_ : wpAny _ _ (call _ _) _ _ _)
      refine isg_int (Xs := []) KeepX.refl (X0.keeps F6.keep) fun tk6 => ?_
      k_steps
      refine seg_execs_nil ?_
      refine (?_ : Seg _ _ _ _ _ _ _ (Sem.wrap _ _ _ _ (execs (_ :: []) (envOf _ _ _ _ _))) _ _)
      refine seg_execs_cons ?_
      refine seg_stmt ?_
      refine (?_ : wpAny _ (⟨none, dp + 2, some (envOf _ _ _ _ _ :: env :: fr), gd, un + 3 + 1 + 3⟩ : Around) (exec _ (envOf _ _ _ _ _)) _ _ _)
      k_steps
      rename Fr base0 Lg _ _ => F8
      rename News base0 Lg _ _ => N8
      refine seg_execs_nil ?_
      refine seg_again rfl ?_
      have k8 : KeepX [Lg, rs, it] st.heap _ := k34.trans (FC _ _ F8 (news_sub N8 fun q hq => List.mem_cons_of_mem _ (List.mem_cons_of_mem _ hq)))
      have k48 : KeepX [Lg, rs, it] h4 _ := FC _ _ F8 (news_sub N8 fun q hq => List.mem_cons_of_mem _ (List.mem_cons_of_mem _ hq))
      have h8rs := (N8 _ (List.Mem.head _)).1
      have h8it := (N8 _ (List.Mem.tail _ (List.Mem.head _))).1
      have a8 := alive_of (fs := []) (X := [Lg, rs, it]) ⟨fun b o n _ e => k8 b o n e, fun _ _ m => nomatch m⟩ (fun b hb => by
        simp at hb
        rcases hb with rfl | rfl | rfl
        · obtain ⟨o, _, _, e, _⟩ := F8.ns; exact ⟨o, e⟩
        · exact ⟨_, h8rs⟩
        · exact ⟨_, h8it⟩)
      have a48 := alive_of (fs := []) (X := [Lg, rs, it]) ⟨fun b o n _ e => k48 b o n e, fun _ _ m => nomatch m⟩ (fun b hb => by
        simp at hb
        rcases hb with rfl | rfl | rfl
        · obtain ⟨o, _, _, e, _⟩ := F8.ns; exact ⟨o, e⟩
        · exact ⟨_, h8rs⟩
        · exact ⟨_, h8it⟩)
      have hcnt : cntT ((kidsT kd 0 ts).drop j) = cntT ((kidsT kd 0 ts).drop (j + 1)) := by rw [hdrop, ek]; rfl
      have hkd : kd ≠ .dct := fun q => by subst q; cases ek
      have etj : kidT kd j tj = tj := by cases kd <;> first | rfl | exact absurd rfl hkd
      have euj : kidT kd j uj = .num k := by
        have : uj = .num k := hnum j k uj (by rw [htj, ← etj, ek]) huj
        rw [this]; cases kd <;> first | rfl | exact absurd rfl hkd
      refine ih (ys.length - (j + 1)) _ _ _ (by omega) ⟨j + 1, vs ++ [.int k tt], rfl, hjl, by rw [hcnt], ⟨⟨_, F8.ns, (if_neg (by decide)).trans ((if_neg (by decide)).trans p1), (if_neg (by decide)).trans ((if_neg (by decide)).trans p2), (if_neg (by decide)).trans ((if_neg (by decide)).trans p3)⟩, ⟨_, by simpa using h8rs⟩, ?_, hmk.keep (fun o e => k8 _ _ (by simp [r3, nrrs, nrr]) e), ?_⟩, ?_, hG, ⟨xs, za, zo, S.keep k8 ?_⟩, fun b o e => let ⟨o', e'⟩ := hal b o e; a8 _ _ e'⟩
      · exact hI4.keep (fun o e => by rw [hit4] at e; cases e; exact h8it) (fun o e => k48 _ _ (by simp [r3, nrrs, nrr]) e) a48
      · intro X hX
        rw [List.take_add_one, hku]
        refine MdsAt.snoc (MdsAt.setX (fun b o n _ q => n (by simp at q ⊢; grind)) _ (MdsAt.keep (k8.mono (fun b hb => by simp at hb; rcases hb with rfl | rfl | rfl <;> simp)) _ (hdone (Lg :: X) (has_cons (Classical.choose_spec aL) hX)))) (by rw [euj]; exact ⟨tt, rfl⟩)
      · exact ⟨hE.chg.trans ⟨fun b o n _ e => k8 b o (fun q => n (List.mem_append_right _ q)) e, fun b o hm e => ⟨o.slots, k8 b o (hdis b hm) e⟩⟩, fun b o e => let ⟨o', e'⟩ := hE.alive b o e; a8 _ _ e', hE.drawn, hE.os, hE.bare⟩
      · exact hZ
    case hgen =>
      intro hnn G dG Lk c5 h5 tk5 od5 up5 I5 hgf zk zG zdG
      have hc : cntT ((kidsT kd 0 ts).drop j) = cntT ((kidsT kd 0 ts).drop (j + 1)) + 1 := by
        rw [hdrop]
        cases e : kidT kd j tj with
        | num k => exact absurd e (hnn k)
        | var i => rfl
        | node a b => rfl
      rw [hc]
      have F5 := fr_up FA up5
      have h5rs := up5 _ _ (NA _ (List.Mem.head _)).1
      have h5it := up5 _ _ (NA _ (List.Mem.tail _ (List.Mem.head _))).1
      obtain ⟨rest5, hrest5, hex5, hcov5⟩ := coverage base0 h5 Lg [rs, it]
      have N5 : News base0 Lg h5 ((rs, W.listOf vs.toArray n') :: (it, oit) :: rest5) := news_cons h5rs nLrs.symm (zb _ nrs) (news_cons h5it nLit.symm (zb _ nit) hrest5)
      have FK5 := fun h'' m' (F' : Fr base0 Lg h'' m') N' => keep_all (h' := h'') (l := [(rs, W.listOf vs.toArray n'), (it, oit)]) F5 hcov5 N5 F' N' rfl
      clear FA NA
      k_steps
      refine seg_execs_cons ?_
      refine seg_If ?_
      refine (?_ : wpAny _ (⟨none, dp + 2, some (envOf _ _ _ _ _ :: env :: fr), gd, un + 3 + 1 + 3⟩ : Around) _ _ _ _)
      k_steps
      rename Fr base0 Lg _ _ => F6
      rename News base0 Lg _ _ => N6
      have U6 := FK5 _ _ F6 N6
      have nLg : ∀ x, Heap.get? _ x = none → x ∉ [Lg] := fun x e q => by
        obtain ⟨o, _, _, e', _⟩ := hns
        rw [List.mem_singleton.mp q] at e
        rw [e] at e'; cases e'
      refine (?_ : wpAny _ _ (call _ _) _ _ _)
      have I6 := inst_keepX I5 U6 (nLg _ (new_back alA zG)) (nLg _ (new_back alA zdG))
      refine isg_gen (Xs := []) I6 (by simp) (by simp) KeepX.refl (X0.keeps F6.keep) fun tk6 => ?_
      k_steps
      refine seg_execs_cons ?_
      refine seg_Assign_Y rfl rfl rfl ?_
      refine (?_ : wpAny _ (⟨none, dp + 2, some (envOf _ _ _ _ _ :: env :: fr), gd, un + 3 + 1 + 3⟩ : Around) _ _ _ _)
      k_steps
      rename_i kap hkap
      have k6 : KeepX [Lg, rs, it] st.heap _ := (kA.trans (KeepX.of up5)).trans (U6.mono (by simp))
      have a6 := alive_of (fs := []) (X := [Lg, rs, it]) ⟨fun b o n _ e => k6 b o n e, fun _ _ m => nomatch m⟩ (fun b hbm => by
        simp at hbm
        rcases hbm with rfl | rfl | rfl
        · obtain ⟨o, _, _, e, _⟩ := F6.ns; exact ⟨o, e⟩
        · exact ⟨_, (N6 _ (List.Mem.head _)).1⟩
        · exact ⟨_, (N6 _ (List.Mem.tail _ (List.Mem.head _))).1⟩)
      have alA4 := aliveX UA (fun b hbm => by rw [List.mem_singleton.mp hbm]; exact alLg)
      have al56 := aliveX U6 (fun b hbm => by rw [List.mem_singleton.mp hbm]; obtain ⟨o, _, _, e, _⟩ := F6.ns; exact ⟨o, e⟩)
      have gle : s₀.gens.size ≤ st.gens.size := gens_le hG
      refine ⟨O ++ [Lg, rs, it], hO2, ⟨hE.chg.trans ⟨fun b o n _ e => k6 b o (fun q => n (List.mem_append_right _ q)) e, fun b o hm e => ⟨o.slots, k6 b o (hdis b hm) e⟩⟩, fun b o e => let ⟨o', e'⟩ := hE.alive b o e; a6 _ _ e', hE.drawn, hE.os, fun h => (hE.bare h).push rfl⟩, hG.trans gens_push,
        .inl ⟨by omega, kidT kd j tj, kidT kd j uj, Lk, _, j, hkt, hku, hgf _ _ U6, new_back hE.alive (new_back alA zk), gle, hnn, ?_⟩⟩
      rintro r' ⟨h7, gs7, dr7, tk7, os7⟩ he ⟨xs7, za7, zo7, S7⟩ hF
      refine hkap r' _ ?_
      have zkst := new_back alA zk
      have old : ∀ b, (∃ o, st.heap.get? b = some o) → b ≠ Lk := fun b ⟨o, e⟩ q => by rw [q, zkst] at e; cases e
      have own7 : ∀ b ∈ [Lg, rs, it, rr], ∀ o, Heap.get? _ b = some o → h7.get? b = some o := fun b hbm o e => by
        simp at hbm
        rcases hbm with rfl | rfl | rfl | rfl
        · exact he.chg.keep _ o (by simp [nL1, nsl, old _ (let ⟨o, _, _, e, _⟩ := hns; ⟨o, e⟩)]) nfr e
        · exact he.chg.keep _ o (by simp [Nat.ne_of_gt lrs, rssl, old _ ⟨_, hres⟩]) (frsNot _ nrs) e
        · exact he.chg.keep _ o (by simp [Nat.ne_of_gt lit, itsl, old _ hitst]) (frsNot _ nit) e
        · exact he.chg.keep _ o (by simp [r1, r2, old _ hmk.has]) r4 e
      have h7rs := own7 rs (by simp) _ (N6 _ (List.Mem.head _)).1
      have h7it := own7 it (by simp) _ (N6 _ (List.Mem.tail _ (List.Mem.head _))).1
      have ns7 : h7.Ns Lg _ := let ⟨o, es, ep, a, b⟩ := F6.ns; ⟨o, es, ep, own7 Lg (by simp) _ a, b⟩
      have FS : Fr base0 Lg h7 _ := ⟨ns7, fun b o e => S7.base b o (cx.b0 b o e), hL0⟩
      obtain ⟨rest7, hrest7, hex7, hcov7⟩ := coverage base0 h7 Lg [rs, it]
      have N7 : News base0 Lg h7 ((rs, W.listOf vs.toArray n') :: (it, oit) :: rest7) := news_cons h7rs nLrs.symm (zb _ nrs) (news_cons h7it nLit.symm (zb _ nit) hrest7)
      have FC7 := fun h'' m' (F' : Fr base0 Lg h'' m') N' => keep_some (h' := h'') (ex' := [Lg, rs, it]) FS hcov7 F' N' (by simp)
      have hne7 : ∀ p ∈ (it, oit) :: rest7, p.1 ≠ rs := fun p hp => (List.mem_cons.mp hp).elim (fun q => by rw [q]; exact nrsit.symm) (rest_ne hex7 (by simp) p)
      have X6 : Has _ (L1 :: sl :: Lg :: rs :: it :: frs fr) := fun b hbm => a6 b _ (Classical.choose_spec (hXst b hbm))
      have N6h := And.intro (N6 _ (List.Mem.head _)).1 (N6 _ (List.Mem.tail _ (List.Mem.head _))).1
      clear F6 N6
      refine seg_wrap (wpAny_bind (wpAny_standAt (wpAny_bind (wpAny_bindName ?_))))
      refine (?_ : wpAny _ (⟨none, dp + 2, some (envOf _ _ _ _ _ :: env :: fr), gd, un + 3 + 1 + 3⟩ : Around) (storeName (envOf _ _ _ _ _) _ _) _ _ _)
      k_steps
      refine wpAny_pure ?_
      refine seg_execs_nil ?_
      refine (?_ : Seg _ _ _ _ _ _ _ (Sem.wrap _ _ _ _ (execs (_ :: []) (envOf _ _ _ _ _))) _ _)
      refine seg_execs_cons ?_
      refine seg_stmt ?_
      refine (?_ : wpAny _ (⟨none, dp + 2, some (envOf _ _ _ _ _ :: env :: fr), gd, un + 3 + 1 + 3⟩ : Around) (exec _ (envOf _ _ _ _ _)) _ _ _)
      k_steps
      rename Fr base0 Lg _ _ => F8
      rename News base0 Lg _ _ => N8
      refine seg_execs_nil ?_
      refine seg_again rfl ?_
      have k8 : KeepX [Lg, rs, it] h7 _ := FC7 _ _ F8 (news_sub N8 fun q hq => List.mem_cons_of_mem _ (List.mem_cons_of_mem _ hq))
      have h8rs := (N8 _ (List.Mem.head _)).1
      have h8it := (N8 _ (List.Mem.tail _ (List.Mem.head _))).1
      have a8 := aliveX k8 (fun b hbm => by
        simp at hbm
        rcases hbm with rfl | rfl | rfl
        · obtain ⟨o, _, _, e, _⟩ := F8.ns; exact ⟨o, e⟩
        · exact ⟨_, h8rs⟩
        · exact ⟨_, h8it⟩)
      have rr8 : ∀ o, h4.get? rr = some o → Heap.get? _ rr = some o := fun o e => by
        obtain ⟨o', e'⟩ := hmk.has
        have := k4 rr o' (by simpa using nrr) e'
        rw [e] at this; cases this
        exact k8 _ _ (by simp [r3, nrrs, nrr]) (own7 rr (by simp) _ (k6 _ _ (by simp [r3, nrrs, nrr]) e'))
      refine ih (ys.length - (j + 1)) _ _ _ (by omega) ⟨j + 1, vs ++ [r'], rfl, hjl, rfl, ⟨⟨_, F8.ns, (if_neg (by decide)).trans ((if_neg (by decide)).trans ((if_neg (by decide)).trans p1)), (if_neg (by decide)).trans ((if_neg (by decide)).trans ((if_neg (by decide)).trans p2)), (if_neg (by decide)).trans ((if_neg (by decide)).trans ((if_neg (by decide)).trans p3))⟩, ⟨_, by simpa using h8rs⟩, ?_, ?_, ?_⟩, ?_, GensBut.refl, ⟨xs7, za7, zo7, S7.keep k8 hZ⟩, fun b o e => let ⟨o1, e1⟩ := hal b o e; let ⟨o2, e2⟩ := a6 _ _ e1; let ⟨o3, e3⟩ := he.alive _ _ e2; a8 _ _ e3⟩
      · refine hI4.keep (fun o e => by rw [hit4] at e; cases e; exact h8it) rr8 fun b o e => ?_
        obtain ⟨o1, e1⟩ := alA4 b o e
        obtain ⟨o2, e2⟩ := al56 _ _ (up5 _ _ e1)
        obtain ⟨o3, e3⟩ := he.alive _ _ e2
        exact a8 _ _ e3
      · obtain ⟨o', e'⟩ := hmk.has
        refine hmk.keep fun o e => rr8 o (k4 rr o (by simpa using nrr) e)
      · intro X hX
        rw [List.take_add_one, hku]
        have X6' : Has _ (rs :: it :: (Lg :: X)) := has_cons (N6h.1) (has_cons N6h.2 (fun b hbm => by
          rcases List.mem_cons.mp hbm with rfl | hbm
          · exact X6 _ (by simp)
          · obtain ⟨o, e⟩ := hX b hbm
            obtain ⟨o1, e1⟩ := hal b o e
            exact a6 _ _ e1))
        refine MdsAt.snoc ?_ (MdAt.setX (fun b o n _ q => n (by simp at q ⊢; grind)) _ (MdAt.keep (k8.mono (fun b hbm => by simp at hbm; rcases hbm with rfl | rfl | rfl <;> simp)) _ (hF _ X6')))
        have d0 := hdone (Lg :: L1 :: sl :: (frs fr ++ X)) (has_cons (Classical.choose_spec aL) (fun b hbm => by
          simp at hbm
          rcases hbm with rfl | rfl | hbm | hbm
          · exact aA _ (by simp)
          · exact aA _ (by simp)
          · exact aA _ (by simp [hbm])
          · exact hX _ hbm))
        have d1 : MdsAt w st.heap (Lk :: (rs :: it :: Lg :: L1 :: sl :: (frs fr ++ X))) nv ((kidsT kd 0 us).take j) vs := MdsAt.setX (fun b o n e q => by
          rcases List.mem_cons.mp q with q | q
          · exact old b ⟨o, e⟩ q
          · exact n q) _ d0
        refine MdsAt.setX (fun b o n _ q => n (by simp at q ⊢; grind)) _ (MdsAt.keep (h' := _) (fun b o n e => ?_) _ d1)
        simp only [List.mem_cons, List.mem_append, not_or] at n
        exact k8 _ _ (by simp [n]) (he.chg.keep _ _ (by simp [n]) n.2.2.2.2.2.2.1 (k6 _ _ (by simp [n]) e))
      · exact ⟨⟨fun b o n _ e => k8 b o (fun q => n (List.mem_append_right _ q)) e, fun b o hm e => ⟨o.slots, k8 b o (hdis b hm) e⟩⟩, a8, rfl, rfl, id⟩
  · have ej : j = ys.length := by omega
    have elen : us.length = ys.length := by omega
    have ed : (kidsT kd 0 ts).drop j = [] := List.drop_eq_nil_of_le (by rw [kidsT_length]; omega)
    rw [ed]
    refine iter_end hh hI hmk (by simp; omega) fun h' k4 a4' => ?_
    have a4 := aliveX k4 (fun b hbm => by rw [List.mem_singleton.mp hbm]; exact a4')
    have etk : (kidsT kd 0 us).take j = kidsT kd 0 us := List.take_of_length_le (by rw [kidsT_length]; omega)
    rw [etk] at hdone
    refine seg_leaf (.ok .next) ?_
    refine NE ⟨⟨m, by obtain ⟨o, es, ep, a, b⟩ := hns; exact ⟨o, es, ep, k4 _ _ (by simpa using nLit) a, b⟩, p1, p2, p3⟩, ⟨n', k4 rs _ (by simpa using nrsit) hres⟩, fun X hX => MdsAt.keep (k4.mono (by simp)) _ (hdone X hX)⟩ hO2 ?_ hG ⟨xs, za, zo, S.keep k4 ?_⟩ ?_ nit
    · exact ⟨hE.chg.trans ⟨fun b o n _ e => k4 b o (fun q => n (List.mem_append_right _ (by simp at q; simp [q]))) e, fun b o hm e => ⟨o.slots, k4 b o (fun q => hdis b hm (by simp at q; simp [q])) e⟩⟩, fun b o e => let ⟨o', e'⟩ := hE.alive b o e; a4 _ _ e', hE.drawn, hE.os, hE.bare⟩
    · intro b hb
      rw [List.mem_singleton.mp hb]
      exact hZ it (by simp)
    · exact fun b o e => let ⟨o', e'⟩ := hal b o e; a4 _ _ e'
end

end Mine
end
section -- N21
open PySem PySem.W PySem.Calls PyProof.Rows
set_option maxRecDepth 100000
set_option maxHeartbeats 8000000
set_option linter.unusedVariables false
namespace Mine
local macro_rules | `(tactic| walk_at "idle0") => `(tactic| fail)
local macro_rules | `(tactic| k_all) => `(tactic| assumption)
local macro_rules | `(tactic| ktr_enter) => `(tactic| first
  | (refine' code_defG ?k1 ?k2 ?k3 ?k4 ?k5 ?kA ?kF ?kK ?k6 ?k7 ?k8 ?k9 ?kB ?_ ?c2 ?c3 ?c4 ?c5; (case kA => exact rfl); (case kF => exact rfl); (case kK => first | assumption | exact rfl); (case k1 => k_asm); (case k2 => k_asm); (case k3 => k_asm); (case k4 => first | k_asm | exact News.nil); (case k5 => k_asm); (case k6 => k_is); (case k7 => k_is); (case k8 => ktr_room); (case k9 => exact BindsTo.of_eq rfl); (case c5 => decide); (case kB => exact locs rfl); (case c2 => exact rfl); (case c3 => exact rfl); (case c4 => exact rfl))
  | (refine' code_defCG ?k1 ?k2 ?k3 ?k4 ?k5 ?kA ?kF ?kK ?k6 ?k7 ?k8 ?k9 ?kB ?kD ?_ ?c2 ?c3 ?c4; (case kA => exact rfl); (case kF => exact rfl); (case kK => first | assumption | exact rfl); (case k1 => k_asm); (case k2 => k_asm); (case k3 => k_asm); (case k4 => first | k_asm | exact News.nil); (case k5 => k_asm); (case k6 => k_is); (case k7 => k_is); (case k8 => ktr_room); (case k9 => exact BindsTo.of_eq rfl); (case kB => exact rfl); (case kD => decide +kernel); (case c2 => exact rfl); (case c3 => exact rfl); (case c4 => exact rfl)))
local macro_rules | `(tactic| k_room) => `(tactic| (first | ((try simp only [depth_under_make, depth_under_kw, depth_in1, depth_deeper, depth_caller]); decide) | (dsimp only [ktrTop, Around.deeper, Around.in1, Around.mark]; omega) | ((try simp only [depth_under_make, depth_under_kw, depth_in1, depth_deeper, depth_caller]); (try dsimp only [ktrTop, Around.deeper, Around.in1, Around.mark]); omega)))
local macro_rules | `(tactic| k_units) => `(tactic| (first | exact Nat.le_of_ble_eq_true rfl | (dsimp only [ktrTop, Around.deeper, Around.in1, Around.mark]; omega)))
local macro_rules | `(tactic| k_inst) => `(tactic| first | (refine' inst_up1 ?F ?I; (case F => k_asm); (case I => assumption)) | (refine' inst_up2 ?F2 ?F ?I; (case F2 => k_asm); (case F => k_asm); (case I => assumption)))
local macro_rules | `(tactic| walk_at "eval Name") => `(tactic| (k_here; k_dflt (refine' ld ?k1 ?k2 ?_; (case k1 => k_asm); (case k2 => assumption))))
local macro_rules | `(tactic| walk_at "call ref") => `(tactic| (k_here; (with_reducible show wpAny _ _ (call (Value.ref 213) _) _ _ _); refine of_here ?_))
local macro_rules | `(tactic| walk_at "call builtin:isinstance") => `(tactic| (k_here; refine of_here ?_))
local macro_rules | `(tactic| walk_at "getMethod ref") => `(tactic| (k_here; (with_reducible show wpAny _ _ (getMethod (Value.ref _) (PySem.Str.ofString "items") _) _ _ _); refine of_here ?_))
local macro_rules | `(tactic| walk_at "call builtin:dict.items") => `(tactic| (k_here; refine of_here ?_))
section
variable {w : World} {dp un : Nat} {gd : Option (List Code)} {fr : List Env} {base base0 : Heap} {hid : List Addr} {L1 sl : Addr} {env : Env} {C : Code} {nv : Int → Addr} {d : Addr} {kvs : List (Int × Value)} {sg : Int → Option Tm} {D : Nat} {R : Result → Shared → Prop}
theorem rest_new {g h : Heap} {L x : Addr} {rest : List (Addr × Obj)} (cov : ∀ b o, h.get? b = some o → b ≠ L → b ∉ ([] : List Addr) → g.get? b = none → (b, o) ∈ rest) (n : x ≠ L) (z : g.get? x = none) (lt : ∀ p ∈ rest, p.1 < x) : h.get? x = none := by
  cases q : h.get? x with
  | none => rfl
  | some o => exact absurd (lt _ (cov _ o q n (by simp) z)) (Nat.lt_irrefl _)
theorem is_dict_no {w : World} {A : Around} {E Q : Value → Shared → Prop} {s : Shared} {a : Addr} {ys : List Value} {kd : Kd} (hm : MkAt w s.heap a ys kd) (hk : kd ≠ .dct) (h : ∀ tk, Q (.bool false) { s with toks := tk }) : wpAny (model PySem.Challenge.rw_ez0159_01.row.prog w) A (call (.builtin "isinstance") [.ref a, .type "dict"]) Q E s := by
  obtain ⟨o, ho, hc⟩ := hm.cls
  cases kd with
  | row => exact IsiPair.tuple_dict ho hc (h _)
  | lst => exact IsiPair.list_dict ho hc (h _)
  | dct => exact absurd rfl hk
theorem is_dict_yes {w : World} {A : Around} {E Q : Value → Shared → Prop} {s : Shared} {a : Addr} {ys : List Value} (hm : MkAt w s.heap a ys .dct) (h : ∀ tk, Q (.bool true) { s with toks := tk }) : wpAny (model PySem.Challenge.rw_ez0159_01.row.prog w) A (call (.builtin "isinstance") [.ref a, .type "dict"]) Q E s := by
  obtain ⟨o, ho, hc⟩ := hm.cls
  exact IsiPair.dict_dict ho hc (h _)
theorem items_method {w : World} {A : Around} {E : Value → Shared → Prop} {Q : Value × List Value → Shared → Prop} {s : Shared} {a : Addr} {ys : List Value} {pl : Sem Bool} (hm : MkAt w s.heap a ys .dct) (h : Q (.builtin "dict.items", [.ref a]) s) : wpAny (model PySem.Challenge.rw_ez0159_01.row.prog w) A (getMethod (.ref a) (Str.ofString "items") pl) Q E s :=
  have hD : s.heap.DictOf (intKind PySem.Challenge.rw_ez0159_01.row.prog w) a (enumV 0 ys) := hm
  getMethod_builtin hD.typeIs PySem.F.plainAttrs_dict PySem.F.slot_dict_items PySem.F.type_dict_items hD.mapOf.noDict h
theorem items_call {w : World} {A : Around} {E Q : Value → Shared → Prop} {s : Shared} {a : Addr} {ys : List Value} (hm : MkAt w s.heap a ys .dct) (lo : (a == sysModules) = false)
    (h : ∀ h', h'.IsItemsView s.heap.objs.size a → (∀ b o, s.heap.get? b = some o → h'.get? b = some o) → Q (.ref s.heap.objs.size) { s with heap := h' }) : wpAny (model PySem.Challenge.rw_ez0159_01.row.prog w) A (call (.builtin "dict.items") [.ref a]) Q E s :=
  have hD : s.heap.DictOf (intKind PySem.Challenge.rw_ez0159_01.row.prog w) a (enumV 0 ys) := hm
  call_meetsIn PySem.F.slot_dict_items hD.typeIs PySem.F.entry_dict_items (PySem.F.args_dict_items_1 _) (meets_dict_items _ a lo) ⟨⟨_, hD⟩, h _ ⟨_, Heap.get?_push_size _ rfl, rfl, rfl⟩ fun b o e => Heap.get?_push_of_some _ e⟩
theorem node_seg (cx : Cx w dp un gd fr base base0 hid L1 sl env C nv d kvs sg D) {s : Shared} {xs : List Value} {za zo : Value} {Lg rr : Addr} {c : Code} {m : Str → Option Value} {kd : Kd} {ts us : List Tm} {ys : List Value}
    (S : LoopSt (A0x dp un gd fr) base fr hid L1 sl xs za zo s.heap) (hc : GenCode (Mine.hd.heap_39 w.params) 227 Lg c) (hns : s.heap.Ns Lg m) (q1 : m (Str.ofString "ctor") = some (.type kd.ty)) (q2 : m (Str.ofString "s") = some (.ref d)) (q3 : m (Str.ofString "t") = some (.ref rr))
    (hmk : MkAt w s.heap rr ys kd) (hys : MdsAt w base [sysModules] nv ts ys) (hw : Wf 0 5 (.node kd ts)) (hlen : ts.length = us.length) (hnum : ∀ (j : Nat) (n : Int) (u : Tm), ts[j]? = some (.num n) → us[j]? = some u → u = .num n)
    (hdm : kd = .dct → rr ≠ sysModules) (r1 : rr ≠ L1) (r2 : rr ≠ sl) (r3 : rr ≠ Lg) (r4 : rr ∉ frs fr)
    (oL : Lg ∈ hid ∨ L1 < Lg) (nL1 : Lg ≠ L1) (nsl : Lg ≠ sl) (nfr : Lg ∉ frs fr) (hb : base.get? Lg = none) (hL0 : base0.objs.size ≤ Lg) :
    Seg (model PySem.Challenge.rw_ez0159_01.row.prog w) (Asx dp un gd fr env) REnd (YNode w dp un gd fr base base0 hid L1 sl nv d s.heap kd ts us Lg) (cntT (kidsT kd 0 ts) + 2) s c ((model PySem.Challenge.rw_ez0159_01.row.prog w).den c) [] s := by
  obtain ⟨p, loose, mean, mg, mb, T0⟩ := cx.T0
  have X0 := cx.X0
  have hd := cx.hd
  have hu := cx.hu
  obtain ⟨hef, hek⟩ := stream_env cx.code
  obtain ⟨oc, od, fd, osl, body, h1, h2, rfl⟩ := hc
  have aL : ∃ o, s.heap.get? Lg = some o := let ⟨o, _, _, e, _⟩ := hns; ⟨o, e⟩
  have lt1 : L1 < s.heap.objs.size := by obtain ⟨o, e⟩ := S.has L1 (by simp); exact Heap.lt_size e
  have NT : ∀ {s' : Shared} {tv : Value} {rs : Addr} {m' : Str → Option Value}, KeepX [Lg] s.heap s'.heap → s'.heap.Ns Lg m' → m' (Str.ofString "ctor") = some (.type kd.ty) → m' (Str.ofString "s") = some (.ref d) → m' (Str.ofString "t") = some tv → m' (Str.ofString "res") = some (.ref rs) →
      s'.heap.get? rs = some (W.listOf #[] 0) → s.heap.get? rs = none → L1 < rs → s'.drawn = s.drawn → s'.os = s.os → s'.gens = s.gens →
      (∀ {A : Around} {E Q : Value → Shared → Prop} {s2 : Shared}, s2.heap = s'.heap → (∀ it h', it = s2.heap.objs.size → IterAt w h' kd rr ys it 0 → (∀ b o, s2.heap.get? b = some o → h'.get? b = some o) → (∃ o, h'.get? it = some o) → Q (.ref it) { s2 with heap := h' }) → wpAny (model PySem.Challenge.rw_ez0159_01.row.prog w) A (pyIter tv) Q E s2) →
      Seg (model PySem.Challenge.rw_ez0159_01.row.prog w) (Asx dp un gd fr env) REnd (YNode w dp un gd fr base base0 hid L1 sl nv d s.heap kd ts us Lg) (cntT (kidsT kd 0 ts) + 2) s (.func body (callEnv fd Lg 227))
        ((execs (body.drop 2) (callEnv fd Lg 227)).wrap (fun f => .pure (.done (.ret (match f with | .ret v => v | _ => .none)))) (fun e => (leaving (callEnv fd Lg 227) e).wrap (fun _ => .raise e) .raise id id) id id) [] s' :=
    fun k ns t1 t2 t3 t4 hrs nrs lrs e1 e2 e3 hst => node_tail cx (O := [Lg]) h1 h2 (S.keep k (by intro b hb; rw [List.mem_singleton.mp hb]; exact ⟨nL1, nsl, oL⟩)) ns t1 t2 t3 t4
      ⟨⟨fun b o n _ e => k b o n e, fun b o hm e => ⟨o.slots, k b o (fun q => by rw [List.mem_singleton.mp q] at hm; exact (List.mem_cons.mp hm).elim nL1 nfr) e⟩⟩, aliveX k (by intro b hb; rw [List.mem_singleton.mp hb]; obtain ⟨o, _, _, e, _⟩ := ns; exact ⟨o, e⟩), e1, e2, fun h => by rw [e3]; exact h⟩
      (fun b hb => .inl (List.mem_singleton.mp hb)) (fun g st e _ => by rw [e3]; exact e) hrs nrs lrs hst (hmk.keep fun o e => k _ _ (by simpa using r3) e) hys hw hlen hnum hmk.has r1 r2 r3 r4 S.base aL S.has oL nL1 nsl nfr hb hL0
  refine' with_fd h1 ?ho ?_
  case ho => k_is
  intro e
  subst e
  clear h1
  cases h2
  refine (?_ : Seg _ _ _ _ _ _ (.func _ (envOf _ _ _ _ _)) _ _ _)
  refine seg_func ?_
  refine seg_execs_cons ?_
  refine seg_stmt ?_
  have F : Fr base0 Lg s.heap m := ⟨hns, fun b o e => S.base b o (cx.b0 b o e), hL0⟩
  obtain ⟨rest, N, hex, hcov⟩ := coverage base0 s.heap Lg []
  have FK := fun h'' m' (F' : Fr base0 Lg h'' m') N' => keep_all (h' := h'') (l := []) F hcov N F' N' rfl
  refine (?_ : wpAny _ (⟨none, dp + 2, some (envOf _ _ _ _ _ :: env :: fr), gd, un + 3 + 1 + 3⟩ : Around) (exec _ (envOf _ _ _ _ _)) _ _ _)
  k_steps
  refine seg_execs_cons ?_
  refine seg_stmt ?_
  refine (?_ : wpAny _ (⟨none, dp + 2, some (envOf _ _ _ _ _ :: env :: fr), gd, un + 3 + 1 + 3⟩ : Around) (exec _ (envOf _ _ _ _ _)) _ _ _)
  k_steps
  rename Fr base0 Lg _ _ => F1
  rename News base0 Lg _ _ => N1
  rename ∀ (p : Addr × Obj), p ∈ rest → p.fst < _ => l1
  have U1 := FK _ _ F1 (news_sub N1 fun q hq => List.mem_cons_of_mem _ hq)
  have hmk1 := hmk.keep (h' := _) (fun o e => U1 _ _ (by simpa using r3) e)
  have h1rs := (N1 _ (List.Mem.head _)).1
  have nLrs := (N1 _ (List.Mem.head _)).2.1
  have n0rs := (N1 _ (List.Mem.head _)).2.2
  have nrs := rest_new hcov nLrs n0rs l1
  obtain ⟨oL1, eL1⟩ := S.has L1 (by simp)
  have zz : base0.get? L1 = none := by
    cases q : base0.get? L1 with
    | none => rfl
    | some o => exact absurd rfl (base_none S (cx.b0 _ _ q)).1
  have lrs := l1 _ (hcov _ _ eL1 nL1.symm (by simp) zz)
  refine (?_ : wpAny _ _ (call _ _) _ _ _)
  by_cases hkd : kd = .dct
  · subst hkd
    refine is_dict_yes hmk1 fun tk2 => ?_
    k_steps
    refine (?_ : wpAny _ _ (getMethod _ _ _) _ _ _)
    refine items_method hmk1 ?_
    k_steps
    refine (?_ : wpAny _ _ (call _ _) _ _ _)
    refine items_call hmk1 (by simpa using hdm rfl) fun h2 hv up2 => ?_
    have F2 := fr_up F1 up2
    have ltv := let ⟨_, _, _, e, _⟩ := F1.ns; Heap.lt_size e
    clear F1 N1
    obtain ⟨rest2, hrest2, hex2, hcov2⟩ := coverage base0 h2 Lg []
    have N2 : News base0 Lg h2 rest2 := hrest2
    have FK2 := fun h'' m' (F' : Fr base0 Lg h'' m') N' => keep_all (h' := h'') (l := []) F2 hcov2 N2 F' N' rfl
    have h2rs := up2 _ _ h1rs
    have hmk2 := hmk1.keep (h' := h2) fun o e => up2 _ _ e
    obtain ⟨ov, hov, hcv, hdv⟩ := hv
    k_steps
    rename Fr base0 Lg _ _ => F3
    rename News base0 Lg _ _ => N3
    have U3 := FK2 _ _ F3 N3
    have k3 : KeepX [Lg] s.heap _ := (U1.trans (KeepX.of up2)).trans U3
    have hov3 := U3 _ _ (by simp [Nat.ne_of_gt ltv]) hov
    have hmk3 := hmk2.keep (h' := _) (fun o e => U3 _ _ (by simpa using r3) e)
    refine NT k3 F3.ns q1 q2 rfl rfl (U3 _ _ (by simpa using nLrs) h2rs) nrs lrs rfl rfl rfl fun e hQ => iter_startD ⟨ov, by rw [e]; exact hov3, hcv, hdv⟩ (hmk3.keep fun o q => by rw [e]; exact q) hQ
  · refine is_dict_no hmk1 hkd fun tk2 => ?_
    k_steps
    rename Fr base0 Lg _ _ => F2
    rename News base0 Lg _ _ => N2
    refine NT U1 F2.ns q1 q2 q3 rfl (N2 _ (List.Mem.head _)).1 nrs lrs rfl rfl rfl fun e hQ => iter_start (hmk1.keep fun o q => by rw [e]; exact q) hkd hQ
end

end Mine
end
section -- M32
open PySem PySem.W PySem.Calls PyProof.Rows
set_option maxRecDepth 100000
set_option maxHeartbeats 4000000
namespace Mine
/-- the loop's state over what a generator changes -/
theorem LoopSt.chg {A : Around} {base h h' : Heap} {fr : List Env} {hid : List Addr} {L1 sl : Addr} {xs : List Value} {za zo : Value} {X : List Addr} (S : LoopSt A base fr hid L1 sl xs za zo h) (k : Chg X (L1 :: frs fr) h h') (hX : ∀ b ∈ X, b ≠ L1 ∧ b ≠ sl ∧ (b ∈ hid ∨ L1 < b)) : LoopSt A base fr hid L1 sl xs za zo h' := by
  obtain ⟨g, m, n, F, B, q1, q2, q3, q4, hst, nsl, nL, hh⟩ := S.ex
  have nX : ∀ b o, g.get? b = some o → b ∉ X := fun b o e q => by
    rcases (hX b q).2.2 with z | z
    · rw [hh b z] at e; cases e
    · rw [Heap.get?_none_of_le (Nat.le_trans F.above (Nat.le_of_lt z))] at e; cases e
  obtain ⟨T, K⟩ := kts_turn_at (h := h') (fs := frs fr) (g := g)
    (fun b hb => by
      obtain ⟨_, o, ho, _⟩ := B.frames.mem hb
      exact ⟨o, ho⟩)
    (fun b o e n => k.keep b o (nX b o e) (fun q => by
      rcases List.mem_cons.mp q with rfl | q
      · rw [kts_self F] at e; cases e
      · exact n q) (F.keep b o e))
    (fun b o e hm => k.slots b o (List.mem_cons_of_mem _ hm) (F.keep b o e))
  have hns : h'.Ns L1 m := by
    obtain ⟨o, es, ep, a, b, c⟩ := F.ns
    obtain ⟨sl', hs⟩ := k.slots L1 o (List.Mem.head _) a
    exact ⟨_, es, ep, hs, b, c⟩
  refine ⟨⟨_, m, n, ⟨hns, K, by rw [T.size]; exact F.above⟩, ⟨B.stack, fun b o e => T.other b o (B.stays b o e) (fun hm => by
    rw [(B.frames.mem hm).1] at e
    cases e), B.frames.of_keeps fun b o e _ => ?_⟩, q1, q2, q3, q4, k.keep _ _ (fun q => (hX _ q).2.1 rfl) (fun q => ?_) hst, T.none_ _ nsl, nL, fun x hx => T.none_ _ (hh x hx)⟩⟩
  · obtain ⟨sl, hs⟩ := T.up e
    exact ⟨_, hs, rfl⟩
  · rcases List.mem_cons.mp q with q | q
    · exact nL q
    · exact frs_notin B F nsl _ q (by simp)
theorem LoopSt.apart {A : Around} {base h : Heap} {fr : List Env} {hid : List Addr} {L1 sl : Addr} {xs : List Value} {za zo : Value} (S : LoopSt A base fr hid L1 sl xs za zo h) {x : Addr} (hx : x ∈ hid ∨ L1 < x) : x ∉ frs fr := fun q => by
  obtain ⟨g, m, n, F, B, q1, q2, q3, q4, hst, nsl, nL, hh⟩ := S.ex
  obtain ⟨_, o, ho, _⟩ := B.frames.mem q
  rcases hx with z | z
  · rw [hh x z] at ho; cases ho
  · rw [Heap.get?_none_of_le (Nat.le_trans F.above (Nat.le_of_lt z))] at ho; cases ho
/-- a frame and a list -/
theorem LoopSt.kinds {A : Around} {base h : Heap} {fr : List Env} {hid : List Addr} {L1 sl : Addr} {xs : List Value} {za zo : Value} (S : LoopSt A base fr hid L1 sl xs za zo h) : (∃ o es ep, h.get? L1 = some o ∧ o.data = .dict es ep) ∧ ∃ n, h.get? sl = some (W.listOf xs.toArray n) := by
  obtain ⟨g, m, n, F, B, q1, q2, q3, q4, hst, nsl, nL, hh⟩ := S.ex
  obtain ⟨o, es, ep, a, b, c⟩ := F.ns
  exact ⟨⟨o, es, ep, a, b⟩, n, hst⟩
/-- a `Generator` with its dict and the generator it bears -/
structure GenH (w : World) (h : Heap) (G dG ga gno : Nat) (tk : Tok) : Prop where
  inst : W.InstAt h G (instObj 38 dG) 38 (some (dictOf [⟨PyData.keyHash w.params (Str.ofString "rows"), .str (Str.ofString "rows") tk, .ref ga⟩] 1))
  gen : IsGenD h ga gno
theorem GenH.keep {w : World} {h h' : Heap} {G dG ga gno : Nat} {tk : Tok} (x : GenH w h G dG ga gno tk) (k : ∀ b ∈ [G, dG, ga], ∀ o, h.get? b = some o → h'.get? b = some o) : GenH w h' G dG ga gno tk := by
  obtain ⟨⟨a, b, n, dd⟩, g⟩ := x
  exact ⟨⟨k _ (by simp) _ a, b, n, k _ (by simp) _ dd⟩, g.keep (k _ (by simp))⟩
theorem GenH.apart {w : World} {A : Around} {base h : Heap} {fr : List Env} {hid : List Addr} {L1 sl : Addr} {xs : List Value} {za zo : Value} {G dG ga gno : Nat} {tk : Tok} (x : GenH w h G dG ga gno tk) (S : LoopSt A base fr hid L1 sl xs za zo h) (ndL : dG ≠ L1) (oG : G ∈ hid ∨ L1 < G) (odG : dG ∈ hid ∨ L1 < dG) (oga : ga ∈ hid ∨ L1 < ga) :
    ∀ b ∈ [G, dG, ga], b ≠ L1 ∧ b ≠ sl ∧ b ∉ frs fr := by
  obtain ⟨⟨o, es, ep, e1, e2⟩, n, e3⟩ := S.kinds
  obtain ⟨⟨a, b, n, dd⟩, ⟨⟨og, nm, qn, g1, g2, g3, _⟩, _⟩⟩ := x
  intro c hc
  simp at hc
  rcases hc with rfl | rfl | rfl
  · refine ⟨fun q => ?_, fun q => ?_, S.apart oG⟩
    · rw [q, e1] at a; cases a; cases e2
    · rw [q, e3] at a; cases a
  · refine ⟨ndL, fun q => ?_, S.apart odG⟩
    have dd' : h.get? c = some _ := dd
    rw [q, e3] at dd'
    have := congrArg Obj.cls (Option.some.inj dd')
    exact absurd (Value.type.inj this) (by decide)
  · refine ⟨fun q => ?_, fun q => ?_, S.apart oga⟩
    · rw [q, e1] at g1; cases g1; rw [e2] at g3; cases g3
    · rw [q, e3] at g1; cases g1; cases g3
theorem GenH.other {w : World} {h : Heap} {G dG ga gno : Nat} {tk : Tok} {Lg : Addr} {m : Str → Option Value} (x : GenH w h G dG ga gno tk) (hns : h.Ns Lg m) (n : Lg ≠ dG) : ∀ b ∈ [G, dG, ga], b ≠ Lg := by
  obtain ⟨o, es, ep, e1, e2, _⟩ := hns
  obtain ⟨⟨a, b, n, dd⟩, ⟨⟨og, nm, qn, g1, g2, g3, _⟩, _⟩⟩ := x
  intro c hc
  simp at hc
  rcases hc with rfl | rfl | rfl
  · intro q
    rw [q, e1] at a; cases a; cases e2
  · exact Ne.symm ‹Lg ≠ c›
  · intro q
    rw [q, e1] at g1; cases g1; rw [e2] at g3; cases g3
theorem GenH.alive {w : World} {h : Heap} {G dG ga gno : Nat} {tk : Tok} (x : GenH w h G dG ga gno tk) : Has h [G, dG, ga] := by
  obtain ⟨⟨a, b, n, dd⟩, ⟨⟨og, nm, qn, g1, g2, g3, _⟩, _⟩⟩ := x
  exact has_cons a (has_cons dd (has_cons g1 has_nil))
theorem seg_monoY {M : Model} {A : Around} {R : GenEnd} {Y Y' : Protocol} (hY : ∀ m s₀ v s' kap kap', (∀ r s, kap r s → kap' r s) → Y m s₀ v s' kap → Y' m s₀ v s' kap') : ∀ (n : Nat) {s₀ : Shared} {c : Code} {t : Sem Fin} {fs : List Frame} {s : Shared}, Seg M A R Y n s₀ c t fs s → Seg M A R Y' n s₀ c t fs s
  | n, s₀, c, t, fs, s, h => by
    rw [seg_iff] at h ⊢
    intro Γ p hc hw
    obtain ⟨e, s', hr, he⟩ := h Γ p hc hw
    refine ⟨e, s', hr, ?_⟩
    cases e with
    | susp v g l k c' p' fs' =>
      cases n with
      | zero => exact ⟨he.1, hY _ _ _ _ _ _ (fun r s q => q) he.2⟩
      | succ n => exact ⟨he.1, hY _ _ _ _ _ _ (fun r s q => seg_monoY hY n q) he.2⟩
    | _ => exact he
theorem Ext.inX {X fs : List Addr} {L1 : Addr} {s s' : Shared} (x : Ext X (L1 :: fs) s s') : Ext (L1 :: X) fs s s' :=
  ⟨⟨fun b o n m e => x.chg.keep b o (fun q => n (List.mem_cons_of_mem _ q)) (fun q => (List.mem_cons.mp q).elim (fun z => n (by simp [z])) m) e, fun b o m e => x.chg.slots b o (List.mem_cons_of_mem _ m) e⟩, x.alive, x.drawn, x.os, x.bare⟩
theorem ext_up {X fs : List Addr} {s : Shared} {h' : Heap} {tk : Nat} (k : ∀ b o, s.heap.get? b = some o → h'.get? b = some o) : Ext X fs s { s with heap := h', toks := tk } := ⟨Chg.of k, fun b o e => ⟨o, k _ _ e⟩, rfl, rfl, id⟩
theorem gens_eq {s s' : Shared} {g : Nat} {x : GenState} (e : s'.gens = (s.setGen g x).gens) : GensBut (· = g) s s' := fun i st h n => by
  rw [e]; exact gens_set (s := s) i st h n
end Mine
end
section -- N22
open PySem PySem.W PySem.Calls PyProof.Rows
set_option maxRecDepth 100000
set_option maxHeartbeats 8000000
set_option linter.unusedVariables false
namespace Mine
local macro_rules | `(tactic| k_all) => `(tactic| assumption)
local macro_rules | `(tactic| ktr_enter) => `(tactic| first
  | (refine' code_defG ?k1 ?k2 ?k3 ?k4 ?k5 ?kA ?kF ?kK ?k6 ?k7 ?k8 ?k9 ?kB ?_ ?c2 ?c3 ?c4 ?c5; (case kA => exact rfl); (case kF => exact rfl); (case kK => first | assumption | exact rfl); (case k1 => k_asm); (case k2 => k_asm); (case k3 => k_asm); (case k4 => first | k_asm | exact News.nil); (case k5 => k_asm); (case k6 => k_is); (case k7 => k_is); (case k8 => ktr_room); (case k9 => exact BindsTo.of_eq rfl); (case c5 => decide); (case kB => exact locs rfl); (case c2 => exact rfl); (case c3 => exact rfl); (case c4 => exact rfl))
  | (refine' code_defCG ?k1 ?k2 ?k3 ?k4 ?k5 ?kA ?kF ?kK ?k6 ?k7 ?k8 ?k9 ?kB ?kD ?_ ?c2 ?c3 ?c4; (case kA => exact rfl); (case kF => exact rfl); (case kK => first | assumption | exact rfl); (case k1 => k_asm); (case k2 => k_asm); (case k3 => k_asm); (case k4 => first | k_asm | exact News.nil); (case k5 => k_asm); (case k6 => k_is); (case k7 => k_is); (case k8 => ktr_room); (case k9 => exact BindsTo.of_eq rfl); (case kB => exact rfl); (case kD => decide +kernel); (case c2 => exact rfl); (case c3 => exact rfl); (case c4 => exact rfl)))
local macro_rules | `(tactic| k_room) => `(tactic| (first | ((try simp only [depth_under_make, depth_under_kw, depth_in1, depth_deeper, depth_caller]); decide) | (dsimp only [ktrTop, Around.deeper, Around.in1, Around.mark]; omega) | ((try simp only [depth_under_make, depth_under_kw, depth_in1, depth_deeper, depth_caller]); (try dsimp only [ktrTop, Around.deeper, Around.in1, Around.mark]); omega)))
local macro_rules | `(tactic| k_units) => `(tactic| (first | exact Nat.le_of_ble_eq_true rfl | (dsimp only [ktrTop, Around.deeper, Around.in1, Around.mark]; omega)))
local macro_rules | `(tactic| k_inst) => `(tactic| first | (refine' inst_up1 ?F ?I; (case F => k_asm); (case I => assumption)) | (refine' inst_up2 ?F2 ?F ?I; (case F2 => k_asm); (case F => k_asm); (case I => assumption)))
section
variable {w : World} {dp un : Nat} {gd : Option (List Code)} {fr : List Env} {base base0 : Heap} {hid : List Addr} {L1 sl : Addr} {env : Env} {C : Code} {nv : Int → Addr} {d : Addr} {kvs : List (Int × Value)} {sg : Int → Option Tm} {D : Nat} {R : Result → Shared → Prop}
theorem YNode.weak {hs hs' : Heap} {kd : Kd} {ts us : List Tm} {Lg : Addr} (k : ∀ b o, hs'.get? b = some o → ∃ o', hs.get? b = some o') : ∀ m s₀ v s' kap kap', (∀ r s, kap r s → kap' r s) → YNode w dp un gd fr base base0 hid L1 sl nv d hs kd ts us Lg m s₀ v s' kap → YNode w dp un gd fr base base0 hid L1 sl nv d hs' kd ts us Lg m s₀ v s' kap' := by
  rintro m s₀ v s' kap kap' hk ⟨O, hO, hE, hG, h⟩
  refine ⟨O, fun b hb => (hO b hb).elim .inl fun z => .inr ⟨new_back k z.1, z.2⟩, hE, hG, ?_⟩
  rcases h with ⟨h1, t, u, Lk, gk, j, e1, e2, g, z1, z2, nn, q⟩ | ⟨h1, h2, q⟩ | ⟨h1, h2, ⟨a, e1, e2, e3⟩, q⟩
  · exact .inl ⟨h1, t, u, Lk, gk, j, e1, e2, g, z1, z2, nn, fun r' s'' a b c => hk _ _ (q r' s'' a b c)⟩
  · exact .inr (.inl ⟨h1, h2, fun r' s'' a b => hk _ _ (q r' s'' a b)⟩)
  · exact .inr (.inr ⟨h1, h2.older k, ⟨a, e1, e2, new_back k e3⟩, fun r' s'' => hk _ _ (q r' s'')⟩)
/-- what a generator with a term does to the loop -/
def Drv (w : World) (dp un : Nat) (gd : Option (List Code)) (fr : List Env) (base base0 : Heap) (hid : List Addr) (L1 sl : Addr) (env : Env) (C : Code) (nv : Int → Addr) (d : Addr) (R : Result → Shared → Prop) (dep : Nat) (t u : Tm) : Prop :=
  ∀ (s : Shared) (xs : List Value) (v zo : Value) (Lg gno : Nat), xs.length + dep ≤ 1000 → LoopSt (A0x dp un gd fr) base fr hid L1 sl (xs ++ [v]) .none zo s.heap → GenFor w fr base base0 hid L1 sl nv d s t v Lg gno →
    (∀ r s', Ext [L1, sl, Lg] (frs fr) s s' → GensBut (· = gno) s s' → MdF w s.heap s'.heap nv u r → LoopSt (A0x dp un gd fr) base fr hid L1 sl xs r r s'.heap → LoopGo w dp un gd fr env C R s') → LoopGo w dp un gd fr env C R s
theorem GenFor.keep {s s3 : Shared} {t : Tm} {v : Value} {Lk gk : Addr} {xs : List Value} {za zo : Value} (x : GenFor w fr base base0 hid L1 sl nv d s t v Lk gk) (S : LoopSt (A0x dp un gd fr) base fr hid L1 sl xs za zo s.heap) (hE : Ext [L1, sl] (frs fr) s s3) (hg : ∀ c, s.gens[gk]? = some (.fresh c) → s3.gens[gk]? = some (.fresh c)) : GenFor w fr base base0 hid L1 sl nv d s3 t v Lk gk := by
  obtain ⟨G, dG, ga, c, tk, m, rfl, I, hgd, hc, hns, oG, odG, oga, oL, ndL, nL1, nLd, hb, nfr, hL0, hbody⟩ := x
  have H : GenH w s.heap G dG ga gk tk := ⟨I, hgd⟩
  have ap := H.apart S ndL oG odG oga
  have H3 : GenH w s3.heap G dG ga gk tk := H.keep fun b hb o e => hE.chg.keep b o (by simp [(ap b hb).1, (ap b hb).2.1]) (ap b hb).2.2 e
  obtain ⟨n, hsl⟩ := S.kinds.2
  have nsl : Lk ≠ sl := fun q => by
    obtain ⟨o, es, ep, e1, e2, _⟩ := hns
    rw [q, hsl] at e1; cases e1; cases e2
  refine ⟨G, dG, ga, c, tk, m, rfl, H3.inst, H3.gen, hg c hc, ?_, oG, odG, oga, oL, ndL, nL1, nLd, hb, nfr, hL0, ?_⟩
  · obtain ⟨o, es, ep, a, b⟩ := hns
    exact ⟨o, es, ep, hE.chg.keep _ _ (by simp [nL1, nsl]) nfr a, b⟩
  · cases t with
    | num k => exact hbody
    | var i => exact hbody
    | node kd ts =>
      obtain ⟨a, b, c', rr, ys, d', hmk, e, f, g, r1, r2, r3, r4⟩ := hbody
      exact ⟨a, b, c', rr, ys, d', hmk.keep fun o q => hE.chg.keep _ _ (by simp [r1, r2]) r4 q, e, f, g, r1, r2, r3, r4⟩
/-- a generator with a variable -/
theorem var_drive (cx : Cx w dp un gd fr base base0 hid L1 sl env C nv d kvs sg D) {n dep : Nat} {i : Int} {u : Tm} (hW : Wh sg n (.var i) u) (ih : ∀ (n' : Nat) (t' : Tm), n' < n → Wh sg n' t' u → (∀ k, t' ≠ .num k) → Drv w dp un gd fr base base0 hid L1 sl env C nv d R dep t' u) :
    Drv w dp un gd fr base base0 hid L1 sl env C nv d R (dep + 1) (.var i) u := by
  intro s xs v zo Lg gno hlen S hgf hk
  obtain ⟨G, dG, ga, c, tk, m, rfl, I, hgd, hc, hns, oG, odG, oga, oL, ndL, nL1, nLd, hb, nfr, hL0, hcode, q1, q2, hi⟩ := hgf
  have H : GenH w s.heap G dG ga gno tk := ⟨I, hgd⟩
  have ap := H.apart S ndL oG odG oga
  obtain ⟨nn, hsl⟩ := S.kinds.2
  have nsl : Lg ≠ sl := fun q => by
    obtain ⟨o, es, ep, e1, e2, _⟩ := hns
    rw [q, hsl] at e1; cases e1; cases e2
  have apL := H.other hns nLd
  have hXs := S.has
  have aL : ∃ o, s.heap.get? Lg = some o := let ⟨o, _, _, e, _⟩ := hns; ⟨o, e⟩
  refine turn2 cx (n := 1) (gs := .fresh c) (Rg := REnd) (Y := YVar w fr base base0 hid L1 sl nv d sg n u Lg) S (by omega) I hgd oG odG oga ndL hc (fun s' E1 G1 R1 S1 => ⟨rfl, ?_⟩) (fun s' v' s₁ gs' E1 G1 R1 S1 hy => ?_) (fun s' x s₁ _ _ _ hx => ?_)
  · refine var_seg cx S1 hcode ?_ q1 q2 hi oL nL1 nsl nfr hb hL0 hW
    obtain ⟨o, es, ep, a, b⟩ := hns
    exact ⟨o, es, ep, E1.chg.keep _ _ (by simp [nL1]) nfr a, b⟩
  · obtain ⟨_, hE, hG, hkap, hv⟩ := hy
    have S2 := S1.chg hE.chg (by intro b hb; rw [List.mem_singleton.mp hb]; exact ⟨nL1, nsl, oL⟩)
    have H1 : GenH w s₁.heap G dG ga gno tk := (H.keep (h' := s'.heap) fun b hb o e => E1.chg.keep b o (by simp [(ap b hb).1]) (ap b hb).2.2 e).keep fun b hb o e => hE.chg.keep b o (by simpa using apL b hb) (by simp [(ap b hb).1, (ap b hb).2.2]) e
    have R2 : s₁.gens[gno]? = some .running := hG _ _ R1 (fun z => z)
    have EE : Ext [L1, sl, Lg] (frs fr) s s₁ := (E1.mono (by simp)).trans (hE.inX.mono (by simp))
    have GG : GensBut (· = gno) s s₁ := G1.trans (hG.mono fun _ z => z.elim)
    -- the end: the generator is asked once more
    have fin : ∀ (r : Value) (s3 : Shared), Ext [L1, sl, Lg] (frs fr) s s3 → GensBut (· = gno) s s3 → s3.gens[gno]? = some gs' → GenH w s3.heap G dG ga gno tk → MdF w s.heap s3.heap nv u r → LoopSt (A0x dp un gd fr) base fr hid L1 sl (xs ++ [.ref G]) r r s3.heap → LoopGo w dp un gd fr env C R s3 := fun r s3 e3 g3 hgs H3 hm S3 => by
      refine finish_c cx S3 (by omega) H3.inst H3.gen oG odG oga ndL hgs (fun s5 _ _ _ _ => hkap r s5) (fun s₀ x s₁ hx => ⟨hx.2.1, hx.2.2⟩) (fun s₀ v s₁ kap hy => ⟨.send v, s₁, hy.2.2.2.1 v s₁⟩) fun s5 e5 g5 S5 => ?_
      exact hk r s5 (e3.trans (e5.mono (by simp))) (g3.trans g5) (hm.keep (X := [L1, sl]) (fs := frs fr) e5.chg (fun b hb => hXs b (by simp at hb; rcases hb with rfl | rfl <;> simp)) (fun b hb => hXs b (by simp [hb]))) S5
    refine ⟨S2, ?_⟩
    rcases hv with ⟨hm, hw, hnn⟩ | ⟨t', n', Lk, gk, hW', hlt, hgf, hz, hge⟩
    · refine .inr ⟨?_, fun s3 e3 g3 S3 => ?_⟩
      · cases u with
        | num k => obtain ⟨tt, rfl⟩ := hm; exact isg_int
        | var j =>
          have : v' = .ref (nv j) := hm
          subst this
          obtain ⟨dv, t1, t2, Ij⟩ := cx.V j hw.1 hw.2
          obtain ⟨a, b, n, dd⟩ := Ij
          apply isg_var
          intro h' k
          refine ⟨k _ _ ?_ (S2.base _ _ a), b, n, k _ _ ?_ (S2.base _ _ dd)⟩
          · have := base_none S2 a; simp [this.1, this.2.1]
          · have dd' : base.get? dv = some _ := dd
            have := base_none S2 dd'; simp [this.1, this.2.1]
        | node kd ts => exact absurd rfl (hnn kd ts)
      · have ap1 := H1.apart S2 ndL oG odG oga
        have H3 : GenH w s3.heap G dG ga gno tk := H1.keep fun b hb o e => e3.chg.keep b o (by simp [(ap1 b hb).1, (ap1 b hb).2.1]) (ap1 b hb).2.2 e
        refine fin v' s3 (EE.trans (e3.mono (by simp))) (GG.trans (gens_eq g3)) (by rw [g3]; exact gens_self R2) H3 (fun X hX => ?_) S3
        cases u with
        | num k => exact hm
        | var j => exact hm
        | node kd ts => exact absurd rfl (hnn kd ts)
    · have gno_lt : gno < s'.gens.size := by
        have := Array.getElem?_eq_some_iff.mp R1
        exact this.1
      have ngk : gk ≠ gno := fun q => by rw [q] at hge; exact absurd (Nat.lt_of_lt_of_le gno_lt hge) (Nat.lt_irrefl _)
      have hgf0 := hgf
      obtain ⟨G', dG', ga', c', tk', m', rfl, I', hgd', hc', hns', oG', odG', oga', oL', ndL', nL1', nLd', hb', nfr', hL0', hbody'⟩ := hgf
      have H' : GenH w s₁.heap G' dG' ga' gk tk' := ⟨I', hgd'⟩
      have ap' := H'.apart S2 ndL' oG' odG' oga'
      refine .inl ⟨isg_gen I' (by have := ap' G' (by simp); simp [this.1, this.2.1]) (by have := ap' dG' (by simp); simp [this.1, this.2.1]), fun s3 e3 g3 S3 => ?_⟩
      have ap1 := H1.apart S2 ndL oG odG oga
      have H3 : GenH w s3.heap G dG ga gno tk := H1.keep fun b hb o e => e3.chg.keep b o (by simp [(ap1 b hb).1, (ap1 b hb).2.1]) (ap1 b hb).2.2 e
      have tnn : ∀ k, t' ≠ .num k := fun k q => by subst q; exact hbody'
      refine ih n' t' hlt hW' tnn s3 (xs ++ [.ref G]) _ _ Lk gk (by simp; omega) S3 (hgf0.keep S2 e3 fun c hc => gens_eq g3 _ _ hc ngk) fun r s4 e4 g4 hm S4 => ?_
      have hg3 : s3.gens[gno]? = some gs' := by rw [g3]; exact gens_self R2
      have aG1 : Has s'.heap [G, dG, ga] := E1.has H.alive
      have H4 : GenH w s4.heap G dG ga gno tk := H3.keep fun b hb o e => e4.chg.keep b o (by
        have nLk : b ≠ Lk := fun q => by obtain ⟨o', e'⟩ := aG1 b hb; rw [q, hz] at e'; cases e'
        simp [(ap1 b hb).1, (ap1 b hb).2.1, nLk]) (ap1 b hb).2.2 e
      have E03 : Ext [L1, sl, Lg] (frs fr) s s3 := EE.trans (e3.mono (by simp))
      have zk : s.heap.get? Lk = none := new_back E1.alive hz
      refine fin r s4 ((((E03.mono (X' := [L1, sl, Lg, Lk]) (by simp)).trans (e4.mono (by simp))).cut (by
        intro b hb
        simp at hb
        rcases hb with rfl | rfl | rfl | rfl
        · simp
        · simp
        · simp
        · exact .inr zk))) ?_ (g4 _ _ hg3 ngk.symm) H4 (hm.older fun b o e => E03.alive b o e) S4
      refine (((GG.trans (gens_eq g3)).mono (P' := fun g => g = gno ∨ g = gk) (fun _ z => .inl z)).trans (g4.mono (fun _ z => .inr z))).cut fun g st e z => z.elim id fun q => ?_
      subst q
      by_cases qq : g = gno
      · exact qq
      · have := G1 _ _ e qq
        have := (Array.getElem?_eq_some_iff.mp this).1
        exact absurd (Nat.lt_of_lt_of_le this hge) (Nat.lt_irrefl _)
  · exact absurd hx.1 (by decide)
end

end Mine
end
section -- N23
open PySem PySem.W PySem.Calls PyProof.Rows
set_option maxRecDepth 100000
set_option maxHeartbeats 8000000
set_option linter.unusedVariables false
namespace Mine
local macro_rules | `(tactic| walk_at "idle0") => `(tactic| fail)
local macro_rules | `(tactic| k_all) => `(tactic| assumption)
local macro_rules | `(tactic| ktr_enter) => `(tactic| first
  | (refine' code_defG ?k1 ?k2 ?k3 ?k4 ?k5 ?kA ?kF ?kK ?k6 ?k7 ?k8 ?k9 ?kB ?_ ?c2 ?c3 ?c4 ?c5; (case kA => exact rfl); (case kF => exact rfl); (case kK => first | assumption | exact rfl); (case k1 => k_asm); (case k2 => k_asm); (case k3 => k_asm); (case k4 => first | k_asm | exact News.nil); (case k5 => k_asm); (case k6 => k_is); (case k7 => k_is); (case k8 => ktr_room); (case k9 => exact BindsTo.of_eq rfl); (case c5 => decide); (case kB => exact locs rfl); (case c2 => exact rfl); (case c3 => exact rfl); (case c4 => exact rfl))
  | (refine' code_defCG ?k1 ?k2 ?k3 ?k4 ?k5 ?kA ?kF ?kK ?k6 ?k7 ?k8 ?k9 ?kB ?kD ?_ ?c2 ?c3 ?c4; (case kA => exact rfl); (case kF => exact rfl); (case kK => first | assumption | exact rfl); (case k1 => k_asm); (case k2 => k_asm); (case k3 => k_asm); (case k4 => first | k_asm | exact News.nil); (case k5 => k_asm); (case k6 => k_is); (case k7 => k_is); (case k8 => ktr_room); (case k9 => exact BindsTo.of_eq rfl); (case kB => exact rfl); (case kD => decide +kernel); (case c2 => exact rfl); (case c3 => exact rfl); (case c4 => exact rfl)))
local macro_rules | `(tactic| k_room) => `(tactic| (first | ((try simp only [depth_under_make, depth_under_kw, depth_in1, depth_deeper, depth_caller]); decide) | (dsimp only [ktrTop, Around.deeper, Around.in1, Around.mark]; omega) | ((try simp only [depth_under_make, depth_under_kw, depth_in1, depth_deeper, depth_caller]); (try dsimp only [ktrTop, Around.deeper, Around.in1, Around.mark]); omega)))
local macro_rules | `(tactic| k_units) => `(tactic| (first | exact Nat.le_of_ble_eq_true rfl | (dsimp only [ktrTop, Around.deeper, Around.in1, Around.mark]; omega)))
local macro_rules | `(tactic| k_inst) => `(tactic| first | (refine' inst_up1 ?F ?I; (case F => k_asm); (case I => assumption)) | (refine' inst_up2 ?F2 ?F ?I; (case F2 => k_asm); (case F => k_asm); (case I => assumption)))
section
variable {w : World} {dp un : Nat} {gd : Option (List Code)} {fr : List Env} {base base0 : Heap} {hid : List Addr} {L1 sl : Addr} {env : Env} {C : Code} {nv : Int → Addr} {d : Addr} {kvs : List (Int × Value)} {sg : Int → Option Tm} {D : Nat} {R : Result → Shared → Prop}
/-- the rest of a generator with a list of parts -/
theorem node_loop (cx : Cx w dp un gd fr base base0 hid L1 sl env C nv d kvs sg D) {dep : Nat} {kd : Kd} {ts us : List Tm} {xs : List Value} {s0 : Shared} {G dG ga gno Lg : Nat} {tk : Tok} {mLg : Str → Option Value}
    (kids : ∀ (j : Nat) (t u : Tm), (kidsT kd 0 ts)[j]? = some t → (kidsT kd 0 us)[j]? = some u → (∀ k, t ≠ .num k) → Drv w dp un gd fr base base0 hid L1 sl env C nv d R dep t u)
    (hlen : xs.length + (dep + 1) ≤ 1000) (hH0 : GenH w s0.heap G dG ga gno tk) (hg0 : ∃ st, s0.gens[gno]? = some st) (hns : s0.heap.Ns Lg mLg) (hX0 : Has s0.heap (L1 :: sl :: frs fr)) (ap : ∀ b ∈ [G, dG, ga], b ≠ L1 ∧ b ≠ sl ∧ b ∉ frs fr)
    (oG : G ∈ hid ∨ L1 < G) (odG : dG ∈ hid ∨ L1 < dG) (oga : ga ∈ hid ∨ L1 < ga) (ndL : dG ≠ L1) (oL : Lg ∈ hid ∨ L1 < Lg) (nL1 : Lg ≠ L1) (nsl : Lg ≠ sl) (nLd : Lg ≠ dG)
    (hk : ∀ r s', Ext [L1, sl, Lg] (frs fr) s0 s' → GensBut (· = gno) s0 s' → MdF w s0.heap s'.heap nv (.node kd us) r → LoopSt (A0x dp un gd fr) base fr hid L1 sl xs r r s'.heap → LoopGo w dp un gd fr env C R s') :
    ∀ (n : Nat) (s : Shared) (za zo : Value) (gs : GenState), LoopSt (A0x dp un gd fr) base fr hid L1 sl (xs ++ [.ref G]) za zo s.heap → s.gens[gno]? = some gs → Ext [L1, sl, Lg] (frs fr) s0 s → GensBut (· = gno) s0 s → GenH w s.heap G dG ga gno tk →
      (∀ s', Ext [L1] (frs fr) s s' → GensBut (· = gno) s s' → s'.gens[gno]? = some .running → LoopSt (A0x dp un gd fr) base fr hid L1 sl (xs ++ [.ref G]) za zo s'.heap →
        gs.Goes (model PySem.Challenge.rw_ez0159_01.row.prog w) (Asx dp un gd fr env) REnd (YNode w dp un gd fr base base0 hid L1 sl nv d s0.heap kd ts us Lg) n (.send za) s') →
      (n = 0 → za = zo ∧ MdF w s0.heap s.heap nv (.node kd us) za) → LoopGo w dp un gd fr env C R s := by
  have apL := hH0.other hns nLd
  have hl2 : L1 :: sl :: frs fr = L1 :: sl :: frs fr := rfl
  intro n
  induction n with
  | zero =>
    intro s za zo gs S hgs E0 G0 H hgo h0
    obtain ⟨rfl, hm⟩ := h0 rfl
    refine finish_c cx S (by omega) H.inst H.gen oG odG oga ndL hgs hgo (fun s₀ x s₁ hx => ⟨hx.2.1, hx.2.2⟩) (fun s₀ v s₁ kap hy => ?_) fun s5 e5 g5 S5 => ?_
    · obtain ⟨O, _, _, _, h⟩ := hy
      rcases h with ⟨q, _⟩ | ⟨q, _⟩ | ⟨_, _, _, q⟩
      · exact absurd q (by decide)
      · exact absurd q (by decide)
      · exact ⟨.send v, s₁, q v s₁⟩
    · exact hk _ s5 (E0.trans (e5.mono (by simp))) (G0.trans g5) (hm.keep (X := [L1, sl]) (fs := frs fr) e5.chg (fun b hb => hX0 b (by simp at hb; rcases hb with rfl | rfl <;> simp)) (fun b hb => hX0 b (by simp [hb]))) S5
  | succ n ihn =>
    intro s za zo gs S hgs E0 G0 H hgo h0
    refine turn2 cx (n := n + 1) S (by omega) H.inst H.gen oG odG oga ndL hgs hgo (fun s' v' s₁ gs' E1 G1 R1 S1 hy => ?_) (fun s' x s₁ _ _ _ hx => ?_)
    · obtain ⟨O, hO, hE, hG, hv⟩ := hy
      have S2 := S1.chg hE.chg (by
        intro b hb
        rcases hO b hb with rfl | ⟨z, l⟩
        · exact ⟨nL1, nsl, oL⟩
        · refine ⟨Nat.ne_of_gt l, fun q => ?_, .inr l⟩
          obtain ⟨o, e⟩ := hX0 sl (by simp)
          rw [← q, z] at e; cases e)
      have nO : ∀ b ∈ [G, dG, ga], b ∉ O := fun b hb q => by
        rcases hO b q with rfl | ⟨z, l⟩
        · exact apL _ hb rfl
        · obtain ⟨o, e⟩ := hH0.alive b hb
          rw [z] at e; cases e
      have H1 : GenH w s₁.heap G dG ga gno tk := (H.keep (h' := s'.heap) fun b hb o e => E1.chg.keep b o (by simp [(ap b hb).1]) (ap b hb).2.2 e).keep fun b hb o e => hE.chg.keep b o (nO b hb) (by simp [(ap b hb).1, (ap b hb).2.2]) e
      have R2 : s₁.gens[gno]? = some .running := hG _ _ R1 (fun z => z)
      have EX : Ext ([L1, sl, Lg] ++ O) (frs fr) s0 s₁ := ((E0.mono (by simp <;> grind)).trans (E1.mono (by simp))).trans (hE.inX.mono (by simp <;> grind))
      have EE : Ext [L1, sl, Lg] (frs fr) s0 s₁ := EX.cut fun b hb => by
        rcases List.mem_append.mp hb with q | q
        · exact .inl q
        · rcases hO b q with rfl | ⟨z, _⟩
          · simp
          · exact .inr z
      have GG : GensBut (· = gno) s0 s₁ := (G0.trans G1).trans (hG.mono fun _ z => z.elim)
      refine ⟨S2, ?_⟩
      -- a value that is no generator
      have other : (∀ s3, Ext [L1, sl] (frs fr) s₁ s3 → s3.gens = (s₁.setGen gno gs').gens → LoopSt (A0x dp un gd fr) base fr hid L1 sl (xs ++ [.ref G]) v' v' s3.heap →
          (∀ s5, Ext [L1, sl] (frs fr) s₁ s5 → (∃ xs za zo, LoopSt (A0x dp un gd fr) base fr hid L1 sl xs za zo s5.heap) → gs'.Goes (model PySem.Challenge.rw_ez0159_01.row.prog w) (Asx dp un gd fr env) REnd (YNode w dp un gd fr base base0 hid L1 sl nv d s0.heap kd ts us Lg) n (.send v') s5) →
          (n = 0 → MdF w s0.heap s₁.heap nv (.node kd us) v') → LoopGo w dp un gd fr env C R s3) := fun s3 e3 g3 S3 hgo' hm => by
        have ap1 := ap
        have H3 : GenH w s3.heap G dG ga gno tk := H1.keep fun b hb o e => e3.chg.keep b o (by simp [(ap1 b hb).1, (ap1 b hb).2.1]) (ap1 b hb).2.2 e
        refine ihn s3 v' v' gs' S3 (by rw [g3]; exact gens_self R2) (EE.trans (e3.mono (by simp))) (GG.trans (gens_eq g3)) H3 (fun s5 e5 _ _ S5 => hgo' s5 (e3.trans (e5.mono (by simp))) ⟨_, _, _, S5⟩) fun q => ⟨rfl, ?_⟩
        exact (hm q).keep (X := [L1, sl]) (fs := frs fr) e3.chg (fun b hb => hX0 b (by simp at hb; rcases hb with rfl | rfl <;> simp)) (fun b hb => hX0 b (by simp [hb]))
      rcases hv with ⟨h2, t', u', Lk, gk, j, e1, e2, hgf, hz, hge, tnn, hkap⟩ | ⟨h1, rfl, hkap⟩ | ⟨h1, hm, ⟨a, rfl, hcl, hza⟩, hkap⟩
      · have gno_lt : gno < s'.gens.size := (Array.getElem?_eq_some_iff.mp R1).1
        have ngk : gk ≠ gno := fun q => by rw [q] at hge; exact absurd (Nat.lt_of_lt_of_le gno_lt hge) (Nat.lt_irrefl _)
        have hgf0 := hgf
        obtain ⟨G', dG', ga', c', tk', m', rfl, I', hgd', hc', hns', oG', odG', oga', oL', ndL', nL1', nLd', hb', nfr', hL0', hbody'⟩ := hgf
        have H' : GenH w s₁.heap G' dG' ga' gk tk' := ⟨I', hgd'⟩
        have ap' := H'.apart S2 ndL' oG' odG' oga'
        refine .inl ⟨isg_gen I' (by have := ap' G' (by simp); simp [this.1, this.2.1]) (by have := ap' dG' (by simp); simp [this.1, this.2.1]), fun s3 e3 g3 S3 => ?_⟩
        have H3 : GenH w s3.heap G dG ga gno tk := H1.keep fun b hb o e => e3.chg.keep b o (by simp [(ap b hb).1, (ap b hb).2.1]) (ap b hb).2.2 e
        refine kids j t' u' e1 e2 tnn s3 (xs ++ [.ref G]) _ _ Lk gk (by simp; omega) S3 (hgf0.keep S2 e3 fun c hc => gens_eq g3 _ _ hc ngk) fun r s4 e4 g4 hm S4 => ?_
        have hg3 : s3.gens[gno]? = some gs' := by rw [g3]; exact gens_self R2
        have aG1 : Has s'.heap [G, dG, ga] := E1.has H.alive
        have H4 : GenH w s4.heap G dG ga gno tk := H3.keep fun b hb o e => e4.chg.keep b o (by
          have nLk : b ≠ Lk := fun q => by obtain ⟨o', e'⟩ := aG1 b hb; rw [q, hz] at e'; cases e'
          simp [(ap b hb).1, (ap b hb).2.1, nLk]) (ap b hb).2.2 e
        have E03 : Ext [L1, sl, Lg] (frs fr) s0 s3 := EE.trans (e3.mono (by simp))
        have zk : s0.heap.get? Lk = none := new_back (E0.trans (E1.mono (by simp))).alive hz
        have E04 : Ext [L1, sl, Lg] (frs fr) s0 s4 := (((E03.mono (X' := [L1, sl, Lg, Lk]) (by simp)).trans (e4.mono (by simp))).cut (by
          intro b hb
          simp at hb
          rcases hb with rfl | rfl | rfl | rfl
          · simp
          · simp
          · simp
          · exact .inr zk))
        have G04 : GensBut (· = gno) s0 s4 := (((GG.trans (gens_eq g3)).mono (P' := fun g => g = gno ∨ g = gk) (fun _ z => .inl z)).trans (g4.mono (fun _ z => .inr z))).cut fun g st e z => z.elim id fun q => by
          subst q
          by_cases qq : g = gno
          · exact qq
          · have := (G0.trans G1) _ _ e qq
            have := (Array.getElem?_eq_some_iff.mp this).1
            exact absurd (Nat.lt_of_lt_of_le this hge) (Nat.lt_irrefl _)
        have hX3 : Has s3.heap (L1 :: sl :: frs fr) := E03.has hX0
        refine ihn s4 r r gs' S4 (g4 _ _ hg3 ngk.symm) E04 G04 H4 (fun s5 e5 _ _ S5 => hkap r s5 (((e3.mono (by simp)).trans e4).trans (e5.mono (by simp))) ⟨_, _, _, S5⟩ ?_) fun q => by omega
        exact ((hm.keep (X := [L1]) (fs := frs fr) e5.chg (fun b hb => hX3 b (by simp at hb; simp [hb])) (fun b hb => hX3 b (by simp [hb])))).older e3.alive
      · exact .inr ⟨isg_sent, fun s3 e3 g3 S3 => other s3 e3 g3 S3 (fun s5 e5 S5 => hkap _ s5 e5 S5) fun q => by omega⟩
      · refine .inr ⟨isg_cls hcl ?_ (by cases kd <;> simp [Kd.ty]), fun s3 e3 g3 S3 => other s3 e3 g3 S3 (fun s5 e5 S5 => hkap _ s5) fun q => hm⟩
        intro q
        obtain ⟨o, e⟩ := hX0 a (by simp at q; rcases q with rfl | rfl <;> simp)
        rw [hza] at e; cases e
    · exact absurd hx.1 (by omega)
theorem node_drive (cx : Cx w dp un gd fr base base0 hid L1 sl env C nv d kvs sg D) {dep : Nat} {kd : Kd} {ts us : List Tm} (hlen : ts.length = us.length) (hnum : ∀ (j : Nat) (n : Int) (u : Tm), ts[j]? = some (.num n) → us[j]? = some u → u = .num n)
    (kids : ∀ (j : Nat) (t u : Tm), (kidsT kd 0 ts)[j]? = some t → (kidsT kd 0 us)[j]? = some u → (∀ k, t ≠ .num k) → Drv w dp un gd fr base base0 hid L1 sl env C nv d R dep t u) :
    Drv w dp un gd fr base base0 hid L1 sl env C nv d R (dep + 1) (.node kd ts) (.node kd us) := by
  intro s xs v zo Lg gno hl S hgf hk
  obtain ⟨G, dG, ga, c, tk, m, rfl, I, hgd, hc, hns, oG, odG, oga, oL, ndL, nL1, nLd, hb, nfr, hL0, hcode, q1, q2, rr, ys, q3, hmk, hys, hw, hdm, r1, r2, r3, r4⟩ := hgf
  have H : GenH w s.heap G dG ga gno tk := ⟨I, hgd⟩
  obtain ⟨nn, hsl⟩ := S.kinds.2
  have nsl : Lg ≠ sl := fun q => by
    obtain ⟨o, es, ep, e1, e2, _⟩ := hns
    rw [q, hsl] at e1; cases e1; cases e2
  refine node_loop cx kids hl H ⟨_, hc⟩ hns S.has (H.apart S ndL oG odG oga) oG odG oga ndL oL nL1 nsl nLd hk (cntT (kidsT kd 0 ts) + 2) s _ _ (.fresh c) S hc Ext.refl GensBut.refl H (fun s' E1 G1 R1 S1 => ⟨rfl, ?_⟩) (fun q => by omega)
  refine seg_monoY (YNode.weak E1.alive) _ (node_seg cx S1 hcode ?_ q1 q2 q3 (hmk.keep fun o e => E1.chg.keep _ _ (by simpa using r1) r4 e) hys hw hlen hnum hdm r1 r2 r3 r4 oL nL1 nsl nfr hb hL0)
  obtain ⟨o, es, ep, a, b⟩ := hns
  exact ⟨o, es, ep, E1.chg.keep _ _ (by simp [nL1]) nfr a, b⟩
theorem Wh.of_num {n : Nat} {k : Int} {u : Tm} (h : Wh sg n (.num k) u) : u = .num k := by cases h; rfl
/-- a generator with any term -/
theorem drive (cx : Cx w dp un gd fr base base0 hid L1 sl env C nv d kvs sg D) : ∀ (n : Nat) (t u : Tm), Wh sg n t u → (∀ k, t ≠ .num k) → Drv w dp un gd fr base base0 hid L1 sl env C nv d R (2 * n + 1) t u := by
  have up : ∀ {a b : Nat} {t u : Tm}, a ≤ b → Drv w dp un gd fr base base0 hid L1 sl env C nv d R a t u → Drv w dp un gd fr base base0 hid L1 sl env C nv d R b t u := fun hab h s xs v zo Lg gno hl => h s xs v zo Lg gno (by omega)
  intro n
  induction n using Nat.strongRecOn with
  | ind n ih =>
    intro t u hW hnn
    cases t with
    | num k => exact absurd rfl (hnn k)
    | var i =>
      refine var_drive cx hW fun n' t' hlt hW' hnn' => ?_
      exact up (by omega) (ih n' hlt t' u hW' hnn')
    | node kd ts =>
      cases hW with
      | @node n' _ _ us hlen hk =>
        have hnum : ∀ (j : Nat) (n : Int) (u : Tm), ts[j]? = some (.num n) → us[j]? = some u → u = .num n := fun j k u a b => (hk j _ u a b).of_num
        by_cases hkd : kd = .dct
        · subst hkd
          refine up (a := 2 * n' + 2 + 1) (by omega) (node_drive cx hlen hnum fun j t u e1 e2 tnn => ?_)
          rw [kidsT_get] at e1 e2
          obtain ⟨t1, h1, rfl⟩ := Option.map_eq_some_iff.mp e1
          obtain ⟨u1, h2, rfl⟩ := Option.map_eq_some_iff.mp e2
          have hW1 := hk j t1 u1 h1 h2
          refine node_drive cx (kd := .row) (dep := 2 * n' + 1) rfl (fun j' k u' a b => ?_) fun j' t' u' a b nn => ?_
          · match j' with
            | 0 => simp at a b; subst b; rw [a]
            | 1 => simp at a b; subst a; subst b; exact hW1.of_num
            | j' + 2 => simp at a
          · rw [kidsT_same (fun q => by cases q)] at a b
            match j' with
            | 0 => simp at a; subst a; exact absurd rfl (nn _)
            | 1 => simp at a b; subst a; subst b; exact ih n' (by omega) _ _ hW1 nn
            | j' + 2 => simp at a
        · refine up (a := 2 * n' + 1 + 1) (by omega) (node_drive cx hlen hnum fun j t u e1 e2 tnn => ?_)
          rw [kidsT_same hkd] at e1 e2
          exact ih n' (by omega) t u (hk j t u e1 e2) tnn
end

end Mine
end
section -- N24
open PySem PySem.W PySem.Calls PyProof.Rows
set_option maxRecDepth 100000
set_option maxHeartbeats 8000000
set_option linter.unusedVariables false
namespace Mine
local macro_rules | `(tactic| k_all) => `(tactic| assumption)
local macro_rules | `(tactic| ktr_enter) => `(tactic| first
  | (refine' code_defG ?k1 ?k2 ?k3 ?k4 ?k5 ?kA ?kF ?kK ?k6 ?k7 ?k8 ?k9 ?kB ?_ ?c2 ?c3 ?c4 ?c5; (case kA => exact rfl); (case kF => exact rfl); (case kK => first | assumption | exact rfl); (case k1 => k_asm); (case k2 => k_asm); (case k3 => k_asm); (case k4 => first | k_asm | exact News.nil); (case k5 => k_asm); (case k6 => k_is); (case k7 => k_is); (case k8 => ktr_room); (case k9 => exact BindsTo.of_eq rfl); (case c5 => decide); (case kB => exact locs rfl); (case c2 => exact rfl); (case c3 => exact rfl); (case c4 => exact rfl))
  | (refine' code_defCG ?k1 ?k2 ?k3 ?k4 ?k5 ?kA ?kF ?kK ?k6 ?k7 ?k8 ?k9 ?kB ?kD ?_ ?c2 ?c3 ?c4; (case kA => exact rfl); (case kF => exact rfl); (case kK => first | assumption | exact rfl); (case k1 => k_asm); (case k2 => k_asm); (case k3 => k_asm); (case k4 => first | k_asm | exact News.nil); (case k5 => k_asm); (case k6 => k_is); (case k7 => k_is); (case k8 => ktr_room); (case k9 => exact BindsTo.of_eq rfl); (case kB => exact rfl); (case kD => decide +kernel); (case c2 => exact rfl); (case c3 => exact rfl); (case c4 => exact rfl)))
local macro_rules | `(tactic| k_room) => `(tactic| (first | ((try simp only [depth_under_make, depth_under_kw, depth_in1, depth_deeper, depth_caller]); decide) | (dsimp only [ktrTop, Around.deeper, Around.in1, Around.mark]; omega) | ((try simp only [depth_under_make, depth_under_kw, depth_in1, depth_deeper, depth_caller]); (try dsimp only [ktrTop, Around.deeper, Around.in1, Around.mark]); omega)))
local macro_rules | `(tactic| k_units) => `(tactic| (first | exact Nat.le_of_ble_eq_true rfl | (dsimp only [ktrTop, Around.deeper, Around.in1, Around.mark]; omega)))
local macro_rules | `(tactic| k_inst) => `(tactic| first | (refine' inst_up1 ?F ?I; (case F => k_asm); (case I => assumption)) | (refine' inst_up2 ?F2 ?F ?I; (case F2 => k_asm); (case F => k_asm); (case I => assumption)))
local macro_rules | `(tactic| walk_at "eval Name") => `(tactic| (k_here; k_dflt (refine' ld ?k1 ?k2 ?_; (case k1 => k_asm); (case k2 => assumption))))
local macro_rules | `(tactic| walk_at "exec While") => `(tactic| (k_here; refine of_here ?_))
local macro_rules | `(tactic| walk_at "exec While Name") => `(tactic| (k_here; refine of_here ?_))
local macro_rules | `(tactic| walk_at "last exec While") => `(tactic| (k_here; refine of_here ?_))
local macro_rules | `(tactic| walk_at "call builtin:isinstance") => `(tactic| (k_here; (with_reducible show wpAny _ _ (call _ [_, Value.ref 38]) _ _ _); refine of_here ?_))
/-- `stream_eval` of a value that is no generator -/
theorem stream_val (w : World) {p : Program} {loose : List Str} {mean : ExcName → Option Value} {mg mb : Str → Option Value}
    {dp un : Nat} {gd : Option (List Code)} {fr : List Env} {base : Heap} {s : Shared} {v : Value} {Q E : Value → Shared → Prop}
    (B : Below ⟨none, dp, some fr, gd, un⟩ base fr s.heap) (X : (Mine.hd.heap_39 w.params).In base) (T : Top p loose mean mg mb base) (hv : IsGIs w [] s.heap v false)
    (hd : dp + 10 < recursionLimit) (hu : un + 100 < cLine) (hq : ∀ h' tks, (∀ b o, s.heap.get? b = some o → h'.get? b = some o) → Q v { s with heap := h', toks := tks }) :
    wpAny (model PySem.Challenge.rw_ez0159_01.row.prog w) ⟨none, dp, some fr, gd, un⟩ (call (.ref 206) [v]) Q E s := by
  have XS := X.keeps B.stays
  have TS := T.keeps B.stays
  refine wpAny_call ?_
  refine' code_defT B ?X TS ?ho ?hcd ?hroom ?hb ?hl ?_ ?c1 ?c2 ?c3 ?c4
  case X => exact XS
  case ho => k_is
  case hcd => k_is
  case hroom => dsimp only; omega
  case hb => exact binds_K (by k_in) rfl (by k_is) rfl rfl rfl
  case hl => exact locs rfl
  case c1 => exact rfl
  case c2 => exact rfl
  case c3 => exact rfl
  case c4 => decide
  intro L1 h1 hL1 F1 B1
  (try dsimp only)
  have N1 : News s.heap L1 h1 [] := News.nil
  (try k_fold)
  k_steps
  refine (?_ : wpAny _ _ (call _ _) _ _ _)
  refine hv (KeepX.of F1.keep) (XS.keeps F1.keep) fun tk => ?_
  k_steps
  rename Fr s.heap L1 _ _ => F9
  exact hq _ _ F9.keep
theorem stream_c (w : World) {p : Program} {loose : List Str} {mean : ExcName → Option Value} {mg mb : Str → Option Value}
    {dp un : Nat} {gd : Option (List Code)} {fr : List Env} {base base0 : Heap} {s : Shared} {nv : Int → Addr} {d : Addr} {kvs : List (Int × Value)} {sg : Int → Option Tm} {D n : Nat} {t u : Tm} {Q E : Value → Shared → Prop}
    {G dG ga gno Lg : Nat} {tk : Tok} {c : Code} {mLg : Str → Option Value}
    (B : Below ⟨none, dp, some fr, gd, un⟩ base fr s.heap) (X0 : (Mine.hd.heap_39 w.params).In base0) (T0 : Top p loose mean mg mb base0) (b0 : base0.StaysIn base)
    (V : VarAt w base nv) (GV : GivAt base nv d kvs) (K : KvAt w base [sysModules] nv kvs sg D) (lo : (d == sysModules) = false)
    (hd : dp + 40 < recursionLimit) (hu : un + D + 400 < cLine) (hW : Wh sg n t u) (hn : 2 * n + 1 ≤ 1000) (hnn : ∀ k, t ≠ .num k)
    (H : GenH w s.heap G dG ga gno tk) (hc : s.gens[gno]? = some (.fresh c)) (hns : s.heap.Ns Lg mLg) (nLd : Lg ≠ dG) (hb : ∀ x ∈ [Lg, G, dG, ga], base.get? x = none ∧ x ∉ frs fr) (hL0 : base0.objs.size ≤ Lg)
    (hbody : ∀ (L1 sl : Addr) (h'' : Heap), (∀ b o, s.heap.get? b = some o → h''.get? b = some o) → s.heap.get? L1 = none → s.heap.get? sl = none → GenBody w fr base L1 sl nv d h'' Lg c mLg t)
    (hq : ∀ r s', Ext [Lg] (frs fr) s s' → GensBut (· = gno) s s' → MdF w s.heap s'.heap nv u r → Below ⟨none, dp, some fr, gd, un⟩ base fr s'.heap → Q r s') :
    wpAny (model PySem.Challenge.rw_ez0159_01.row.prog w) ⟨none, dp, some fr, gd, un⟩ (call (.ref 206) [.ref G]) Q E s := by
  have X := X0.keeps b0
  have T := T0.keeps b0
  have XS := X.keeps B.stays
  have TS := T.keeps B.stays
  refine wpAny_call ?_
  refine' code_defT B ?X TS ?ho ?hcd ?hroom ?hb ?hl ?_ ?c1 ?c2 ?c3 ?c4
  case X => exact XS
  case ho => k_is
  case hcd => k_is
  case hroom => dsimp only; omega
  case hb => exact binds_K (by k_in) rfl (by k_is) rfl rfl rfl
  case hl => exact locs rfl
  case c1 => exact rfl
  case c2 => exact rfl
  case c3 => exact rfl
  case c4 => decide
  intro L1 h1 hL1 F1 B1
  (try dsimp only)
  have N1 : News s.heap L1 h1 [] := News.nil
  (try k_fold)
  k_steps
  refine (?_ : wpAny _ _ (call _ _) _ _ _)
  have hi : IsGIs w [] s.heap (.ref G) true := by
    apply isg_gen H.inst <;> simp
  refine hi (KeepX.of F1.keep) (XS.keeps F1.keep) fun tk1 => ?_
  k_steps
  rename Fr s.heap L1 _ _ => F3
  rename News s.heap L1 _ _ => N3
  refine wpAny_While ?_
  have hsl := N3 _ (List.Mem.tail _ (List.Mem.head _))
  have zL1 : s.heap.get? L1 = none := new_none (by rw [hL1]; exact Nat.le_refl _)
  have aS : ∀ x ∈ [Lg, G, dG, ga], ∃ o, s.heap.get? x = some o := fun x hx => by
    rcases List.mem_cons.mp hx with rfl | hx
    · obtain ⟨o, _, _, e, _⟩ := hns; exact ⟨o, e⟩
    · exact H.alive x hx
  have nN : ∀ {y : Addr}, s.heap.get? y = none → ∀ x ∈ [Lg, G, dG, ga], x ≠ y := fun z x hx q => by
    obtain ⟨o, e⟩ := aS x hx
    rw [q, z] at e; cases e
  have S0 : LoopSt (A0x dp un gd fr) base fr [Lg, G, dG, ga] L1 _ ([] ++ [.ref G]) .none .none _ := ⟨⟨hideAll s.heap [Lg, G, dG, ga], _, _, ⟨F3.ns, fun b o e => F3.keep b o (of_hideAll _ e), by rw [hideAll_size]; exact F3.above⟩,
    ⟨B.stack, fun b o e => hideAll_get _ (B.stays b o e) (fun q => by rw [(hb b q).1] at e; cases e), funFrames_hideAll B.frames fun env he a ha hf => (hb a ha).2 (List.mem_filterMap.mpr ⟨env, he, hf⟩)⟩, rfl, rfl, rfl, rfl, hsl.1, (by
      cases q : (hideAll s.heap [Lg, G, dG, ga]).get? _ with
      | none => rfl
      | some o => have := of_hideAll _ q; rw [hsl.2.2] at this; cases this), hsl.2.1, fun x hx => hideAll_none _ hx⟩⟩
  have H3 := H.keep (h' := _) fun b _ o e => F3.keep b o e
  refine' drive (n := n) (t := t) (u := u) ?cx hW hnn _ [] (.ref G) .none Lg gno (by simp; omega) S0 ⟨G, dG, ga, c, _, mLg, rfl, H3.inst, H3.gen, hc, ?hns, .inl (by simp), .inl (by simp), .inl (by simp), .inl (by simp), nN zL1 _ (by simp), nN zL1 _ (by simp), nLd, (hb _ (by simp)).1, (hb _ (by simp)).2, hL0, hbody _ _ _ F3.keep zL1 hsl.2.2⟩ ?_
  case cx => exact ⟨X0, ⟨p, loose, mean, mg, mb, T0⟩, b0, ⟨_, _, _, _, _, _, _, _, by k_is, rfl, rfl, rfl, rfl⟩, V, GV, K, lo, hd, hu⟩
  case hns => obtain ⟨o, es, ep, a, b⟩ := hns; exact ⟨o, es, ep, F3.keep _ _ a, b⟩
  intro r s' hE hG hm S'
  have E0 : Ext [Lg] (frs fr) s s' := ((ext_up F3.keep).trans hE).cut (by
    intro b hb
    simp at hb
    rcases hb with rfl | rfl | rfl
    · exact .inr zL1
    · exact .inr hsl.2.2
    · exact .inl (by simp))
  have G0 : GensBut (· = gno) s s' := fun g st e n => hG g st e n
  have M0 : MdF w s.heap s'.heap nv u r := hm.older fun b o e => ⟨o, F3.keep _ _ e⟩
  clear F3 N3 hE hG hm S0
  obtain ⟨g, m, k, F, B', q1, q2, q3, q4, hst, nsl, nL, hh⟩ := S'.ex
  have BF : Below ⟨none, dp, some fr, gd, un⟩ base fr s'.heap := ⟨B'.stack, fun b o e => F.keep _ _ (B'.stays b o e), B'.frames.of_keeps fun b o e _ => ⟨o, F.keep _ _ e, rfl⟩⟩
  have XG := X.keeps B'.stays
  have TG := T.keeps B'.stays
  have N : News g L1 s'.heap [] := News.nil
  refine (?_ : codeAny _ (Around.deeper _ (envOf _ _ _ _ _)) (.whileLoop _ _ _ (envOf _ _ _ _ _)) _ _)
  refine while_turn ?_
  k_steps
  refine wpAny_truthy_list ⟨_, hst, rfl, k, rfl⟩ (by simp) ?_
  rw [if_neg (by simp)]
  k_steps
  exact hq _ _ ⟨E0.chg, E0.alive, E0.drawn, E0.os, E0.bare⟩ G0 M0 BF

end Mine
end
section -- M33
open PySem PySem.W PySem.Calls PyProof.Rows
open Sem (wp)
set_option maxRecDepth 100000
namespace Mine
section
variable {prog : Program} {w : World} {A : Around} {E : Value → Shared → Prop} {s : Shared}
/-- the length of any dict -/
theorem len_raw {d : Addr} {o : Obj} {es : Array DictEntry} {ep : Nat} {Q : Value → Shared → Prop} (hd : (d == sysModules) = false) (ho : s.heap.get? d = some o) (hc : o.cls = .type "dict") (hdat : o.data = .dict es ep) (hfit : (es.size : Int) < 2 ^ 63)
    (h : Q (.int es.size (s.toks + 1)) { s with toks := s.toks + 1 + 1 }) : wpAny (model prog w) A (call (.builtin "len") [.ref d]) Q E s := by
  have hT : s.TypeIs (.ref d) "dict" := ⟨o, ho, hc⟩
  refine Calls.call_function_entry kind_len plain_len entry_len (args_len1 _) ?_
  unfold Builtin.«len»
  refine wpAny_bind (m := oneArg "len" _) (wpAny_pure ?_)
  have hm : MeetsIn prog w (Builtin.«dict.__len__» ⟨[.ref d], []⟩) (fun _ R s => ∃ o es ep, s.heap.get? d = some o ∧ o.data = .dict es ep ∧ R (.ok (.ret (.int (es.size : Nat) s.toks))) { s with toks := s.toks + 1 }) :=
    .of_wp fun A R s ⟨o, es, ep, ho, hdat, h⟩ => by
      show wpAny _ _ (dictSize d >>= _) _ _ s
      unfold dictSize
      refine wpAny_bind (wpAny_bind (wpAny_dictEntries ho hdat (wpAny_pure ?_)))
      show wpAny _ _ (Builtin.Dict.pendingCount d >>= _) _ _ s
      refine wpAny_bind (wpAny_pendingCount_other hd ?_)
      refine wpAny_ret_mkInt ?_
      rw [Nat.add_zero]; exact h
  refine wpAny_bind (m := callSpecial? (.ref d) (Str.ofString "__len__")) (wpAny_callSpecial?_slot (name := Str.ofString "__len__") hT F.slot_dict_len
    (call_meetsIn F.slot_dict_len hT F.entry_dict_len (F.args_dict_len_1 _) hm ⟨o, es, ep, ho, hdat, ?_⟩))
  show wpAny _ _ _ _ _ { s with toks := s.toks + 1 }
  refine wpAny_bind (wpAny_holding (wpAny_pure ?_))
  refine wpAny_bind (wpAny_letGo ?_)
  show wpAny _ _ (if ((es.size : Nat) : Int) < 0 then _ else _) _ _ _
  rw [if_neg (by omega)]
  show wpAny _ _ (if ((es.size : Nat) : Int) ≥ 2 ^ 63 then _ else _) _ _ _
  rw [if_neg (by omega)]
  exact wpAny_bind (wpAny_mkInt (wpAny_pure ⟨_, rfl, h⟩))
end
end Mine
end
section -- N25
open PySem PySem.W PySem.Calls PyProof.Rows
set_option maxRecDepth 100000
set_option maxHeartbeats 8000000
set_option linter.unusedVariables false
namespace Mine
local macro_rules | `(tactic| k_all) => `(tactic| assumption)
local macro_rules | `(tactic| ktr_enter) => `(tactic| first
  | (refine' code_defG ?k1 ?k2 ?k3 ?k4 ?k5 ?kA ?kF ?kK ?k6 ?k7 ?k8 ?k9 ?kB ?_ ?c2 ?c3 ?c4 ?c5; (case kA => exact rfl); (case kF => exact rfl); (case kK => first | assumption | exact rfl); (case k1 => k_asm); (case k2 => k_asm); (case k3 => k_asm); (case k4 => first | k_asm | exact News.nil); (case k5 => k_asm); (case k6 => k_is); (case k7 => k_is); (case k8 => ktr_room); (case k9 => exact BindsTo.of_eq rfl); (case c5 => decide); (case kB => exact locs rfl); (case c2 => exact rfl); (case c3 => exact rfl); (case c4 => exact rfl))
  | (refine' code_defCG ?k1 ?k2 ?k3 ?k4 ?k5 ?kA ?kF ?kK ?k6 ?k7 ?k8 ?k9 ?kB ?kD ?_ ?c2 ?c3 ?c4; (case kA => exact rfl); (case kF => exact rfl); (case kK => first | assumption | exact rfl); (case k1 => k_asm); (case k2 => k_asm); (case k3 => k_asm); (case k4 => first | k_asm | exact News.nil); (case k5 => k_asm); (case k6 => k_is); (case k7 => k_is); (case k8 => ktr_room); (case k9 => exact BindsTo.of_eq rfl); (case kB => exact rfl); (case kD => decide +kernel); (case c2 => exact rfl); (case c3 => exact rfl); (case c4 => exact rfl)))
local macro_rules | `(tactic| k_room) => `(tactic| (first | ((try simp only [depth_under_make, depth_under_kw, depth_in1, depth_deeper, depth_caller]); decide) | (dsimp only [ktrTop, Around.deeper, Around.in1, Around.mark]; omega) | ((try simp only [depth_under_make, depth_under_kw, depth_in1, depth_deeper, depth_caller]); (try dsimp only [ktrTop, Around.deeper, Around.in1, Around.mark]); omega)))
local macro_rules | `(tactic| k_units) => `(tactic| (first | exact Nat.le_of_ble_eq_true rfl | (dsimp only [ktrTop, Around.deeper, Around.in1, Around.mark]; omega)))
local macro_rules | `(tactic| k_inst) => `(tactic| first | (refine' inst_up1 ?F ?I; (case F => k_asm); (case I => assumption)) | (refine' inst_up2 ?F2 ?F ?I; (case F2 => k_asm); (case F => k_asm); (case I => assumption)))
local macro_rules | `(tactic| walk_at "call ref") => `(tactic| (k_here; (with_reducible show wpAny _ _ (call (Value.ref 213) _) _ _ _); refine of_here ?_))
local macro_rules | `(tactic| walk_at "call ref") => `(tactic| (k_here; (with_reducible show wpAny _ _ (call (Value.ref 206) _) _ _ _); refine of_here ?_))
local macro_rules | `(tactic| walk_at "call builtin:len") => `(tactic| (k_here; refine of_here ?_))
theorem wh_same {sg : Int → Option Tm} (hs : ∀ i, sg i = none) {n : Nat} {t u : Tm} (h : Wh sg n t u) : u = t := by
  induction h with
  | num => rfl
  | free _ => rfl
  | bound e _ _ => rw [hs] at e; cases e
  | @node n kd ts us hl _ ih =>
    congr 1
    refine List.ext_getElem? fun j => ?_
    cases e1 : us[j]? with
    | none =>
      have := List.getElem?_eq_none_iff.mp e1
      rw [List.getElem?_eq_none (by omega)]
    | some u =>
      have := (List.getElem?_eq_some_iff.mp e1).1
      obtain ⟨t, e2⟩ : ∃ t, ts[j]? = some t := ⟨_, List.getElem?_eq_getElem (by omega)⟩
      rw [e2, ih j t u e2 e1]
/-- `stream_eval` of what `_reify` has made -/
theorem stream_made (w : World) {p : Program} {loose : List Str} {mean : ExcName → Option Value} {mg mb : Str → Option Value}
    {dp un dp' un' : Nat} {gd gd' : Option (List Code)} {fr : List Env} {env : Env} {base base0 : Heap} {s s1 s2 : Shared} {nv : Int → Addr} {d : Addr} {kvs : List (Int × Value)} {sg : Int → Option Tm} {D n tk2 : Nat} {t u : Tm} {v : Value} {f L1 : Addr} {P : (Str → Option Value) → Prop} {Q E : Value → Shared → Prop}
    (B : Below ⟨none, dp, some fr, gd, un⟩ base fr s.heap) (B1 : Below ⟨none, dp', some (env :: fr), gd', un'⟩ base (env :: fr) s1.heap) (hf : env.frame = some L1) (zL1 : s.heap.get? L1 = none)
    (X0 : (Mine.hd.heap_39 w.params).In base0) (T0 : Top p loose mean mg mb base0) (b0 : base0.StaysIn base) (hsz : base0.objs.size ≤ s1.heap.objs.size)
    (V : VarAt w base nv) (GV : GivAt base nv d kvs) (K : KvAt w base [sysModules] nv kvs sg D) (lo : (d == sysModules) = false)
    (hd' : dp' + 40 < recursionLimit) (hu' : un' + D + 400 < cLine) (hW : Wh sg n t u) (hn : 2 * n + 1 ≤ 1000) (hnn : ∀ k, t ≠ .num k)
    (up : ∀ b o, s.heap.get? b = some o → s1.heap.get? b = some o) (hgs : s1.gens = s.gens) (hdr : s1.drawn = s.drawn) (hos : s1.os = s.os) (hm : MadeGen w s1 s2 v f P)
    (hbody : ∀ (Lg : Addr) (c : Code) (m : Str → Option Value) (L2 sl : Addr) (h'' : Heap), GenCode (Mine.hd.heap_39 w.params) f Lg c → P m → (∀ b o, s1.heap.get? b = some o → h''.get? b = some o) → s1.heap.get? L2 = none → s1.heap.get? sl = none → s1.heap.get? Lg = none → GenBody w (env :: fr) base L2 sl nv d h'' Lg c m t)
    (hq : ∀ r s', Ext [] (frs fr) s s' → (∀ X, Has s.heap X → MdAt w s'.heap X nv u r) → Below ⟨none, dp, some fr, gd, un⟩ base fr s'.heap → Q r s') :
    wpAny (model PySem.Challenge.rw_ez0159_01.row.prog w) ⟨none, dp', some (env :: fr), gd', un'⟩ (call (.ref 206) [v]) Q E { s2 with toks := tk2 } := by
  obtain ⟨G, dG, ga, Lg, c, tk, m, h', tk', rfl, rfl, up4, I, hgd, hc, hns, hP, hz, l1, l2, l3⟩ := hm
  have B2 : Below ⟨none, dp', some (env :: fr), gd', un'⟩ base (env :: fr) h' := ⟨B1.stack, fun b o e => up4 _ _ (B1.stays b o e), B1.frames.of_keeps fun b o e _ => ⟨o, up4 _ _ e, rfl⟩⟩
  have nw : ∀ x ∈ [Lg, G, dG, ga], s1.heap.get? x = none := fun x hx => by
    simp at hx
    rcases hx with rfl | rfl | rfl | rfl
    · exact new_none hz
    · exact new_none (Nat.le_trans hz (Nat.le_of_lt (Nat.lt_trans l2 l3)))
    · exact new_none (Nat.le_trans hz (Nat.le_of_lt l2))
    · exact new_none (Nat.le_trans hz (Nat.le_of_lt l1))
  refine stream_c w (s := { s1 with heap := h', gens := s1.gens.push (.fresh c), toks := tk2 }) B2 X0 T0 b0 V GV K lo hd' hu' hW hn hnn ⟨I, hgd⟩ (c := c) (by show (s1.gens.push (.fresh c))[s1.gens.size]? = _; simp) hns (Nat.ne_of_lt l2) (fun x hx => ⟨?_, fun q => ?_⟩) (Nat.le_trans hsz hz) (fun L2 sl h'' k z1 z2 => ?_) fun r s' hE hG hM hB => ?_
  · cases q : base.get? x with
    | none => rfl
    | some o => have := B1.stays _ _ q; rw [nw x hx] at this; cases this
  · obtain ⟨_, o, ho, _⟩ := B1.frames.mem q
    rw [nw x hx] at ho; cases ho
  · exact hbody Lg c m L2 sl h'' hc hP (fun b o e => k _ _ (up4 _ _ e)) (new_back (fun b o e => ⟨o, up4 _ _ e⟩) z1) (new_back (fun b o e => ⟨o, up4 _ _ e⟩) z2) (nw Lg (by simp))
  · have al : ∀ b o, s.heap.get? b = some o → h'.get? b = some o := fun b o e => up4 _ _ (up _ _ e)
    refine hq r s' ?_ (fun X hX => hM X fun b hb => let ⟨o, e⟩ := hX b hb; ⟨o, al _ _ e⟩) ⟨B.stack, hB.stays, hB.frames.2.2⟩
    rw [frs_cons hf] at hE
    have E1 := hE.inX
    refine ⟨⟨fun b o n mm e => ?_, fun b o mm e => E1.chg.slots b o mm (al _ _ e)⟩, fun b o e => E1.alive b o (al _ _ e), E1.drawn.trans hdr, E1.os.trans hos, fun h => E1.bare (by show AllBare (s1.gens.push _); rw [hgs]; exact h.push rfl)⟩
    refine E1.chg.keep b o (fun q => ?_) mm (al _ _ e)
    simp at q
    rcases q with rfl | rfl
    · rw [zL1] at e; cases e
    · have := up _ _ e
      rw [nw b (by simp)] at this; cases this
theorem reifyF_c (w : World) {p : Program} {loose : List Str} {mean : ExcName → Option Value} {mg mb : Str → Option Value}
    {dp un : Nat} {gd : Option (List Code)} {fr : List Env} {base base0 : Heap} {s : Shared} {nv : Int → Addr} {d : Addr} {kvs : List (Int × Value)} {sg : Int → Option Tm} {D n : Nat} {t u : Tm} {v : Value} {Q E : Value → Shared → Prop}
    (B : Below ⟨none, dp, some fr, gd, un⟩ base fr s.heap) (X0 : (Mine.hd.heap_39 w.params).In base0) (T0 : Top p loose mean mg mb base0) (b0 : base0.StaysIn base) (hsz : base0.objs.size ≤ s.heap.objs.size)
    (V : VarAt w base nv) (GV : GivAt base nv d kvs) (K : KvAt w base [sysModules] nv kvs sg D) (lo : (d == sysModules) = false) (hsg : kvs = [] → ∀ i, sg i = none) (hkl : kvs.length ≤ 100)
    (hm : MdAt w base [sysModules] nv t v) (hw : Wf 0 5 t) (hW : Wh sg n t u) (hn : 2 * n + 1 ≤ 1000) (hd : dp + 60 < recursionLimit) (hu : un + D + 500 < cLine)
    (hq : ∀ r s', Ext [] (frs fr) s s' → (∀ X, Has s.heap X → (∀ b ∈ X, base.get? b = none ∨ b = sysModules) → MdAt w s'.heap X nv u r) → Below ⟨none, dp, some fr, gd, un⟩ base fr s'.heap → Q r s') :
    wpAny (model PySem.Challenge.rw_ez0159_01.row.prog w) ⟨none, dp, some fr, gd, un⟩ (call (.ref 234) [v, .ref d]) Q E s := by
  have X := X0.keeps b0
  have T := T0.keeps b0
  have XS := X.keeps B.stays
  have TS := T.keeps B.stays
  refine wpAny_call ?_
  refine' code_defT B ?X TS ?ho ?hcd ?hroom ?hb ?hl ?_ ?c1 ?c2 ?c3 ?c4
  case X => exact XS
  case ho => k_is
  case hcd => k_is
  case hroom => dsimp only; omega
  case hb => exact BindsTo.of_eq rfl
  case hl => exact locs rfl
  case c1 => exact rfl
  case c2 => exact rfl
  case c3 => exact rfl
  case c4 => decide
  intro L1 h1 hL1 F1 B1
  (try dsimp only)
  have N1 : News s.heap L1 h1 [] := News.nil
  (try k_fold)
  k_steps
  refine (?_ : wpAny _ _ (call _ _) _ _ _)
  obtain ⟨⟨od, ep, hod, hcd, hdd⟩, hnd, hrg⟩ := id GV
  have hsz' : (ents nv kvs).size = kvs.length := by unfold ents; simp
  refine len_raw lo (F1.keep _ _ (B.stays _ _ hod)) hcd hdd (by rw [hsz']; omega) ?_
  rw [hsz']
  k_steps
  · rename_i ha
    have hk0 : kvs = [] := List.length_eq_zero_iff.mp (by omega)
    obtain rfl := wh_same (hsg hk0) hW
    rename Fr s.heap L1 _ _ => F9
    refine hq v _ (ext_up F9.keep) (fun Z hZ hZ2 => ?_) ⟨B.stack, fun b o e => F9.keep _ _ (B.stays b o e), B.frames.of_keeps fun b o e _ => ⟨o, F9.keep _ _ e, rfl⟩⟩
    refine MdAt.keep (h := base) (KeepX.of fun b o e => F9.keep _ _ (B.stays b o e)) _ (MdAt.setX (fun b o nb e q => ?_) _ hm)
    rcases hZ2 b q with z | z
    · rw [e] at z; cases z
    · exact nb (by simp [z])
  · refine (?_ : wpAny _ _ (call _ _) _ _ _)
    rename Fr s.heap L1 _ _ => F2
    have up1 := F2.keep
    have zL1 : s.heap.get? L1 = none := new_none (by rw [hL1]; exact Nat.le_refl _)
    have XB := X.keeps B1.stays
    refine' reify_c w (B1 : Below (⟨none, dp + 1, some (_ :: fr), gd, _⟩ : Around) _ _ _) X T (V.keep fun b o e => up1 _ _ (B.stays _ _ e)) (MdAt.keep (KeepX.of fun b o e => up1 _ _ (B.stays _ _ e)) _ hm) hw ?gd ?ge ?hnum ?hvar ?hnode
    case gd => dsimp only [Around.deeper]; omega
    case ge => dsimp only [Around.deeper]; omega
    case hnum =>
      rintro k rfl h4 tk4 up4
      obtain ⟨tt, rfl⟩ := hm
      have F4 := fr_up F2 up4
      clear F2
      k_steps
      refine (?_ : wpAny _ _ (call _ _) _ _ _)
      have up14 := F4.keep
      refine' stream_val w (⟨B1.stack, fun b o e => up4 _ _ (B1.stays b o e), B1.frames.of_keeps fun b o e _ => ⟨o, up4 _ _ e, rfl⟩⟩ : Below (⟨none, dp + 1, some (_ :: fr), gd, _⟩ : Around) _ _ _) X T ?hi ?gd ?ge ?hk
      case hi => apply isg_int
      case gd => dsimp only [Around.deeper]; omega
      case ge => dsimp only [Around.deeper]; omega
      case hk =>
        intro h5 tk5 up5
        have up15 : ∀ b o, s.heap.get? b = some o → h5.get? b = some o := fun b o e => up5 _ _ (up14 _ _ e)
        have hu := hW.of_num
        subst hu
        exact hq _ _ (ext_up up15) (fun _ _ _ => ⟨tt, rfl⟩) ⟨B.stack, fun b o e => up15 _ _ (B.stays b o e), B.frames.of_keeps fun b o e _ => ⟨o, up15 _ _ e, rfl⟩⟩
    case hvar =>
      rintro j rfl v2 s2 hmade
      have hmade0 := hmade
      obtain ⟨G, dG, ga, Lg, c, tk, m, h', tk', rfl, rfl, up4, _⟩ := hmade
      have F4 := fr_up F2 up4
      have hsz1 : base0.objs.size ≤ h1.objs.size := Nat.le_trans hsz (Nat.le_trans F2.above (Nat.le_of_lt (let ⟨_, _, _, e, _⟩ := F2.ns; Heap.lt_size e)))
      clear F2
      k_steps
      refine (?_ : wpAny _ _ (call _ _) _ _ _)
      refine' stream_made (s1 := { heap := h1, gens := s.gens, drawn := s.drawn, toks := _, os := s.os }) w B (B1 : Below (⟨none, dp + 1, some (_ :: fr), gd, _⟩ : Around) _ _ _) rfl zL1 X0 T0 b0 hsz1 V GV K lo ?gd ?ge hW hn (fun k q => by cases q) up1 rfl rfl rfl hmade0 (fun Lg c m L2 sl h'' hc hP _ _ _ _ => ⟨hc, hP.1, hP.2, hw⟩) (fun r s' e m b => hq r s' e (fun X h1 _ => m X h1) b)
      case gd => dsimp only [Around.deeper]; omega
      case ge => dsimp only [Around.deeper]; omega
    case hnode =>
      rintro kd ts rfl v2 s2 hmade
      have hmade0 := hmade
      obtain ⟨G, dG, ga, Lg, c, tk, m, h', tk', rfl, rfl, up4, _⟩ := hmade
      have F4 := fr_up F2 up4
      have hsz1 : base0.objs.size ≤ h1.objs.size := Nat.le_trans hsz (Nat.le_trans F2.above (Nat.le_of_lt (let ⟨_, _, _, e, _⟩ := F2.ns; Heap.lt_size e)))
      clear F2
      k_steps
      refine (?_ : wpAny _ _ (call _ _) _ _ _)
      obtain ⟨rr, ys, rfl, nr, hmk, hys⟩ := hm
      obtain ⟨orr, herr⟩ := hmk.has
      have h1rr : h1.get? rr = some orr := B1.stays _ _ herr
      refine' stream_made (s1 := { heap := h1, gens := s.gens, drawn := s.drawn, toks := _, os := s.os }) w B (B1 : Below (⟨none, dp + 1, some (_ :: fr), gd, _⟩ : Around) _ _ _) rfl zL1 X0 T0 b0 hsz1 V GV K lo ?gd ?ge hW hn (fun k q => by cases q) up1 rfl rfl rfl hmade0 (fun Lg c m L2 sl h'' hc hP k z2 zs zL => ⟨hc, hP.1, hP.2.2, rr, ys, hP.2.1, hmk.keep (fun o e => k _ _ (B1.stays _ _ e)), hys, hw, fun _ q => nr (by simp [q]), ?n1, ?n2, ?n3, ?n4⟩) (fun r s' e m b => hq r s' e (fun X h1 _ => m X h1) b)
      case gd => dsimp only [Around.deeper]; omega
      case ge => dsimp only [Around.deeper]; omega
      case n1 => intro q; rw [← q, h1rr] at z2; cases z2
      case n2 => intro q; rw [← q, h1rr] at zs; cases zs
      case n3 => intro q; rw [← q, h1rr] at zL; cases zL
      case n4 => intro q; rw [(B1.frames.mem q).1] at herr; cases herr

end Mine
end
section -- M34
open PySem PySem.W PySem.Calls PyProof.Rows
open PySem.SeqAt
set_option maxRecDepth 100000
set_option maxHeartbeats 4000000
namespace Mine
theorem hits_enum {A : Around} {s : Shared} {kb : List (Int × Value)} : ∀ {r : List Value} {i : Int}, (∀ (j : Nat) (v : Value), r[j]? = some v → ∃ y, valueAt kb (i + (j : Int)) = some y ∧ EqAt A s v y true) → KeqHits A s kb (enumV i r) true
  | [], _, _ => .nil
  | v :: r, i, h => by
    obtain ⟨y, hy, he⟩ := h 0 v rfl
    have h2 := hits_enum (A := A) (s := s) (kb := kb) (r := r) (i := i + 1) fun j v' e => by
      obtain ⟨y', hy', he'⟩ := h (j + 1) v' (by simpa using e)
      refine ⟨y', ?_, he'⟩
      rw [← hy']; congr 1; push_cast; omega
    exact KeqHits.hit (e := true) (b := true) (k := i) (v := v) (by simpa using hy) he h2
theorem dictOf_any {prog prog' : Program} {w w' : World} {h : Heap} {a : Addr} {kvs : List (Int × Value)} (x : h.DictOf (intKind prog w) a kvs) : h.DictOf (intKind prog' w') a kvs := by
  obtain ⟨o, es, ep, h1, h2, h3, h4, h5, h6⟩ := x
  refine ⟨o, es, ep, h1, h2, h3, h4, ?_, h6⟩
  clear h6 h4 h3
  generalize es.toList = l at h5 ⊢
  induction h5 with
  | nil => exact .nil
  | cons a b _ ih => exact .cons a b ih
section
variable {w : World} {nv : Int → Addr} {s : Shared} {X Y : List Addr}
theorem rc_node {kd : Kd} {a b : Addr} {vs us : List Value} {A : Around} (ha : MkAt w s.heap a vs kd) (hb : MkAt w s.heap b us kd) (hl : vs.length = us.length) (na : a ≠ sysModules) (nb : b ≠ sysModules) (hu : A.units < cLine)
    (he : ∀ (j : Nat) (v u : Value), vs[j]? = some v → us[j]? = some u → EqAt A.in1 s v u true) : RcAt A s (.ref a) (.ref b) true ∧ RcNeAt A s (.ref a) (.ref b) false := by
  have hz : vs.toArray.size = us.toArray.size := by simpa using hl
  have he' : ∀ j (h1 : j < vs.toArray.size) (h2 : j < us.toArray.size), EqAt A.in1 s vs.toArray[j] us.toArray[j] ((fun _ => true) j) := fun j h1 h2 => he j _ _ (by simp at h1 ⊢) (by simp at h2 ⊢)
  cases kd with
  | row =>
    have e : ((List.range (min vs.toArray.size us.toArray.size)).all (fun _ => true) && vs.toArray.size == us.toArray.size) = true := by simp [hl]
    have r1 := RcAt.tuples (e := fun _ => true) (show s.heap.IsTuple a vs.toArray from ha) (show s.heap.IsTuple b us.toArray from hb) hu he'
    have r2 := RcNeAt.tuples (e := fun _ => true) (show s.heap.IsTuple a vs.toArray from ha) (show s.heap.IsTuple b us.toArray from hb) hu he'
    rw [e] at r1 r2
    exact ⟨r1, r2⟩
  | lst =>
    obtain ⟨n, ho⟩ := (show s.heap.PlainList a vs.toArray from ha)
    obtain ⟨n', ho'⟩ := (show s.heap.PlainList b us.toArray from hb)
    have e : (List.range vs.toArray.size).all (fun _ => true) = true := by simp
    have r1 := RcAt.lists (e := fun _ => true) ⟨_, ho, rfl, n, rfl⟩ ⟨_, ho', rfl, n', rfl⟩ hz hu he'
    have r2 := RcNeAt.lists (e := fun _ => true) ⟨_, ho, rfl, n, rfl⟩ ⟨_, ho', rfl, n', rfl⟩ hz hu he'
    rw [e] at r1 r2
    exact ⟨r1, r2⟩
  | dct =>
    have hits : (enumV 0 vs).length = (enumV 0 us).length → KeqHits A.in1 s (enumV 0 us) (enumV 0 vs) true := fun _ => hits_enum fun j v e => by
      obtain ⟨u, hu⟩ : ∃ u, us[j]? = some u := ⟨_, List.getElem?_eq_getElem (by rw [← hl]; exact (List.getElem?_eq_some_iff.mp e).1)⟩
      exact ⟨u, valueAt_of_get enumV_nodup (i := j) (by rw [enumV_get, hu]; rfl), he j v u e hu⟩
    have el : ((enumV 0 vs).length == (enumV 0 us).length && true) = true := by simp [enumV_length, hl]
    constructor
    · intro prog w' E Q hq
      refine keq_eq (knd := intKind prog w') (by simpa using na) (by simpa using nb) (dictOf_any (show s.heap.DictOf (intKind PySem.Challenge.rw_ez0159_01.row.prog w) a (enumV 0 vs) from ha)) (dictOf_any (show s.heap.DictOf (intKind PySem.Challenge.rw_ez0159_01.row.prog w) b (enumV 0 us) from hb)) hu hits ?_
      rw [el]; exact hq
    · intro prog w' E Q hq
      refine keq_ne (knd := intKind prog w') (by simpa using na) (by simpa using nb) (dictOf_any (show s.heap.DictOf (intKind PySem.Challenge.rw_ez0159_01.row.prog w) a (enumV 0 vs) from ha)) (dictOf_any (show s.heap.DictOf (intKind PySem.Challenge.rw_ez0159_01.row.prog w) b (enumV 0 us) from hb)) hu hits ?_
      rw [el]; exact hq
mutual
/-- two made values of one term are equal -/
theorem md_eqAt : ∀ (t : Tm) {A : Around} {v v' : Value}, MdAt w s.heap X nv t v → MdAt w s.heap Y nv t v' → sysModules ∈ X → sysModules ∈ Y → A.units + t.depth < cLine → EqAt A s v v' true
  | .num n, A, _, _, h, h', _, _, _ => by
    obtain ⟨t1, rfl⟩ := h
    obtain ⟨t2, rfl⟩ := h'
    have := EqAt.int_int (A := A) (s := s) n t1 n t2
    simpa using this
  | .var i, A, _, _, h, h', _, _, _ => by
    have e : _ = _ := h
    have e' : _ = _ := h'
    subst e e'
    exact EqAt.same _
  | .node kd ts, A, _, _, h, h', hX, hY, hu => by
    obtain ⟨a, vs, rfl, na, hmk, hvs⟩ := h
    obtain ⟨b, us, rfl, nb, hmk', hus⟩ := h'
    by_cases hab : a = b
    · subst hab; exact EqAt.same _
    · refine EqAt.of_refs hab (rc_node hmk hmk' (by rw [hvs.length, hus.length]) (fun q => na (q ▸ hX)) (fun q => nb (q ▸ hY)) (by omega) (mds_eqAt ts hvs hus hX hY ?_)).1
      show A.units + 1 + Tm.depths ts < cLine
      have : (Tm.node kd ts).depth = Tm.depths ts + 1 := rfl
      omega
theorem mds_eqAt : ∀ (ts : List Tm) {A : Around} {vs us : List Value}, MdsAt w s.heap X nv ts vs → MdsAt w s.heap Y nv ts us → sysModules ∈ X → sysModules ∈ Y → A.units + Tm.depths ts < cLine → ∀ (j : Nat) (v u : Value), vs[j]? = some v → us[j]? = some u → EqAt A s v u true
  | [], A, vs, us, h, h', _, _, _, j, v, u, e, e' => by
    unfold MdsAt at h
    subst h
    simp at e
  | t :: r, A, vs, us, h, h', hX, hY, hu, j, v, u, e, e' => by
    unfold MdsAt at h h'
    obtain ⟨v1, vs1, rfl, h1, h2⟩ := h
    obtain ⟨u1, us1, rfl, h1', h2'⟩ := h'
    have hd1 : t.depth ≤ Tm.depths (t :: r) := by unfold Tm.depths; omega
    have hd2 : Tm.depths r ≤ Tm.depths (t :: r) := by rw [Tm.depths]; omega
    cases j with
    | zero => simp at e e'; subst e e'; exact md_eqAt t h1 h1' hX hY (by omega)
    | succ j => simp at e e'; exact mds_eqAt r h2 h2' hX hY (by omega) j v u e e'
end
end
end Mine
end
section -- N26
open PySem PySem.W PySem.Calls PyProof.Rows
set_option maxRecDepth 100000
set_option maxHeartbeats 8000000
set_option linter.unusedVariables false
namespace Mine
local macro_rules | `(tactic| k_all) => `(tactic| assumption)
local macro_rules | `(tactic| ktr_enter) => `(tactic| first
  | (refine' code_defG ?k1 ?k2 ?k3 ?k4 ?k5 ?kA ?kF ?kK ?k6 ?k7 ?k8 ?k9 ?kB ?_ ?c2 ?c3 ?c4 ?c5; (case kA => exact rfl); (case kF => exact rfl); (case kK => first | assumption | exact rfl); (case k1 => k_asm); (case k2 => k_asm); (case k3 => k_asm); (case k4 => first | k_asm | exact News.nil); (case k5 => k_asm); (case k6 => k_is); (case k7 => k_is); (case k8 => ktr_room); (case k9 => exact BindsTo.of_eq rfl); (case c5 => decide); (case kB => exact locs rfl); (case c2 => exact rfl); (case c3 => exact rfl); (case c4 => exact rfl))
  | (refine' code_defCG ?k1 ?k2 ?k3 ?k4 ?k5 ?kA ?kF ?kK ?k6 ?k7 ?k8 ?k9 ?kB ?kD ?_ ?c2 ?c3 ?c4; (case kA => exact rfl); (case kF => exact rfl); (case kK => first | assumption | exact rfl); (case k1 => k_asm); (case k2 => k_asm); (case k3 => k_asm); (case k4 => first | k_asm | exact News.nil); (case k5 => k_asm); (case k6 => k_is); (case k7 => k_is); (case k8 => ktr_room); (case k9 => exact BindsTo.of_eq rfl); (case kB => exact rfl); (case kD => decide +kernel); (case c2 => exact rfl); (case c3 => exact rfl); (case c4 => exact rfl)))
local macro_rules | `(tactic| k_room) => `(tactic| (first | ((try simp only [depth_under_make, depth_under_kw, depth_in1, depth_deeper, depth_caller]); decide) | (dsimp only [ktrTop, Around.deeper, Around.in1, Around.mark]; omega) | ((try simp only [depth_under_make, depth_under_kw, depth_in1, depth_deeper, depth_caller]); (try dsimp only [ktrTop, Around.deeper, Around.in1, Around.mark]); omega)))
local macro_rules | `(tactic| k_units) => `(tactic| (first | exact Nat.le_of_ble_eq_true rfl | (dsimp only [ktrTop, Around.deeper, Around.in1, Around.mark]; omega)))
local macro_rules | `(tactic| k_inst) => `(tactic| first | (refine' inst_up1 ?F ?I; (case F => k_asm); (case I => assumption)) | (refine' inst_up2 ?F2 ?F ?I; (case F2 => k_asm); (case F => k_asm); (case I => assumption)))
/-- the object of a dict with the law's variables as keys -/
def GivOb (nv : Int → Addr) (kvs : List (Int × Value)) (o : Obj) : Prop := ∃ ep, o.cls = .type "dict" ∧ o.data = .dict (ents nv kvs) ep
open PySem.SeqAt in
theorem ents_push {nv : Int → Addr} {kvs : List (Int × Value)} {q : Int × Value} : ents nv (kvs ++ [q]) = (ents nv kvs).push ⟨q.1, .ref (nv q.1), q.2⟩ := by
  unfold ents; simp
/-- one store of dict(..) with a variable as the key -/
theorem var_step (w : World) {p : Program} {loose : List Str} {mean : ExcName → Option Value} {mg mb : Str → Option Value}
    {dp un : Nat} {gd : Option (List Code)} {cn : Str} {cs : Scope} {a : Addr} {ccd : Value} {cl : List (Str × Addr)} {outer : List Env} {A₀ : Around} {base h₀ : Heap} {L : Addr} {m : Str → Option Value} {s₀ : Shared}
    {nv : Int → Addr} {d : Addr} {kvs : List (Int × Value)} {pairs : List (Value × Value)}
    (B : Below A₀ base outer h₀) (F : Fr h₀ L s₀.heap m) (X : (Mine.hd.heap_39 w.params).In h₀) (T : Top p loose mean mg mb h₀) (hk : cs.kind = .function)
    (V : VarAt w s₀.heap nv) (hlen : pairs.length = kvs.length) (hp : ∀ (i : Nat) (k x : Value), pairs[i]? = some (k, x) → ∃ n, k = .ref (nv n) ∧ kvs[i]? = some (n, x)) (hn : (kvs.map (·.1)).Nodup) (hr : ∀ q ∈ kvs, 0 ≤ q.1 ∧ q.1 < 5) (hz : kvs.length ≤ 100)
    (hd : dp + 4 < recursionLimit) (hu : un + 20 < cLine) :
    PairStep PySem.Challenge.rw_ez0159_01.row.prog w (ktrTop dp un gd cn cs L a ccd cl outer) d s₀ pairs (fun i o => GivOb nv (kvs.take i) o) := by
  intro i k x s' o Q' E' hi hdo hP hk' _ _ _ hQ
  obtain ⟨n, rfl, hkv⟩ := hp i k x hi
  obtain ⟨ep, hc, hdt⟩ := hP
  have hin : (n, x) ∈ kvs := List.mem_of_getElem? hkv
  have hrn := hr _ hin
  obtain ⟨dv, u1, u2, I⟩ := V n hrn.1 hrn.2
  have hnew : n ∉ (kvs.take i).map (·.1) := by
    intro hm
    obtain ⟨⟨n', x'⟩, hm', e⟩ := List.mem_map.mp hm
    simp only at e
    subst e
    obtain ⟨j, hj, e⟩ := List.mem_iff_getElem.mp hm'
    rw [List.length_take] at hj
    rw [List.getElem_take] at e
    have h1 : (kvs.map (·.1))[j]? = some n' := by rw [List.getElem?_map, List.getElem?_eq_getElem (by omega), e]; rfl
    have h2 : (kvs.map (·.1))[i]? = some n' := by rw [List.getElem?_map, hkv]; rfl
    have := (List.getElem?_inj (by simp; omega) hn).mp (h1.trans h2.symm)
    omega
  have hsub : ∀ q ∈ kvs.take i, 0 ≤ q.1 ∧ q.1 < 5 := fun q hq => hr q (List.mem_of_mem_take hq)
  unfold dictSet
  refine wpAny_holding ?_
  refine wpAny_bind (varhash_c w B (fr_up F hk') X T hk (inst_keep I hk') hrn hd hu fun h' tks F' up => ?_)
  unfold dictSetHashed
  refine wpAny_holding ?_
  refine wpAny_bind (find_none_ref (s := { s' with heap := h', toks := tks }) (up _ _ hdo) hdt (places_none hnew) (fun e' he' hke => ?_) ?_)
  · obtain ⟨q', hq', rfl⟩ := ents_mem he'
    have : nv q'.1 = nv n := by injection hke
    have := var_inj V (hsub _ hq') hrn this
    exact hnew (List.mem_map.mpr ⟨q', hq', this⟩)
  · have hsz : (ents nv (kvs.take i)).size ≤ sizeLine := by
      have : (1000 : Nat) ≤ sizeLine := by decide
      have h2 : (kvs.take i).length ≤ kvs.length := by rw [List.length_take]; omega
      rw [ents_size]; omega
    refine wpAny_bind (wpAny_rule (wpAny_updateDictKeys (hz := hsz) (s := { s' with heap := h', toks := tks }) (up _ _ hdo) hdt ?_))
    refine hQ (Obj.mapDictKeys _ o) _ _ ⟨ep + 1, ?_, ?_⟩ (Heap.get?_update_self _ (up _ _ hdo) (Obj.isFreed_of_dict (Obj.data_mapDictKeys hdt _))) fun b ob n' e => (Heap.get?_update_other _ _ n'.symm).trans (up _ _ e)
    · obtain ⟨c1, d1, t1, l1⟩ := o
      dsimp only at hdt
      subst hdt
      exact hc
    · rw [Obj.data_mapDictKeys hdt, List.take_add_one, hkv]
      exact congrArg (fun z => Data.dict z (ep + 1)) (ents_push (q := (n, x))).symm
section
open PySem.SeqAt
variable {prog : Program} {w : World} {A : Around} {E : Value → Shared → Prop} {s : Shared} {nv : Int → Addr}
/-- two dicts with the law's variables as keys, alike entry by entry -/
theorem given_pairs {nm : String} {d d' : Addr} {kvs kvs' : List (Int × Value)} {Q : Bool → Shared → Prop} (V : VarAt w s.heap nv) (lo : (d == sysModules) = false) (lo' : (d' == sysModules) = false) (G : GivAt s.heap nv d kvs) (G' : GivAt s.heap nv d' kvs') (hk : kvs.map (·.1) = kvs'.map (·.1))
    (he : ∀ (j : Nat) (q q' : Int × Value), kvs[j]? = some q → kvs'[j]? = some q' → EqAt A s q.2 q'.2 true) (h : Q true s) : wpAny (model prog w) A (Builtin.Dict.samePairs nm d d') Q E s := by
  obtain ⟨⟨o, ep, ho, _, hd⟩, hn, hr⟩ := G
  obtain ⟨⟨o', ep', ho', _, hd'⟩, hn', hr'⟩ := G'
  have hl : kvs.length = kvs'.length := by have := congrArg List.length hk; simpa using this
  unfold Builtin.Dict.samePairs Builtin.Dict.showsAll
  rw [if_neg (by rw [lo]; exact Bool.false_ne_true), if_neg (by rw [lo']; exact Bool.false_ne_true)]
  refine wpAny_bind (wpAny_pure (wpAny_bind (wpAny_pure ?_)))
  refine wpAny_bind (wpAny_dictEntries ho hd ?_)
  dsimp only
  refine wpAny_bind (wpAny_dictEntries ho' hd' ?_)
  rw [if_neg (by rw [ents_size, ents_size, hl]; simp)]
  refine wpAny_bind (wpAny_dictEpoch ho hd ?_)
  refine wpAny_bind ?_
  rw [Std.Legacy.Range.forIn_eq_forIn_range']
  simp only [Std.Legacy.Range.size, Nat.sub_zero, Nat.add_sub_cancel, Nat.div_one, ents_size]
  refine wpAny_forIn_list _ (fun rest q s' => s' = s ∧ q = (none, ()) ∧ ∃ i, rest = List.range' i (kvs.length - i)) _ ?_ ?_ _ _ ⟨rfl, rfl, 0, by simp⟩
  · rintro x rest q s' ⟨rfl, rfl, i, hr1⟩
    have hlt : i < kvs.length := by
      rcases Nat.lt_or_ge i kvs.length with h | h
      · exact h
      · rw [Nat.sub_eq_zero_of_le h] at hr1; simp at hr1
    obtain ⟨rfl, hrest⟩ : x = i ∧ rest = List.range' (i + 1) (kvs.length - (i + 1)) := by
      have e : kvs.length - i = (kvs.length - (i + 1)) + 1 := by omega
      rw [e, List.range'_succ] at hr1
      injection hr1 with h1 h2
      exact ⟨h1, h2⟩
    obtain ⟨q1, hq1⟩ : ∃ q1, kvs[x]? = some q1 := ⟨_, List.getElem?_eq_getElem hlt⟩
    obtain ⟨q2, hq2⟩ : ∃ q2, kvs'[x]? = some q2 := ⟨_, List.getElem?_eq_getElem (by omega)⟩
    have hq : q1.1 = q2.1 := by
      have a : (kvs.map (·.1))[x]? = some q1.1 := by rw [List.getElem?_map, hq1]; rfl
      have b : (kvs'.map (·.1))[x]? = some q2.1 := by rw [List.getElem?_map, hq2]; rfl
      rw [hk, b] at a
      exact (Option.some.inj a).symm
    refine wpAny_bind (wpAny_dictEntries ho hd ?_)
    rw [ents_get, hq1]
    show wpAny _ _ (holding [.ref (nv q1.1), q1.2] _ >>= _) _ _ _
    refine wpAny_bind (wpAny_holding (wpAny_bind ?_))
    show wpAny _ _ (dictFind d' (.ref (nv q1.1)) q1.1) _ _ _
    refine find_hit_ref ho' hd' (hq ▸ places_one hn' (v := q2.2) (k := q2.1) hq2) (e := ⟨q2.1, .ref (nv q2.1), q2.2⟩) (by rw [ents_get, hq2]; rfl) (by rw [hq]) hq.symm (fun (e' : DictEntry) he' hke => ?_) ?_
    · obtain ⟨q', hq', rfl⟩ := ents_mem he'
      have e2 : nv q'.1 = nv q1.1 := by injection hke
      exact var_inj V (hr' _ hq') (hr _ (List.mem_of_getElem? hq1)) e2
    · refine wpAny_bind (wpAny_dictEntries ho' hd' ?_)
      rw [ents_get, hq2]
      refine wpAny_holding (he x q1 q2 hq1 hq2 prog w _ _ ?_)
      show wpAny _ _ (if (!true) = true then _ else _) _ _ _
      rw [if_neg (by decide)]
      refine wpAny_bind (wpAny_dictEpoch ho hd ?_)
      rw [if_neg (by simp)]
      exact wpAny_pure ⟨rfl, rfl, x + 1, hrest⟩
  · rintro q s' ⟨rfl, rfl, i, hr1⟩
    exact wpAny_pure h
theorem given_eq {d d' : Addr} {kvs kvs' : List (Int × Value)} {Q : Value → Shared → Prop} (V : VarAt w s.heap nv) (lo : (d == sysModules) = false) (lo' : (d' == sysModules) = false) (G : GivAt s.heap nv d kvs) (G' : GivAt s.heap nv d' kvs') (hk : kvs.map (·.1) = kvs'.map (·.1)) (hu : A.units < cLine)
    (he : ∀ (j : Nat) (q q' : Int × Value), kvs[j]? = some q → kvs'[j]? = some q' → EqAt A.in1 s q.2 q'.2 true) (h : Q (.bool true) s) : wpAny (model prog w) A (compareOp .Eq (.ref d) (.ref d')) Q E s := by
  have hT : s.TypeIs (.ref d) "dict" := let ⟨⟨o, ep, ho, hc, _⟩, _⟩ := G; ⟨o, ho, hc⟩
  have hT' : s.TypeIs (.ref d') "dict" := let ⟨⟨o, ep, ho, hc, _⟩, _⟩ := G'; ⟨o, ho, hc⟩
  refine wpAny_richCompare_same_room (op := .Eq) hT hT' PySem.F.slot_dict_eq (wpAny_call_entry PySem.F.slot_dict_eq hT PySem.F.entry_dict_eq ?_ (PySem.F.args_dict_eq_2 _ _)) hu
  show wpAny _ _ (Builtin.Dict.dictSlotArgs "__eq__" ⟨[.ref d, .ref d'], []⟩ >>= _) _ _ s
  refine wpAny_bind ?_
  unfold Builtin.Dict.dictSlotArgs
  refine wpAny_bind (wpAny_notOrdered_dict hT ?_)
  show wpAny _ _ (pure (Value.ref d, Value.ref d')) _ _ s
  refine wpAny_pure ?_
  refine wpAny_bind (wpAny_isInstance (T := "dict") hT' PySem.F.sub_dict_dict ?_)
  simp only [Bool.not_true, Bool.false_eq_true, if_false]
  refine wpAny_bind (wpAny_pure (wpAny_bind (wpAny_pure ?_)))
  refine wpAny_bind (given_pairs V lo lo' G G' hk he ?_)
  exact wpAny_pure ⟨_, rfl, (fun x => nomatch x), h⟩
end

end Mine
end
section -- M35
open PySem PySem.W PySem.Calls PyProof.Rows Builtin Builtin.ObjectAttr Builtin.Getset_descriptor
set_option maxRecDepth 100000
set_option maxHeartbeats 4000000
namespace Mine
section
variable {prog : Program} {w : World} {A : Around} {K : Frag} {C fN : Addr} {v : Value} {s : Shared} {R : Result → Shared → Prop} {oc : Value} {od : Option Addr} {cd : ClassData} {sl : Array (Option Value)}
/-- what the class's own `__new__` has to give -/
def NewBack (K : Frag) (C : Addr) (R : Result → Shared → Prop) (r : Result) (s' : Shared) : Prop := match r with
  | .ok (.ret o) => ∃ x ob, o = .ref x ∧ s'.heap.get? x = some ob ∧ ob.cls = .ref C ∧ K.In s'.heap ∧ R (.ok (.ret (.ref x))) s'
  | .ok _ => False
  | .error e => R (.error e) s'
theorem make_new (X : K.In s.heap) (hL : K.lookup C = some ⟨oc, od, .cls cd, sl⟩) (h4 : (sl.toList[4]?).join = some .none) (hm : cd.mro.isEmpty = false)
    (hcall : specialIn K (.ref C) "__call__" = some (some (.builtin "type.__call__"))) (htyp : instIn K (.ref C) (.type "type") = some true)
    (hnew : ∀ (A' : Around) (Q : Value → Shared → Prop) (E : Value → Shared → Prop), Q (.ref fN) { s with toks := s.toks + 1 } → wpAny (model prog w) A' (getAttr (.ref C) "__new__") Q E s)
    (hinit : findIn K (.ref C) "__init__" = some (some (.builtin "object.__init__"))) (hself : mroIn K C (.ref C) = some true) (htop : mroIn K C (.type "object") = some true)
    (h : codeAny (model prog w) (A.under (.builtin "type.__call__" ⟨[.ref C, v], []⟩)) (.call (.ref fN) ⟨[.ref C, v], []⟩) (NewBack K C R) { s with toks := s.toks + 1 }) :
    codeAny (model prog w) A (.call (.ref C) ⟨[v], []⟩) R s := by
  have hC := X _ _ hL
  have call : Looks (model prog w) s.heap (specialOf (.ref C) "__call__") (some (.builtin "type.__call__")) := looks_specialIn X hcall
  have typ : Looks (model prog w) s.heap (isInstance (.ref C) (.type "type")) true := looks_instIn X htyp
  refine codeAny_of_tree ?_
  show wpAny _ _ (callAny (.ref C) _) _ _ _
  refine nd_load hC ?_
  show wpAny _ _ (callAny.viaDunder (.ref C) _) _ _ _
  unfold callAny.viaDunder
  refine wpAny_bind (call.at ?_)
  dsimp only
  rw [tc_bind]
  refine wpAny_bind (wpAny_pure (wpAny_bind (wpAny_pure ?_)))
  refine wpAny_pure (a := Fin.again (.call (.builtin "type.__call__") ⟨[.ref C, v], []⟩)) (And.intro rfl ?_)
  refine codeAny_call_builtin_at (Code.quiet_builtin _ (by decide +kernel)) entry_typeCall (check_slot tc_kind tc_split typ (tc_args _ _ _) ?_)
  unfold Builtin.«type.__call__»
  have hmr : Looks (model prog w) s.heap (mroOf (.ref C)) cd.mro := ((Looks.ld (part := none) hC).andThen .now).andThen .now
  have made : ∀ {h : Heap}, K.In h → Looks (model prog w) h (Bind.madeBy (.ref C)) none := by
    intro h X A Q E s k q
    unfold Bind.madeBy
    have hC := X _ _ hL
    have hm' : Looks (model prog w) h (mroOf (.ref C)) cd.mro := ((Looks.ld (part := none) hC).andThen .now).andThen .now
    refine wpAny_bind (hm' A _ E s k ?_)
    obtain ⟨c, l, hl⟩ : ∃ c l, cd.mro = c :: l := by cases q : cd.mro with | nil => rw [q] at hm; cases hm | cons c l => exact ⟨c, l, rfl⟩
    rw [hl, List.forIn_cons]
    refine wpAny_bind (wpAny_bind (wpAny_bind (wpAny_bind (wpAny_loadPart (k _ _ hC) (wpAny_pure ?_)))))
    dsimp only
    rw [← Array.getElem?_toList, h4]
    exact wpAny_pure (wpAny_pure (wpAny_pure q))
  have md := made X
  dsimp only
  rw [if_neg (show ¬ ((Value.ref C == Value.type "type") = true) from Bool.false_ne_true)]
  show wpAny _ _ (mroOf (.ref C) >>= _) _ _ _
  refine wpAny_bind (hmr.at ?_)
  rw [if_neg (by rw [hm]; exact Bool.false_ne_true)]
  refine wpAny_bind (md.at ?_)
  dsimp only
  refine wpAny_bind (hnew _ _ _ ?_)
  refine wpAny_bind (wpAny_holding (wpAny_call (codeAny_mono h fun r s' z => ?_)))
  rcases r with e | (o | _ | _ | _) <;> first | exact z | exact z.elim | skip
  obtain ⟨x, ob, rfl, hx, hob, X', hR⟩ := z
  have t1 : Looks (model prog w) s'.heap (typeOf (.ref x)) (.ref C) := by
    rw [← hob]
    exact (Looks.ld hx).andThen .now
  have s1 : Looks (model prog w) s'.heap (isSubtype (.ref C) (.ref C)) true := looks_mroIn X' hself
  have i1 := looks_findIn (M := model prog w) X' hinit
  have ii : Looks (model prog w) s'.heap (isInstance (.ref x) (.ref C)) true := t1.andThen s1
  have io : Looks (model prog w) s'.heap (isInstance (.ref x) (.type "object")) true := t1.andThen (looks_mroIn X' htop)
  refine wpAny_bind (ii.here ?_)
  rw [if_neg (by decide)]
  refine wpAny_bind (wpAny_holding ?_)
  unfold callSpecial? specialOf
  refine wpAny_bind (wpAny_bind (t1.here (i1.here ?_)))
  dsimp only
  refine wpAny_holding ?_
  rw [oi_bind]
  refine wpAny_bind (wpAny_pure (wpAny_bind ?_))
  refine wpAny_call ?_
  refine codeAny_call_builtin oi_plain entry_oi (@check_slot (model prog w) _ _ _ "object.__init__" "object" "__init__" (.ref x) [v] [] _ oi_kind oi_split io (by unfold argsOk; kernel_rfl) ?_)
  unfold Builtin.«object.__init__»
  show wpAny _ _ (typeOf (.ref x) >>= _) _ _ _
  refine wpAny_bind (t1.here (wpAny_bind (i1.here (wpAny_bind ((made X').here ?_)))))
  dsimp only
  rw [if_neg (by simp), if_neg (by simp)]
  exact wpAny_pure (wpAny_pure (wpAny_pure hR))
theorem madeBy_none {M : Model} (X : K.In s.heap) (hL : K.lookup C = some ⟨oc, od, .cls cd, sl⟩) (h4 : (sl.toList[4]?).join = some .none) (hm : cd.mro.isEmpty = false) : Looks M s.heap (Bind.madeBy (.ref C)) none := by
  intro A Q E s k q
  unfold Bind.madeBy
  have hC := X _ _ hL
  have hm' : Looks M _ (mroOf (.ref C)) cd.mro := ((Looks.ld (part := none) hC).andThen .now).andThen .now
  refine wpAny_bind (hm' A _ E s k ?_)
  obtain ⟨c, l, hl⟩ : ∃ c l, cd.mro = c :: l := by cases q : cd.mro with | nil => rw [q] at hm; cases hm | cons c l => exact ⟨c, l, rfl⟩
  rw [hl, List.forIn_cons]
  refine wpAny_bind (wpAny_bind (wpAny_bind (wpAny_bind (wpAny_loadPart (k _ _ hC) (wpAny_pure ?_)))))
  dsimp only
  rw [← Array.getElem?_toList, h4]
  exact wpAny_pure (wpAny_pure (wpAny_pure q))
theorem madeBy_object {M : Model} {h : Heap} : Looks M h (Bind.madeBy (.type "object")) (some "object.__new__") := by
  exact Looks.of_pure (madeBy_type (T := "object") (c := .type "object") (tl := []) (id := "object.__new__") (by kernel_rfl) (by rw [typeLookup_type, builtinLookup_eq_fast]; kernel_rfl) (by decide +kernel))
theorem bestBase_object : Slots.bestBase [.type "object"] = pure (.type "object") := by kernel_rfl
theorem staticBase_own {M : Model} (X : K.In s.heap) (hL : K.lookup C = some ⟨oc, od, .cls cd, sl⟩) (h4 : (sl.toList[4]?).join = some .none) (hm : cd.mro = [.ref C, .type "object"]) (hb : cd.bases = [.type "object"]) : Looks M s.heap (Bind.staticBase (.ref C)) (.type "object") := by
  have made := madeBy_none (M := M) X hL h4 (by rw [hm]; rfl)
  intro A Q E s k q
  unfold Bind.staticBase
  have hC := X _ _ hL
  have hm' : Looks M _ (mroOf (.ref C)) cd.mro := ((Looks.ld (part := none) hC).andThen .now).andThen .now
  refine wpAny_bind (hm' A _ E s k ?_)
  rw [hm, List.forIn_cons]
  dsimp only
  refine wpAny_bind (wpAny_bind (wpAny_bind (made A _ E s k ?_)))
  rw [if_neg (by decide)]
  have hcd : Looks M _ (classData C) cd := (Looks.ld (part := none) hC).andThen .now
  refine wpAny_bind (hcd A _ E s k ?_)
  rw [hb, bestBase_object]
  refine wpAny_bind (wpAny_pure (wpAny_pure ?_))
  dsimp only
  rw [List.forIn_cons]
  dsimp only
  refine wpAny_bind (wpAny_bind (madeBy_object A _ E s (fun _ _ e => e) ?_))
  rw [if_pos (by decide)]
  exact wpAny_pure (wpAny_pure (wpAny_pure q))
theorem new_own {h : Heap} {g : Array GenState} {d : Drawn} {t : Nat} {os : OsState} (X : K.In h) (hL : K.lookup C = some ⟨oc, od, .cls cd, sl⟩) (h4 : (sl.toList[4]?).join = some .none) (hm : cd.mro = [.ref C, .type "object"]) (hb : cd.bases = [.type "object"])
    (habs : cd.abstract = false) (hdel : cd.hasDel = false) (htyp : instIn K (.ref C) (.type "type") = some true) (htop : mroIn K C (.type "object") = some true)
    (hq : R (.ok (.ret (.ref (h.objs.size + 1)))) ⟨(h.push emptyDict).push (instObj C h.objs.size), g, d, t, os⟩) :
    codeAny (model prog w) A (.call (.builtin "object.__new__") ⟨[.ref C], []⟩) R ⟨h, g, d, t, os⟩ := by
  have F := PySem.F.objNew
  have hC := X _ _ hL
  have base := staticBase_own (M := model prog w) (s := ⟨h, g, d, t, os⟩) X hL h4 hm hb
  have made := madeBy_object (M := model prog w) (h := h)
  have typ : Looks (model prog w) h (isInstance (.ref C) (.type "type")) true := looks_instIn X htyp
  have top : Looks (model prog w) h (isSubtype (.ref C) (.type "object")) true := looks_mroIn X htop
  refine codeAny_call_builtin_code (Code.quiet_builtin _ F.quiet) ?_
  simp only [checkBuiltinCall, F.kind, F.split, F.row]
  have here : Looks (model prog w) h (Bind.madeHere "object.__new__" (.ref C)) () := base.andThen (made.andThen (Looks.of_pure (by simp only [Option.map_some, bne_self_eq_false, Bool.false_eq_true, if_false])))
  have args : Bind.checkArgs "object.__new__" ⟨.hand, "object.__new__", "__new__", .cls, []⟩ ⟨[.ref C], []⟩ = pure () := by kernel_rfl
  rw [args]
  repeat (first | simp only [bne_self_eq_false, Bool.false_eq_true, if_false] | lk)
  refine codeAny_builtin F.entry ?_
  unfold Builtin.«object.__new__»
  repeat (first | simp only [habs, Bool.false_eq_true, if_false] | lk)
  refine wpAny_load (Heap.get?_push_of_some _ (Heap.get?_push_of_some _ hC)) (wpAny_pure ?_)
  rw [hdel]
  refine wpAny_pure (wpAny_pure ?_)
  show R _ _
  rw [Heap.size_push]
  exact hq
end
end Mine
end
section -- N28
open PySem PySem.W PySem.Calls PyProof.Rows
set_option maxRecDepth 100000
set_option maxHeartbeats 8000000
set_option linter.unusedVariables false
namespace Mine
local macro_rules | `(tactic| walk_at "idle0") => `(tactic| fail)
local macro_rules | `(tactic| k_all) => `(tactic| assumption)
local macro_rules | `(tactic| ktr_enter) => `(tactic| first
  | (refine' code_defG ?k1 ?k2 ?k3 ?k4 ?k5 ?kA ?kF ?kK ?k6 ?k7 ?k8 ?k9 ?kB ?_ ?c2 ?c3 ?c4 ?c5; (case kA => exact rfl); (case kF => exact rfl); (case kK => first | assumption | exact rfl); (case k1 => k_asm); (case k2 => k_asm); (case k3 => k_asm); (case k4 => first | k_asm | exact News.nil); (case k5 => k_asm); (case k6 => k_is); (case k7 => k_is); (case k8 => ktr_room); (case k9 => exact BindsTo.of_eq rfl); (case c5 => decide); (case kB => exact locs rfl); (case c2 => exact rfl); (case c3 => exact rfl); (case c4 => exact rfl))
  | (refine' code_defCG ?k1 ?k2 ?k3 ?k4 ?k5 ?kA ?kF ?kK ?k6 ?k7 ?k8 ?k9 ?kB ?kD ?_ ?c2 ?c3 ?c4; (case kA => exact rfl); (case kF => exact rfl); (case kK => first | assumption | exact rfl); (case k1 => k_asm); (case k2 => k_asm); (case k3 => k_asm); (case k4 => first | k_asm | exact News.nil); (case k5 => k_asm); (case k6 => k_is); (case k7 => k_is); (case k8 => ktr_room); (case k9 => exact BindsTo.of_eq rfl); (case kB => exact rfl); (case kD => decide +kernel); (case c2 => exact rfl); (case c3 => exact rfl); (case c4 => exact rfl)))
local macro_rules | `(tactic| k_room) => `(tactic| (first | ((try simp only [depth_under_make, depth_under_kw, depth_in1, depth_deeper, depth_caller]); decide) | (dsimp only [ktrTop, Around.deeper, Around.in1, Around.mark]; omega) | ((try simp only [depth_under_make, depth_under_kw, depth_in1, depth_deeper, depth_caller]); (try dsimp only [ktrTop, Around.deeper, Around.in1, Around.mark]); omega)))
local macro_rules | `(tactic| k_units) => `(tactic| (first | exact Nat.le_of_ble_eq_true rfl | (dsimp only [ktrTop, Around.deeper, Around.in1, Around.mark]; omega)))
local macro_rules | `(tactic| k_inst) => `(tactic| first | (refine' inst_up1 ?F ?I; (case F => k_asm); (case I => assumption)) | (refine' inst_up2 ?F2 ?F ?I; (case F2 => k_asm); (case F => k_asm); (case I => assumption)))
theorem mkvar_c (w : World) {p : Program} {loose : List Str} {mean : ExcName → Option Value} {mg mb : Str → Option Value}
    {dp un : Nat} {gd : Option (List Code)} {fr : List Env} {base : Heap} {s : Shared} {k : Int} {tk : Tok} {Q E : Value → Shared → Prop}
    (B : Below ⟨none, dp, some fr, gd, un⟩ base fr s.heap) (X : (Mine.hd.heap_39 w.params).In base) (T : Top p loose mean mg mb base) (hd : dp + 10 < recursionLimit) (hu : un + 100 < cLine)
    (hret : ∀ x dv t1 t2 h' tks, (∀ b o, s.heap.get? b = some o → h'.get? b = some o) → W.InstAt h' x (instObj 185 dv) 185 (some (dictOf [⟨PyData.keyHash w.params (Str.ofString "token"), .str (Str.ofString "token") t1, .int k t2⟩] 1)) → s.heap.get? x = none → s.heap.get? dv = none → Q (.ref x) { s with heap := h', toks := tks }) :
    wpAny (model PySem.Challenge.rw_ez0159_01.row.prog w) ⟨none, dp, some fr, gd, un⟩ (call (.ref 185) [.int k tk]) Q E s := by
  have XS := X.keeps B.stays
  have TS := T.keeps B.stays
  refine wpAny_call ?_
  refine' make_new (fN := 161) XS ?hL ?h4 ?hm ?hcall ?htyp ?hnew ?hinit ?hself ?htop ?hz
  case hL => k_is
  case h4 => rfl
  case hm => rfl
  case hcall => k_is
  case htyp => k_is
  case hinit => k_is
  case hself => k_is
  case htop => k_is
  case hnew =>
    intro A' Q E q
    refine' cls_bind (g := .builtin "staticmethod.__get__") (a := .ref 186) (obj := .none) (tp := .ref 185) (mc := .type "type") XS ?hr ?e ?hc
    case hr => k_is
    case e => k_is
    case hc =>
      refine' wpAny_call (sm_get (f := .ref 161) (rest := []) (s := { s with toks := s.toks + 1 }) XS ?hp (handed_on ?hv ?hq))
      case hp => k_is
      case hv => rfl
      case hq => exact q
  case hz =>
    refine' code_defT (A := ((⟨none, dp, some fr, gd, un⟩ : Around).under (.builtin "type.__call__" ⟨[.ref 185, .int k tk], []⟩))) (s := { s with toks := s.toks + 1 }) (fr := fr) (base := base) ⟨rfl, B.stays, B.frames⟩ ?X TS ?ho ?hcd ?hroom ?hb ?hl ?_ ?c1 ?c2 ?c3 ?c4
    case X => exact XS
    case ho => k_is
    case hcd => k_is
    case hroom => k_room
    case hb => exact binds_K (by k_in) rfl (by k_is) rfl rfl rfl
    case hl => exact locs rfl
    case c1 => exact rfl
    case c2 => exact rfl
    case c3 => exact rfl
    case c4 => decide
    intro L1 h1 hL1 F1 B1
    (try dsimp only)
    have N1 : News s.heap L1 h1 [] := News.nil
    (try k_fold)
    k_steps
    obtain ⟨hh, g', d', t', os'⟩ := s
    refine' wpAny_call (new_own (C := 185) (X.keeps B1.stays) ?hL ?h4 ?hm ?hb2 ?habs ?hdel ?htyp ?htop ?hq)
    case hL => k_is
    case h4 => rfl
    case hm => rfl
    case hb2 => rfl
    case habs => rfl
    case hdel => rfl
    case htyp => k_is
    case htop => k_is
    have F2 := (F1.push emptyDict).push (instObj 185 h1.objs.size)
    have N2 := (N1.push F1 emptyDict).push (F1.push _) (instObj 185 h1.objs.size)
    rw [Heap.size_push] at N2
    have F1k := F1.keep
    clear F1 N1
    show wpAny _ _ _ _ _ _
    k_steps
    rename Fr hh L1 _ _ => F9
    rename News hh L1 _ _ => N9
    have up9 := F9.keep
    refine ⟨_, _, rfl, (N9 _ (List.Mem.head _)).1, rfl, XS.keeps up9, ?_⟩
    exact hret _ _ _ _ _ _ up9 (InstAt.of_news N9 (List.Mem.head _) (List.Mem.tail _ (List.Mem.head _))) (N9 _ (List.Mem.head _)).2.2 (N9 _ (List.Mem.tail _ (List.Mem.head _))).2.2

end Mine
end
section -- N27
open PySem PySem.W PySem.Calls PyProof.Rows
set_option maxRecDepth 100000
set_option maxHeartbeats 8000000
set_option linter.unusedVariables false
namespace Mine
local macro_rules | `(tactic| k_all) => `(tactic| assumption)
local macro_rules | `(tactic| ktr_enter) => `(tactic| first
  | (refine' code_defG ?k1 ?k2 ?k3 ?k4 ?k5 ?kA ?kF ?kK ?k6 ?k7 ?k8 ?k9 ?kB ?_ ?c2 ?c3 ?c4 ?c5; (case kA => exact rfl); (case kF => exact rfl); (case kK => first | assumption | exact rfl); (case k1 => k_asm); (case k2 => k_asm); (case k3 => k_asm); (case k4 => first | k_asm | exact News.nil); (case k5 => k_asm); (case k6 => k_is); (case k7 => k_is); (case k8 => ktr_room); (case k9 => exact BindsTo.of_eq rfl); (case c5 => decide); (case kB => exact locs rfl); (case c2 => exact rfl); (case c3 => exact rfl); (case c4 => exact rfl))
  | (refine' code_defCG ?k1 ?k2 ?k3 ?k4 ?k5 ?kA ?kF ?kK ?k6 ?k7 ?k8 ?k9 ?kB ?kD ?_ ?c2 ?c3 ?c4; (case kA => exact rfl); (case kF => exact rfl); (case kK => first | assumption | exact rfl); (case k1 => k_asm); (case k2 => k_asm); (case k3 => k_asm); (case k4 => first | k_asm | exact News.nil); (case k5 => k_asm); (case k6 => k_is); (case k7 => k_is); (case k8 => ktr_room); (case k9 => exact BindsTo.of_eq rfl); (case kB => exact rfl); (case kD => decide +kernel); (case c2 => exact rfl); (case c3 => exact rfl); (case c4 => exact rfl)))
local macro_rules | `(tactic| k_room) => `(tactic| (first | ((try simp only [depth_under_make, depth_under_kw, depth_in1, depth_deeper, depth_caller]); decide) | (dsimp only [ktrTop, Around.deeper, Around.in1, Around.mark]; omega) | ((try simp only [depth_under_make, depth_under_kw, depth_in1, depth_deeper, depth_caller]); (try dsimp only [ktrTop, Around.deeper, Around.in1, Around.mark]); omega)))
local macro_rules | `(tactic| k_units) => `(tactic| (first | exact Nat.le_of_ble_eq_true rfl | (dsimp only [ktrTop, Around.deeper, Around.in1, Around.mark]; omega)))
local macro_rules | `(tactic| k_inst) => `(tactic| first | (refine' inst_up1 ?F ?I; (case F => k_asm); (case I => assumption)) | (refine' inst_up2 ?F2 ?F ?I; (case F2 => k_asm); (case F => k_asm); (case I => assumption)))
local macro_rules | `(tactic| walk_at "eval ListComp") => `(tactic| (k_here; refine of_here ?_))
local macro_rules | `(tactic| walk_at "eval ListComp Call") => `(tactic| (k_here; refine of_here ?_))
local macro_rules | `(tactic| walk_at "exec Assign ListComp") => `(tactic| (k_here; refine of_here ?_))
local macro_rules | `(tactic| walk_at "execs cons") => `(tactic| (k_here; (with_reducible show wpAny _ _ (execs (Stmt.For _ _ _ _ _ :: _) _) _ _ _); refine of_here ?_))
local macro_rules | `(tactic| walk_at "eval Name") => `(tactic| (k_here; k_inBlock; (with_unfolding_all refine ldVarK (by assumption) (by assumption) ?_)))
/-- the variables made so far -/
def NamesAt (w : World) (h : Heap) (O : List Addr) (zs : List Value) : Prop := ∀ (j : Nat) (z : Value), zs[j]? = some z → ∃ x dv t1 t2, z = .ref x ∧ x ∉ O ∧ dv ∉ O ∧ W.InstAt h x (instObj 185 dv) 185 (some (dictOf [⟨PyData.keyHash w.params (Str.ofString "token"), .str (Str.ofString "token") t1, .int (j : Nat) t2⟩] 1))
theorem len5 {α : Type} : ∀ {l : List α}, l.length = 5 → ∃ a b c d e, l = [a, b, c, d, e]
  | [a, b, c, d, e], _ => ⟨a, b, c, d, e, rfl⟩
/-- what stands fast in the law: cells, names, kinds -/
structure LawFix (w : World) (h₀ : Heap) (L dw nl kl sd : Addr) (nv : Int → Addr) (hA : Heap) : Prop where
  c1 : ∃ o, hA.get? (L + 1) = some o ∧ o.data = .cell (some (.ref nl))
  c2 : ∃ o, hA.get? (L + 1 + 1) = some o ∧ o.data = .cell (some (.ref sd))
  nms : hA.IsList nl #[.ref (nv 0), .ref (nv 1), .ref (nv 2), .ref (nv 3), .ref (nv 4)]
  kds : ∃ u1 u2 u3 u4, hA.IsList kl #[.str (Str.ofString "row") u1, .str (Str.ofString "list") u2, .str (Str.ofString "dict") u3, .str (Str.ofString "row") u4]
  var : ∀ i, 0 ≤ i → i < 5 → ∃ dv t1 t2, nv i ∉ [L, dw, sd] ∧ dv ∉ [L, dw, sd] ∧ W.InstAt hA (nv i) (instObj 185 dv) 185 (some (dictOf [⟨PyData.keyHash w.params (Str.ofString "token"), .str (Str.ofString "token") t1, .int i t2⟩] 1))
  ap : ∀ b ∈ [L + 1, L + 1 + 1, nl, kl], b ∉ [L, dw, sd]
  zz : ∀ b ∈ [L + 1, L + 1 + 1, nl, kl, dw, sd], h₀.get? b = none
  d1 : dw ≠ L
  d2 : sd ≠ L
  d3 : sd ≠ dw
  lo : (sd == sysModules) = false
theorem law_head (w : World) {p : Program} {loose : List Str} {mean : ExcName → Option Value} {mg mb : Str → Option Value} {h₀ : Heap} {L fa scr : Addr} {cd : Value} {s : Shared} {oc1 oc2 : Obj} {Q : Flow → Shared → Prop} {E : Value → Shared → Prop}
    {oc : Value} {od : Option Addr} {fd : FuncData} {osl : Array (Option Value)} {body : List Stmt} (h1 : (Mine.hd.heap_39 w.params).lookup 278 = some ⟨oc, od, .func fd, osl⟩) (h2 : fd.body = .stmts body)
    (B : Below callerA h₀ [] h₀) (F : Fr h₀ L s.heap (fun y => if y = Str.ofString "script" then some (.ref scr) else none)) (N : News h₀ L s.heap [(L + 1 + 1, oc2), (L + 1, oc1)]) (d1 : oc1.data = .cell none) (d2 : oc2.data = .cell none) (X : (Mine.hd.heap_39 w.params).In h₀) (T : Top p loose mean mg mb h₀)
    (hk : ∀ (h : Heap) (tk : Nat) (m : Str → Option Value) (dw nl kl sd : Addr) (nv : Int → Addr) (ow : Obj), Fr h₀ L h m → m (Str.ofString "w") = some (.ref dw) → m (Str.ofString "kinds") = some (.ref kl) → LawFix w h₀ L dw nl kl sd nv h → h.get? dw = some ow → WDict w scr ow → h.DictOf (intKind PySem.Challenge.rw_ez0159_01.row.prog w) sd [] →
      wpAny (model PySem.Challenge.rw_ez0159_01.row.prog w) (callerA.deeper (envOfC (Str.ofString "law") fd.scope L fa cd)) (execs (body.drop 4) (envOfC (Str.ofString "law") fd.scope L fa cd)) Q E { s with heap := h, toks := tk }) :
    wpAny (model PySem.Challenge.rw_ez0159_01.row.prog w) (callerA.deeper (envOfC (Str.ofString "law") fd.scope L fa cd)) (execs body (envOfC (Str.ofString "law") fd.scope L fa cd)) Q E s := by
  refine' with_fd h1 ?ho ?_
  case ho => k_is
  intro e
  subst e
  clear h1
  cases h2
  refine (?_ : wpAny _ (callerA.deeper (envOfC _ _ _ _ _)) (execs (_ :: _) (envOfC _ _ _ _ _)) _ _ _)
  have lt1 : L + 1 < s.heap.objs.size := Heap.lt_size (N _ (List.Mem.tail _ (List.Mem.head _))).1
  have lt2 : L + 1 + 1 < s.heap.objs.size := Heap.lt_size (N _ (List.Mem.head _)).1
  k_steps
  rename Obj.IsDictOf _ _ _ => hdw
  refine (?_ : wpAny _ _ (eval _ _) _ _ _)
  refine' comp_rangeT ?hh ?hclos ?hcell ?hkind ?hnames ?hx ?h ?hs
  case hh => with_unfolding_all rfl
  case hclos => with_unfolding_all rfl
  case hcell => decide
  case hkind => with_unfolding_all rfl
  case hnames => decide
  case hx => with_unfolding_all rfl
  case hs => intro _; with_unfolding_all rfl
  refine wpAny_here ?_
  k_steps
  unfold Here
  rename Fr h₀ L _ _ => Fz
  rename News h₀ L _ _ => Nz
  rename IsRange _ _ _ _ _ _ _ _ => Rz
  obtain ⟨mm, hmm, hmd⟩ : ∃ mm, Fr h₀ L _ mm ∧ mm = fun y => if y = Str.ofString "w" then some (.ref s.heap.objs.size) else if y = Str.ofString "script" then some (.ref scr) else none := ⟨_, Fz, rfl⟩
  have lL1 := Fz.ns.lt
  refine ⟨_, _, _, _, _, 5, [L], fun O ws zs h => L ∉ O ∧ h.Ns L mm ∧ zs.length = ws.length ∧ NamesAt w h (L :: s.heap.objs.size :: (L + 1 + 1) :: (L + 1) :: O) zs, rfl, Rz, (by rfl), ?_, ?_, ?_, ?_, CTurn.toT ?_, ?_⟩
  · omega
  · intro b hb
    rw [List.mem_singleton.mp hb]; exact lL1
  · rintro O ws zs h h' ⟨n, a1, a2, a3⟩ k
    refine ⟨n, a1.at' fun o e => k L o n e, a2, fun j z hz => ?_⟩
    obtain ⟨x, dv, t1, t2, e, n1, n2, I⟩ := a3 j z hz
    exact ⟨x, dv, t1, t2, e, n1, n2, inst_keepX I k (fun q => n1 (by simp [q])) (fun q => n2 (by simp [q]))⟩
  · intro O hO
    exact ⟨fun q => Nat.lt_irrefl _ (Nat.lt_of_lt_of_le lL1 (hO _ q)), hmm.ns, rfl, fun j z hz => by simp at hz⟩
  · intro O C v ws zs s₃ m₃ E' hO hHas hC hlt hP hn hm hj3 hk4 e1 e2 e3
    obtain ⟨nL, a1, a2, a3⟩ := hj3
    obtain ⟨tv, rfl⟩ := hP
    have F3 := fr_from_ns hmm hk4 a1
    have N3 := news_kept Nz hk4
    clear Fz Nz
    refine wpAny_here ?_
    k_steps
    refine (?_ : wpAny _ _ (call _ _) _ _ _)
    refine' mkvar_c w (pushX B F3 rfl rfl : Below (⟨none, callerA.depth + 1, some (_ :: []), _, _⟩ : Around) _ _ _) X T ?gd ?ge (fun x dv t1 t2 h' tks up I zx zdv => ?_)
    case gd => decide
    case ge => decide
    show _ ∧ _
    refine ⟨⟨_, _, rfl, KeepX.of up⟩, nL, a1.at' fun o e => up _ _ e, by simp [a2], fun j z hz => ?_⟩
    rcases Nat.lt_trichotomy j zs.length with q | q | q
    · rw [List.getElem?_append_left q] at hz
      obtain ⟨x', dv', t1', t2', e, n1, n2, I'⟩ := a3 j z hz
      exact ⟨x', dv', t1', t2', e, n1, n2, inst_keep I' up⟩
    · subst q
      simp at hz
      subst hz
      have nO : ∀ y, s₃.heap.get? y = none → y ∉ L :: s.heap.objs.size :: (L + 1 + 1) :: (L + 1) :: O := fun y e q => by
        rcases List.mem_cons.mp q with rfl | q
        · obtain ⟨o, _, _, e', _⟩ := a1; rw [e] at e'; cases e'
        rcases List.mem_cons.mp q with rfl | q
        · have := (N3 _ (List.Mem.head _)).1; rw [e] at this; cases this
        rcases List.mem_cons.mp q with rfl | q
        · have := (N3 _ (List.Mem.tail _ (List.Mem.head _))).1; rw [e] at this; cases this
        rcases List.mem_cons.mp q with rfl | q
        · have := (N3 _ (List.Mem.tail _ (List.Mem.tail _ (List.Mem.head _)))).1; rw [e] at this; cases this
        · obtain ⟨o, e'⟩ := hHas _ q; rw [e] at e'; cases e'
      exact ⟨x, dv, t1, t2, rfl, nO _ zx, nO _ zdv, by rw [a2]; exact I⟩
    · rw [List.getElem?_eq_none (by simp; omega)] at hz; cases hz
  · intro O D h2 tk2 ws zs hO2 hD2 hl2 hlen2 hP2 hj2 hk4
    obtain ⟨nL, a1, a2, a3⟩ := hj2
    have F3 := fr_from_ns hmm hk4 a1
    have N3' := news_kept Nz hk4
    obtain ⟨rest, hrest, hex, hcov⟩ := coverage h₀ h2 L [s.heap.objs.size, L + 1 + 1, L + 1]
    have N3 := news_append N3' hrest
    simp only [List.cons_append, List.nil_append] at N3
    have FK := fun h'' m' (F' : Fr h₀ L h'' m') N' => cov_keep (h' := h'') F3 hcov F' N'
    have zD : ∀ b ∈ [L, s.heap.objs.size, L + 1 + 1, L + 1], b ≠ D := fun b hb q => by
      have hs := hO2 D hD2
      have : b < D := by
        simp at hb
        rcases hb with rfl | rfl | rfl | rfl
        · exact Nat.lt_of_lt_of_le lL1 hs
        · exact Nat.lt_of_lt_of_le (Heap.lt_size (Nz _ (List.Mem.head _)).1) hs
        · exact Nat.lt_of_lt_of_le (Heap.lt_size (Nz _ (List.Mem.tail _ (List.Mem.head _))).1) hs
        · exact Nat.lt_of_lt_of_le (Heap.lt_size (Nz _ (List.Mem.tail _ (List.Mem.tail _ (List.Mem.head _)))).1) hs
      rw [q] at this
      exact Nat.lt_irrefl _ this
    have hne1 : ∀ p ∈ rest, p.1 ≠ L + 1 := fun p hp => rest_ne hex (by simp) p hp
    have hne2 : ∀ p ∈ rest, p.1 ≠ L + 1 + 1 := fun p hp => rest_ne hex (by simp) p hp
    have hD0 : h₀.get? D = none := g_none hmm (hO2 D hD2)
    rw [hmd] at F3
    clear Fz Nz N3' hrest
    k_steps
    unfold Here
    rename_i _ oc1' dc1 _ kl _ l1a _ sd _ osd lo' _ _ hi' _ l1b hh oc2' F9 N9 dc2
    have K9 := FK _ _ F9 (news_sub N9 fun q hq => List.mem_cons_of_mem _ (List.mem_cons_of_mem _ (List.mem_cons_of_mem _ (List.mem_cons_of_mem _ (List.mem_cons_of_mem _ hq)))))
    have nsd : ∀ y o, h2.get? y = some o → y ∉ [L, s.heap.objs.size, L + 1 + 1, L + 1] → y ≠ sd := fun y o e n q => by
      subst q
      cases z : h₀.get? y with
      | some _ => have := (N9 _ (List.Mem.head _)).2.2; rw [z] at this; cases this
      | none =>
        simp only [List.mem_cons, not_or] at n
        have := hcov y o e n.1 (by simp [n.2]) z
        exact Nat.lt_irrefl _ (ktn_ltOf l1b.2.2.2.2 _ this)
    obtain ⟨nD, hD⟩ := hl2
    obtain ⟨z0, z1, z2, z3, z4, rfl⟩ := len5 (a2.trans hlen2)
    obtain ⟨x0, v0, t01, t02, rfl, n0, m0, I0⟩ := a3 0 z0 rfl
    obtain ⟨x1, v1, t11, t12, rfl, n1, m1, I1⟩ := a3 1 z1 rfl
    obtain ⟨x2, v2, t21, t22, rfl, n2, m2, I2⟩ := a3 2 z2 rfl
    obtain ⟨x3, v3, t31, t32, rfl, n3, m3, I3⟩ := a3 3 z3 rfl
    obtain ⟨x4, v4, t41, t42, rfl, n4, m4, I4⟩ := a3 4 z4 rfl
    have cut : ∀ y, y ∉ L :: s.heap.objs.size :: (L + 1 + 1) :: (L + 1) :: O → y ∉ [L, s.heap.objs.size, L + 1 + 1, L + 1] := fun y n q => n (by simp at q ⊢; grind)
    have nx : ∀ y o, h2.get? y = some o → y ∉ L :: s.heap.objs.size :: (L + 1 + 1) :: (L + 1) :: O → y ∉ [L, s.heap.objs.size, sd] := fun y o e n q => by
      have n' := cut y n
      have := nsd y o e n'
      simp at q n'
      grind
    have vv : ∀ (i : Int) (x v : Addr) (t1 t2 : Tok), x ∉ L :: s.heap.objs.size :: (L + 1 + 1) :: (L + 1) :: O → v ∉ L :: s.heap.objs.size :: (L + 1 + 1) :: (L + 1) :: O → W.InstAt h2 x (instObj 185 v) 185 (some (dictOf [⟨PyData.keyHash w.params (Str.ofString "token"), .str (Str.ofString "token") t1, .int i t2⟩] 1)) →
        ∃ dv t1 t2, x ∉ [L, s.heap.objs.size, sd] ∧ dv ∉ [L, s.heap.objs.size, sd] ∧ W.InstAt hh x (instObj 185 dv) 185 (some (dictOf [⟨PyData.keyHash w.params (Str.ofString "token"), .str (Str.ofString "token") t1, .int i t2⟩] 1)) := fun i x v t1 t2 n m I => by
      have dd : h2.get? v = some _ := I.dict
      exact ⟨v, t1, t2, nx _ _ I.at_ n, nx _ _ dd m, inst_keepX I K9 (by have := cut x n; simpa using this) (by have := cut v m; simpa using this)⟩
    have hD9 : hh.get? D = some _ := K9 _ _ (fun q => zD D (by simpa using q) rfl) hD
    have nDs : D ≠ sd := nsd D _ hD (fun q => zD D q rfl)
    have zc1 := N9 _ (List.Mem.tail _ (List.Mem.tail _ (List.Mem.tail _ (List.Mem.tail _ (List.Mem.head _)))))
    have zc2 := N9 _ (List.Mem.tail _ (List.Mem.tail _ (List.Mem.tail _ (List.Mem.head _))))
    have zdw := N9 _ (List.Mem.tail _ (List.Mem.tail _ (List.Mem.head _)))
    have zkl := N9 _ (List.Mem.tail _ (List.Mem.head _))
    have zsd := N9 _ (List.Mem.head _)
    refine hk hh _ _ s.heap.objs.size D kl sd (fun i => if i = 0 then x0 else if i = 1 then x1 else if i = 2 then x2 else if i = 3 then x3 else x4) _ F9 rfl rfl
      ⟨⟨_, zc1.1, dc1⟩, ⟨_, zc2.1, dc2⟩, ⟨_, hD9, rfl, nD, rfl⟩, ⟨_, _, _, _, ⟨_, zkl.1, rfl, 0, rfl⟩⟩, fun i h0 h5 => ?_, ?_, ?_, zdw.2.1, zsd.2.1, Nat.ne_of_gt l1b.2.1, lo'⟩ zdw.1 ⟨0, 11, _, _, by decide, by decide, by decide, hdw⟩ (Heap.dictOf_iff.mpr ⟨_, zsd.1, hi'⟩)
    · have c : i = 0 ∨ i = 1 ∨ i = 2 ∨ i = 3 ∨ i = 4 := by omega
      rcases c with rfl | rfl | rfl | rfl | rfl
      · exact vv _ _ _ _ _ n0 m0 I0
      · exact vv _ _ _ _ _ n1 m1 I1
      · exact vv _ _ _ _ _ n2 m2 I2
      · exact vv _ _ _ _ _ n3 m3 I3
      · exact vv _ _ _ _ _ n4 m4 I4
    · intro b hb q
      have e1 := zc1.2.1
      have e2 := zc2.2.1
      have e3 := zkl.2.1
      have e4 := zD L (by simp)
      have e5 := zD s.heap.objs.size (by simp)
      have f1 := l1b.1
      have f2 := l1b.2.2.1
      have f3 := l1b.2.2.2.1
      have f4 := l1a.1
      simp only [List.mem_cons, List.not_mem_nil, or_false] at hb q
      rcases hb with rfl | rfl | rfl | rfl <;> rcases q with q | q | q
      · exact e1 q
      · exact Nat.ne_of_lt lt1 q
      · exact Nat.ne_of_lt f3 q
      · exact e2 q
      · exact Nat.ne_of_lt lt2 q
      · exact Nat.ne_of_lt f2 q
      · exact e4 q.symm
      · exact e5 q.symm
      · exact nDs q
      · exact e3 q
      · exact Nat.ne_of_gt f4 q
      · exact Nat.ne_of_lt f1 q
    · intro b hb
      simp only [List.mem_cons, List.not_mem_nil, or_false] at hb
      rcases hb with rfl | rfl | rfl | rfl | rfl | rfl
      · exact zc1.2.2
      · exact zc2.2.2
      · exact hD0
      · exact zkl.2.2
      · exact zdw.2.2
      · exact zsd.2.2

end Mine
end
section -- N2
open PySem PySem.W PySem.Calls PyProof.Rows
set_option maxRecDepth 100000
set_option maxHeartbeats 8000000
set_option linter.unusedVariables false
namespace Mine
local macro_rules | `(tactic| walk_at "idle0") => `(tactic| fail)
local macro_rules | `(tactic| k_all) => `(tactic| assumption)
local macro_rules | `(tactic| ktr_enter) => `(tactic| first
  | (refine' code_defG ?k1 ?k2 ?k3 ?k4 ?k5 ?kA ?kF ?kK ?k6 ?k7 ?k8 ?k9 ?kB ?_ ?c2 ?c3 ?c4 ?c5; (case kA => exact rfl); (case kF => exact rfl); (case kK => first | assumption | exact rfl); (case k1 => k_asm); (case k2 => k_asm); (case k3 => k_asm); (case k4 => first | k_asm | exact News.nil); (case k5 => k_asm); (case k6 => k_is); (case k7 => k_is); (case k8 => ktr_room); (case k9 => exact BindsTo.of_eq rfl); (case c5 => decide); (case kB => exact locs rfl); (case c2 => exact rfl); (case c3 => exact rfl); (case c4 => exact rfl))
  | (refine' code_defCG ?k1 ?k2 ?k3 ?k4 ?k5 ?kA ?kF ?kK ?k6 ?k7 ?k8 ?k9 ?kB ?kD ?_ ?c2 ?c3 ?c4; (case kA => exact rfl); (case kF => exact rfl); (case kK => first | assumption | exact rfl); (case k1 => k_asm); (case k2 => k_asm); (case k3 => k_asm); (case k4 => first | k_asm | exact News.nil); (case k5 => k_asm); (case k6 => k_is); (case k7 => k_is); (case k8 => ktr_room); (case k9 => exact BindsTo.of_eq rfl); (case kB => exact rfl); (case kD => decide +kernel); (case c2 => exact rfl); (case c3 => exact rfl); (case c4 => exact rfl)))
local macro_rules | `(tactic| walk_at "call ref") => `(tactic| (k_here; (with_reducible show wpAny _ _ (call (Value.ref 241) _) _ _ _); k_dflt (refine' next_use _ ?B ?F ?X ?N ?T ?k ?l ?i ?n ?W ?U ?m ?d ?u ?_; (case B => k_asm); (case F => k_asm); (case X => k_asm); (case N => k_asm); (case T => k_asm); (case k => first | assumption | exact rfl); (case l => assumption); (case i => assumption); (case n => assumption); (case W => assumption); (case U => k_updF); (case m => first | decide | omega | (simp; done)); (case d => (simp only [recursionLimit] at *; omega)); (case u => (simp only [cLine] at *; omega))); intro r' tk' ow' h' tks' F' N' W' a' b' k'; (try dsimp only at N')))
theorem kinds_item {w : World} {A : Around} {E : Value → Shared → Prop} {s : Shared} {value slice : PySem.Expr} {kl : Addr} {u1 u2 u3 u4 : Tok} {k : Int} {u : Tok} {Q : Value → Shared → Prop}
    (hkl : s.heap.IsList kl #[.str (Str.ofString "row") u1, .str (Str.ofString "list") u2, .str (Str.ofString "dict") u3, .str (Str.ofString "row") u4]) (h0 : 0 ≤ k) (h1 : k < 4) (h : ∀ kd t, Q (.str (Kd.nm kd) t) s)
    (hs : subscripted slice false (.ref kl) (.int k u) = operate [.ref kl, .int k u] (getItem (.ref kl) (.int k u)) := by with_unfolding_all rfl) :
    wpAny (model PySem.Challenge.rw_ez0159_01.row.prog w) A (subscriptTail value slice (.ref kl) (.int k u)) Q E s := by
  have c : k = 0 ∨ k = 1 ∨ k = 2 ∨ k = 3 := by omega
  rcases c with rfl | rfl | rfl | rfl
  · exact tail_any hkl.typeIs slot_list_getitem.lookup (wpAny_getItem_list hkl h0 (by omega) rfl (h .row u1)) hs
  · exact tail_any hkl.typeIs slot_list_getitem.lookup (wpAny_getItem_list hkl h0 (by omega) rfl (h .lst u2)) hs
  · exact tail_any hkl.typeIs slot_list_getitem.lookup (wpAny_getItem_list hkl h0 (by omega) rfl (h .dct u3)) hs
  · exact tail_any hkl.typeIs slot_list_getitem.lookup (wpAny_getItem_list hkl h0 (by omega) rfl (h .row u4)) hs
local macro_rules | `(tactic| walk_at "call ref") => `(tactic| (k_here; (with_reducible show wpAny _ _ (call (Value.ref 246) _) _ _ _); refine of_here ?_))
local macro_rules | `(tactic| walk_at "subscriptTail") => `(tactic| (k_here; (with_unfolding_all refine' kinds_item (isList_keep ?F ?l) ?a ?b ?_; (case F => k_asm); (case l => assumption); (case a => assumption); (case b => assumption)); intro kd' tkd'))
local macro_rules | `(tactic| walk_at "eval ListComp") => `(tactic| (k_here; (refine' comp_rangeT ?hh ?hclos ?hcell ?hkind ?hnames ?hx ?h ?hs; (case hh => with_unfolding_all rfl); (case hclos => with_unfolding_all rfl); (case hcell => decide); (case hkind => with_unfolding_all rfl); (case hnames => decide); (case hx => with_unfolding_all rfl); (case hs => intro _; with_unfolding_all rfl); (refine wpAny_here ?_))))
local macro_rules | `(tactic| walk_at "eval Name") => `(tactic| (k_here; k_inBlock; first | (with_unfolding_all refine ldVarK (by assumption) (by assumption) ?_) | (with_unfolding_all refine ldCellK rfl ⟨_, News.get (by k_asm) (by k_mem), by assumption⟩ ?_)))
theorem term_c (w : World) {p : Program} {loose : List Str} {mean : ExcName → Option Value} {mg mb : Str → Option Value} {sl dw kl : Addr} {vs : List Value} {ns : List Int} : ∀ (d : Nat)
    {dp un : Nat} {gd : Option (List Code)} {cn : Str} {cs : Scope} {a : Addr} {ccd : Value} {cl : List (Str × Addr)} {outer : List Env} {A₀ : Around} {base h₀ : Heap} {L : Addr} {m : Str → Option Value} {s : Shared}
    {ow : Obj} {tk u1 u2 u3 u4 : Tok} {Xs : List Addr} {Q E : Value → Shared → Prop}
    (B : Below A₀ base outer h₀) (F : Fr h₀ L s.heap m) (X : (Mine.hd.heap_39 w.params).In h₀) (N : News h₀ L s.heap [(dw, ow)]) (T : Top p loose mean mg mb h₀) (hk : cs.kind = .function)
    (hl : base.IsList sl vs.toArray) (hI : IntsAre vs ns) (hlen : ns.length ≤ 63)
    (hkl : s.heap.IsList kl #[.str (Str.ofString "row") u1, .str (Str.ofString "list") u2, .str (Str.ofString "dict") u3, .str (Str.ofString "row") u4]) (hkd : kl ≠ dw)
    (hW : WDict w sl ow) (hX : Has s.heap Xs) (hd : dp + d + 4 < recursionLimit) (hu : un + 20 * d + 20 < cLine)
    (hret : ∀ t r ow' h' tks, Fr h₀ L h' m → News h₀ L h' [(dw, ow')] → WDict w sl ow' → KeepX [dw] s.heap h' → TmAt h' Xs t r → t.depth ≤ d → Wf 0 4 t → Q r { s with heap := h', toks := tks }),
    wpAny (model PySem.Challenge.rw_ez0159_01.row.prog w) (ktrTop dp un gd cn cs L a ccd cl outer) (call (.ref 246) [.ref dw, .int (d : Int) tk, .ref kl]) Q E s := by
  intro d
  induction d with
  | zero =>
    intro dp un gd cn cs a ccd cl outer A₀ base h₀ L m s ow tk u1 u2 u3 u4 Xs Q E B F X N T hk hl hI hlen hkl hkd hW hX hd hu hret
    refine wpAny_call ?_
    k_dflt ktr_enter
    intro g L1 h1 tk1 cells FG F1 N1 Y1 B1 X1 T1 lt1 G1
    (try k_lt lt1)
    k_cells Y1
    (try simp only [List.cons_append, List.nil_append] at N1)
    (try dsimp only)
    k_lift B1
    (try k_fold)
    k_steps
    · refine' hret (.num ?_) _ _ _ _ (by assumption) (news_sub (by assumption) (fun q hq => by rw [List.mem_singleton.mp hq]; k_mem)) (by assumption) (gkeep G1 (by assumption)) ?h (Nat.le_refl _) trivial
      case h =>
       have nD := new_notin hX G1 (by assumption) (List.Mem.head _) (nin1 (by k_ne))
       exact ⟨_, _, _, rfl, nD, News.isTup (by assumption) (List.Mem.head _)⟩
    · refine' hret (.var ?_) _ _ _ _ (by assumption) (news_sub (by assumption) (fun q hq => by rw [List.mem_singleton.mp hq]; k_mem)) (by assumption) (gkeep G1 (by assumption)) ?h (Nat.le_refl _) ⟨?h1, ?h2⟩
      case h =>
       have nD := new_notin hX G1 (by assumption) (List.Mem.head _) (nin1 (by k_ne))
       exact ⟨_, _, _, rfl, nD, News.isTup (by assumption) (List.Mem.head _)⟩
      all_goals assumption
  | succ d ih =>
    intro dp un gd cn cs a ccd cl outer A₀ base h₀ L m s ow tk u1 u2 u3 u4 Xs Q E B F X N T hk hl hI hlen hkl hkd hW hX hd hu hret
    refine wpAny_call ?_
    k_dflt ktr_enter
    intro g L1 h1 tk1 cells FG F1 N1 Y1 B1 X1 T1 lt1 G1
    (try k_lt lt1)
    k_cells Y1
    (try simp only [List.cons_append, List.nil_append] at N1)
    (try dsimp only)
    k_lift B1
    have hkl1 : g.IsList kl _ := hkl.at fun o e => G1 kl o e (by simpa using hkd)
    (try k_fold)
    k_steps
    · exfalso; omega
    · refine' hret (.num ?_) _ _ _ _ (by assumption) (news_sub (by assumption) (fun q hq => by rw [List.mem_singleton.mp hq]; k_mem)) (by assumption) (gkeep G1 (by assumption)) ?g (Nat.zero_le _) trivial
      case g =>
       have nD := new_notin hX G1 (by assumption) (List.Mem.head _) (nin1 (by k_ne))
       exact ⟨_, _, _, rfl, nD, News.isTup (by assumption) (List.Mem.head _)⟩
    · refine' hret (.var ?_) _ _ _ _ (by assumption) (news_sub (by assumption) (fun q hq => by rw [List.mem_singleton.mp hq]; k_mem)) (by assumption) (gkeep G1 (by assumption)) ?g (Nat.zero_le _) ⟨?g1, ?g2⟩
      case g =>
       have nD := new_notin hX G1 (by assumption) (List.Mem.head _) (nin1 (by k_ne))
       exact ⟨_, _, _, rfl, nD, News.isTup (by assumption) (List.Mem.head _)⟩
      all_goals assumption
    · unfold Here
      rename Fr g L1 _ _ => Fz
      rename News g L1 _ _ => Nz
      rename IsRange _ _ _ _ _ _ _ _ => Rz
      rename WDict w sl _ => Wz
      have gdw := (Nz _ (List.mem_cons_of_mem _ (List.mem_cons_of_mem _ (List.mem_cons_of_mem _ (List.Mem.head _)))))
      refine ⟨_, _, _, _, _, Int.toNat _, [dw], fun O vs ys h => dw ∉ O ∧ ∃ ts ow', TmsAt h (O ++ L1 :: dw :: Xs) ts ys ∧ ts.length = vs.length ∧ Tm.depths ts ≤ d ∧ Wfs 0 4 ts ∧ h.get? dw = some ow' ∧ WDict w sl ow', rfl, Rz, (Int.toNat_of_nonneg (by assumption)).symm, ?_, ?_, ?_, ?_, CTurn.toT ?_, ?_⟩
      · omega
      · intro b hb
        rw [List.mem_singleton.mp hb]; exact Heap.lt_size gdw.1
      · rintro O vs ys h h' ⟨n, ts, ow9, a1, a2, a3, a4, a5, a6⟩ k
        exact ⟨n, ts, ow9, TmsAt.keep (k.mono fun b hb => List.mem_append_left _ hb) ts a1, a2, a3, a4, k dw ow9 n a5, a6⟩
      · intro O hO
        exact ⟨fun q => Nat.lt_irrefl _ (Nat.lt_of_lt_of_le (Heap.lt_size gdw.1) (hO _ q)), [], _, rfl, rfl, Nat.zero_le _, trivial, gdw.1, Wz⟩
      · intro O C v vs ys s₃ m₃ E' hO hHas hC hlt hP hn hm hj hk e1 e2 e3
        obtain ⟨ndw, ts, ow3, a1, a2, a3, a4, a5, a6⟩ := hj
        have F3 := fr_kept Fz Nz hk (fun b hb => by rw [List.mem_singleton.mp hb]; exact ⟨_, by k_mem⟩)
        have N3 := news_turned Nz (by k_updF) (news_cons a5 gdw.2.1 gdw.2.2 News.nil) hk
        (try dsimp only at N3)
        clear Fz Nz
        k_steps
        have ed : ((d + 1 : Nat) : Int) - 1 = (d : Int) := by omega
        show wpAny _ _ _ _ _ _
        rw [ed]
        obtain ⟨oL, hoL⟩ := has_frame F3
        refine ih B1 F3 X1 (news_cons a5 gdw.2.1 gdw.2.2 News.nil) T1 rfl hl hI hlen (isList_keep F3 hkl1) hkd a6 (has_append hHas (has_cons hoL (has_cons a5 (has_kept hX G1 F3 (has_one a5))))) (by dsimp only [ktrTop]; omega) (by dsimp only [ktrTop]; omega) fun t r ow' h' tks F9 N9 W9 K9 TA dpt wf => ?_
        refine ⟨⟨h', tks, rfl, K9⟩, ndw, ts ++ [t], ow', TmsAt.snoc (TmsAt.keep (K9.mono fun b hb => ?_) ts a1) TA, by simp [a2], ?_, wfs_snoc wf a4, (N9 _ (List.Mem.head _)).1, W9⟩
        · rw [List.mem_singleton.mp hb]; simp
        · rw [depths_snoc]; omega
      · intro O D h' tk vs ys hO hD hl' hlen' hP hj hk
        obtain ⟨ndw, ts, ow3, a1, a2, a3, a4, a5, a6⟩ := hj
        have F3 := fr_kept Fz Nz hk (fun b hb => by rw [List.mem_singleton.mp hb]; exact ⟨_, by k_mem⟩)
        obtain ⟨rest, Nr, _, cov⟩ := coverage g h' L1 []
        have nDX : D ∉ Xs := has_notin (has_kept hX G1 Fz (has_one gdw.1)) (hO D hD)
        have nDL : D ≠ L1 := fun q => Nat.lt_irrefl _ (Nat.lt_of_lt_of_le (q ▸ Fz.ns.lt) (hO D hD))
        have hts : ts.length ≤ 3 := by omega
        have Nr2 := news_cons a5 gdw.2.1 gdw.2.2 Nr
        clear Nr
        have mk := fun h'' m' (Fz : Fr g L1 h'' m') (Nz : News g L1 h'' rest) => cov_keep F3 cov Fz Nz
        clear Fz Nz
        k_steps
        rename Fr g L1 _ _ => Fz
        rename News g L1 _ _ => Nz
        rename Fr h₀ L _ _ => kFz
        rename News h₀ L _ _ => kNz
        have K := mk _ _ Fz (news_sub Nz fun q hq => List.mem_cons_of_mem _ (List.mem_cons_of_mem _ hq))
        refine' hret (.node _ ts) _ _ _ _ kFz (news_sub kNz (fun q hq => by rw [List.mem_singleton.mp hq]; exact List.mem_cons_of_mem _ (List.Mem.head _))) a6 (gkeep G1 Fz) ⟨_, _, _, ys, rfl, new_notin hX G1 Nz (List.Mem.head _) (nin1 (by k_ne)), nDX, News.isTup Nz (List.Mem.head _), (hl'.isList).at (fun o => K D o (by simpa using nDL)), TmsAt.setX (fun b o n _ q => n (by simp [q])) ts (TmsAt.keep (K.mono fun b hb => by rw [List.mem_singleton.mp hb]; simp) ts a1)⟩ ?_ ⟨hts, a4⟩
        simp only [Tm.depth]; omega

end Mine
end
section -- N3
open PySem PySem.W PySem.Calls PyProof.Rows
set_option maxRecDepth 100000
set_option maxHeartbeats 8000000
set_option linter.unusedVariables false
namespace Mine
local macro_rules | `(tactic| k_all) => `(tactic| assumption)
local macro_rules | `(tactic| ktr_enter) => `(tactic| first
  | (refine' code_defG ?k1 ?k2 ?k3 ?k4 ?k5 ?kA ?kF ?kK ?k6 ?k7 ?k8 ?k9 ?kB ?_ ?c2 ?c3 ?c4 ?c5; (case kA => exact rfl); (case kF => exact rfl); (case kK => first | assumption | exact rfl); (case k1 => k_asm); (case k2 => k_asm); (case k3 => k_asm); (case k4 => first | k_asm | exact News.nil); (case k5 => k_asm); (case k6 => k_is); (case k7 => k_is); (case k8 => ktr_room); (case k9 => exact BindsTo.of_eq rfl); (case c5 => decide); (case kB => exact locs rfl); (case c2 => exact rfl); (case c3 => exact rfl); (case c4 => exact rfl))
  | (refine' code_defCG ?k1 ?k2 ?k3 ?k4 ?k5 ?kA ?kF ?kK ?k6 ?k7 ?k8 ?k9 ?kB ?kD ?_ ?c2 ?c3 ?c4; (case kA => exact rfl); (case kF => exact rfl); (case kK => first | assumption | exact rfl); (case k1 => k_asm); (case k2 => k_asm); (case k3 => k_asm); (case k4 => first | k_asm | exact News.nil); (case k5 => k_asm); (case k6 => k_is); (case k7 => k_is); (case k8 => ktr_room); (case k9 => exact BindsTo.of_eq rfl); (case kB => exact rfl); (case kD => decide +kernel); (case c2 => exact rfl); (case c3 => exact rfl); (case c4 => exact rfl)))
local macro_rules | `(tactic| walk_at "call ref") => `(tactic| (k_here; (with_reducible show wpAny _ _ (call (Value.ref 273) _) _ _ _); refine of_here ?_))
local macro_rules | `(tactic| walk_at "eval ListComp") => `(tactic| (k_here; (refine' comp_listT ?hh ?hclos ?hcell ?hkind ?hnames ?hx ?h ?hs; (case hh => with_unfolding_all rfl); (case hclos => with_unfolding_all rfl); (case hcell => decide); (case hkind => with_unfolding_all rfl); (case hnames => decide); (case hx => with_unfolding_all rfl); (case hs => intro _; with_unfolding_all rfl); (refine wpAny_here ?_))))
local macro_rules | `(tactic| walk_at "eval Name") => `(tactic| (k_here; k_inBlock; first | (with_unfolding_all refine ldVarK (by assumption) (by assumption) ?_) | (with_unfolding_all refine ldCellK rfl ⟨_, News.get (by k_asm) (by k_mem), by assumption⟩ ?_)))
theorem later_c (w : World) {p : Program} {loose : List Str} {mean : ExcName → Option Value} {mg mb : Str → Option Value} : ∀ (d : Nat)
    {dp un : Nat} {gd : Option (List Code)} {cn : Str} {cs : Scope} {a : Addr} {ccd : Value} {cl : List (Str × Addr)} {outer : List Env} {A₀ : Around} {base h₀ : Heap} {L : Addr} {m : Str → Option Value} {s : Shared}
    {v : Value} {t : Tm} {k : Int} {tk : Tok} {Xs : List Addr} {Q E : Value → Shared → Prop}
    (B : Below A₀ base outer h₀) (F : Fr h₀ L s.heap m) (X : (Mine.hd.heap_39 w.params).In h₀) (T : Top p loose mean mg mb h₀) (hk : cs.kind = .function)
    (ht : TmAt s.heap Xs t v) (hw : Wf 0 4 t) (hdt : t.depth < d) (hk0 : 0 ≤ k) (hk1 : k ≤ 4) (hX : Has s.heap Xs) (hd : dp + d + 4 < recursionLimit) (hu : un + 20 * d + 20 < cLine)
    (hret : ∀ t' r h' tks, Fr h₀ L h' m → KeepX [] s.heap h' → TmAt h' Xs t' r → t'.depth ≤ t.depth → Wf (k + 1) 5 t' → Q r { s with heap := h', toks := tks }),
    wpAny (model PySem.Challenge.rw_ez0159_01.row.prog w) (ktrTop dp un gd cn cs L a ccd cl outer) (call (.ref 273) [v, .int k tk]) Q E s := by
  intro d
  induction d with
  | zero =>
    intro dp un gd cn cs a ccd cl outer A₀ base h₀ L m s v t k tk Xs Q E B F X T hk ht hw hdt hk0 hk1 hX hd hu hret
    exact absurd hdt (Nat.not_lt_zero _)
  | succ d ih =>
    intro dp un gd cn cs a ccd cl outer A₀ base h₀ L m s v t k tk Xs Q E B F X T hk ht hw hdt hk0 hk1 hX hd hu hret
    cases t with
    | num n =>
      have ht0 := ht
      obtain ⟨x, t1, t2, rfl, nx, hx⟩ := ht
      refine wpAny_call ?_
      k_dflt ktr_enter
      intro g L1 h1 tk1 cells FG F1 N1 Y1 B1 X1 T1 lt1 G1
      k_cells Y1
      (try simp only [List.cons_append, List.nil_append] at N1)
      (try dsimp only)
      have hx1 : IsTup g x _ := isTup_at hx fun o e => G1 x o e (by simp)
      have keep := fun h' m' (Fz : Fr g L1 h' m') => gkeep G1 Fz
      (try k_fold)
      k_steps
      rename Fr h₀ L _ _ => kFz
      have K := keep _ _ (by assumption)
      exact hret (.num n) _ _ _ kFz K (TmAt.keep (K.mono (fun _ h => nomatch h)) _ ht0) (Nat.le_refl _) trivial
    | var i =>
      obtain ⟨x, t1, t2, rfl, nx, hx⟩ := ht
      refine wpAny_call ?_
      k_dflt ktr_enter
      intro g L1 h1 tk1 cells FG F1 N1 Y1 B1 X1 T1 lt1 G1
      k_cells Y1
      (try simp only [List.cons_append, List.nil_append] at N1)
      (try dsimp only)
      have hx1 : IsTup g x _ := isTup_at hx fun o e => G1 x o e (by simp)
      have keep := fun h' m' (Fz : Fr g L1 h' m') => gkeep G1 Fz
      (try k_fold)
      k_steps
      · rename Fr h₀ L _ _ => kFz
        rename Fr g L1 _ _ => Fz
        rename News g L1 _ _ => Nz
        have K := keep _ _ Fz
        have fm := fmod_in i (m := 4 - k) (by omega)
        exact hret (.var _) _ _ _ kFz K ⟨_, _, _, rfl, new_notin hX G1 Nz (List.Mem.head _) (by simp), News.isTup Nz (List.Mem.head _)⟩ (Nat.le_refl _) ⟨by omega, by omega⟩
      · rename Fr h₀ L _ _ => kFz
        rename Fr g L1 _ _ => Fz
        rename News g L1 _ _ => Nz
        have K := keep _ _ Fz
        exact hret (.num 1) _ _ _ kFz K ⟨_, _, _, rfl, new_notin hX G1 Nz (List.Mem.head _) (by simp), News.isTup Nz (List.Mem.head _)⟩ (Nat.le_refl _) trivial
    | node kd ts =>
      obtain ⟨x, t1, l, vs, rfl, nx, nl, hx, hl, hts⟩ := ht
      refine wpAny_call ?_
      k_dflt ktr_enter
      intro g L1 h1 tk1 cells FG F1 N1 Y1 B1 X1 T1 lt1 G1
      k_cells Y1
      (try simp only [List.cons_append, List.nil_append] at N1)
      (try dsimp only)
      have hx1 : IsTup g x _ := isTup_at hx fun o e => G1 x o e (by simp)
      have hl1 : g.IsList l _ := hl.at fun o e => G1 l o e (by simp)
      have keep := fun h' m' (Fz : Fr g L1 h' m') => gkeep G1 Fz
      have nv := nm_var kd
      have nn := nm_num kd
      (try k_fold)
      k_steps
      unfold Here
      rename Fr g L1 _ _ => Fz
      rename News g L1 _ _ => Nz
      have hvl := hts.length
      simp only [Tm.depth] at hdt
      refine ⟨_, vs, [], fun O us ys h => ∃ ts', TmsAt h (O ++ L1 :: Xs) ts' ys ∧ ts'.length = us.length ∧ Tm.depths ts' ≤ Tm.depths ts ∧ Wfs (k + 1) 5 ts', rfl, isList_keep Fz hl1, ?_, (fun h => nomatch h), (fun b hb => nomatch hb), ?_, ?_, CTurn.toT ?_, ?_⟩
      · have := hw.1
        rw [hvl]; exact Nat.le_trans this (by decide)
      · rintro O us ys h h' ⟨ts', a1, a2, a3, a4⟩ k
        exact ⟨ts', TmsAt.keep (k.mono fun b hb => List.mem_append_left _ hb) ts' a1, a2, a3, a4⟩
      · intro O hO
        exact ⟨[], rfl, rfl, Nat.zero_le _, trivial⟩
      · intro O C v us ys s₃ m₃ E' hO hHas hC hlt hP hn hm hj hk3 e1 e2 e3
        obtain ⟨ts', a1, a2, a3, a4⟩ := hj
        obtain ⟨t, ht1, ht2⟩ := hts.item hP
        have F3 := fr_kept Fz Nz hk3 (fun b hb => nomatch hb)
        have N3 : News g L1 s₃.heap _ := News.grown Nz (fun b o e => hk3 b o (fun h => nomatch h) e)
        have t3 := tm_lift (Xs := Xs) G1 Fz F3 hO ht2
        obtain ⟨oL, hoL⟩ := has_frame F3
        clear Fz Nz
        k_steps
        show wpAny _ _ _ _ _ _
        have d1 := depths_item ht1
        refine ih B1 F3 X1 T1 rfl t3 (wfs_item hw.2 ht1) (by omega) hk0 hk1 (has_append hHas (has_cons hoL (has_kept hX G1 F3 has_nil))) (by dsimp only [ktrTop]; omega) (by dsimp only [ktrTop]; omega) fun t' r h' tks F9 K9 TA dpt wf => ?_
        refine ⟨⟨h', tks, rfl, K9⟩, ts' ++ [t'], TmsAt.snoc (TmsAt.keep (K9.mono fun b hb => nomatch hb) ts' a1) TA, by simp [a2], ?_, wfs_snoc wf a4⟩
        rw [depths_snoc]; omega
      · intro O D h' tk us ys hO hD hl' hlen' hP hj hk3
        obtain ⟨ts', a1, a2, a3, a4⟩ := hj
        have F3 := fr_kept Fz Nz hk3 (fun b hb => nomatch hb)
        obtain ⟨rest, Nr, _, cov⟩ := coverage g h' L1 []
        have nDX : D ∉ Xs := has_notin (has_kept hX G1 Fz has_nil) (hO D hD)
        have nDL : D ≠ L1 := fun q => Nat.lt_irrefl _ (Nat.lt_of_lt_of_le (q ▸ Fz.ns.lt) (hO D hD))
        have hts' : ts'.length ≤ 3 := by have := hw.1; omega
        have mk := fun h'' m' (Fz : Fr g L1 h'' m') (Nz : News g L1 h'' rest) => cov_keep F3 cov Fz Nz
        clear Fz Nz
        k_steps
        rename Fr g L1 _ _ => Fz
        rename News g L1 _ _ => Nz
        rename Fr h₀ L _ _ => kFz
        have K := mk _ _ Fz (news_sub Nz fun q hq => List.mem_cons_of_mem _ hq)
        refine hret (.node kd ts') _ _ _ kFz (keep _ _ Fz) ⟨_, _, _, ys, rfl, new_notin hX G1 Nz (List.Mem.head _) (by simp), nDX, News.isTup Nz (List.Mem.head _), (hl'.isList).at (fun o => K D o (by simpa using nDL)), TmsAt.setX (fun b o n _ q => n (by simp [q])) ts' (TmsAt.keep (K.mono fun b hb => by rw [List.mem_singleton.mp hb]; simp) ts' a1)⟩ ?_ ⟨hts', a4⟩
        simp only [Tm.depth]; omega

end Mine
end
section -- N4
open PySem PySem.W PySem.Calls PyProof.Rows
set_option maxRecDepth 100000
set_option maxHeartbeats 8000000
set_option linter.unusedVariables false
namespace Mine
local macro_rules | `(tactic| k_all) => `(tactic| assumption)
local macro_rules | `(tactic| ktr_enter) => `(tactic| first
  | (refine' code_defG ?k1 ?k2 ?k3 ?k4 ?k5 ?kA ?kF ?kK ?k6 ?k7 ?k8 ?k9 ?kB ?_ ?c2 ?c3 ?c4 ?c5; (case kA => exact rfl); (case kF => exact rfl); (case kK => first | assumption | exact rfl); (case k1 => k_asm); (case k2 => k_asm); (case k3 => k_asm); (case k4 => first | k_asm | exact News.nil); (case k5 => k_asm); (case k6 => k_is); (case k7 => k_is); (case k8 => ktr_room); (case k9 => exact BindsTo.of_eq rfl); (case c5 => decide); (case kB => exact locs rfl); (case c2 => exact rfl); (case c3 => exact rfl); (case c4 => exact rfl))
  | (refine' code_defCG ?k1 ?k2 ?k3 ?k4 ?k5 ?kA ?kF ?kK ?k6 ?k7 ?k8 ?k9 ?kB ?kD ?_ ?c2 ?c3 ?c4; (case kA => exact rfl); (case kF => exact rfl); (case kK => first | assumption | exact rfl); (case k1 => k_asm); (case k2 => k_asm); (case k3 => k_asm); (case k4 => first | k_asm | exact News.nil); (case k5 => k_asm); (case k6 => k_is); (case k7 => k_is); (case k8 => ktr_room); (case k9 => exact BindsTo.of_eq rfl); (case kB => exact rfl); (case kD => decide +kernel); (case c2 => exact rfl); (case c3 => exact rfl); (case c4 => exact rfl)))
theorem in_sub {w : World} {A : Around} {E : Value → Shared → Prop} {s : Shared} {h₀ : Heap} {L sd : Addr} {m : Str → Option Value} {kvs : List (Int × Value)} {k : Int} {t : Tok} {r : Option Value} {Q : Value → Shared → Prop}
    (F : Fr h₀ L s.heap m) (hs : h₀.DictOf (intKind PySem.Challenge.rw_ez0159_01.row.prog w) sd kvs) (lo : (sd == sysModules) = false) (hv : valueAt kvs k = r) (h : Q (.bool r.isSome) { s with toks := s.toks + 1 }) :
    wpAny (model PySem.Challenge.rw_ez0159_01.row.prog w) A (compareOp .In (.int k t) (.ref sd)) Q E s :=
  wpAny_in_of (intKind_is _ _ _ _) lo (hs.keep F.keep).mapOf (by rw [hv]; exact h)
theorem item_sub {w : World} {A : Around} {E : Value → Shared → Prop} {s : Shared} {h₀ : Heap} {L sd : Addr} {m : Str → Option Value} {kvs : List (Int × Value)} {k : Int} {t : Tok} {v : Value} {value slice : PySem.Expr} {Q : Value → Shared → Prop}
    (F : Fr h₀ L s.heap m) (hs : h₀.DictOf (intKind PySem.Challenge.rw_ez0159_01.row.prog w) sd kvs) (hv : valueAt kvs k = some v) (h : Q v { s with toks := s.toks + 1 })
    (hb : subscripted slice false (.ref sd) (.int k t) = operate [.ref sd, .int k t] (getItem (.ref sd) (.int k t)) := by with_unfolding_all rfl) :
    wpAny (model PySem.Challenge.rw_ez0159_01.row.prog w) A (subscriptTail value slice (.ref sd) (.int k t)) Q E s :=
  tail_any (hs.keep F.keep).mapOf.typeIs slot_dict_getitem.lookup (wpAny_getItem_of (intKind_is _ _ _ _) (hs.keep F.keep).mapOf hv h) hb
local macro_rules | `(tactic| walk_at "compareOp In int ref") => `(tactic| (k_here; k_dflt (refine' in_sub ?F ?s ?l ?v ?_; (case F => k_asm); (case s => assumption); (case l => assumption); (case v => assumption); k_whole)))
local macro_rules | `(tactic| walk_at "subscriptTail") => `(tactic| (k_here; k_dflt (refine' item_sub ?F ?s ?v ?_; (case F => k_asm); (case s => assumption); (case v => assumption); k_whole)))
local macro_rules | `(tactic| walk_at "exec While") => `(tactic| (k_here; refine of_here ?_))
local macro_rules | `(tactic| walk_at "eval Name") => `(tactic| (k_here; k_dflt (refine' nameX_L ?F ?v ?_ ?a ?b; (case F => k_asm); (case a => first | assumption | rfl); (case b => rfl); (case v => assumption); k_whole)))
theorem walk_c (w : World) {p : Program} {loose : List Str} {mean : ExcName → Option Value} {mg mb : Str → Option Value}
    {dp un : Nat} {gd : Option (List Code)} {cn : Str} {cs : Scope} {a : Addr} {ccd : Value} {cl : List (Str × Addr)} {outer : List Env} {A₀ : Around} {base h₀ : Heap} {L : Addr} {m : Str → Option Value} {s : Shared}
    {v : Value} {t u : Tm} {n : Nat} {sd : Addr} {kvs : List (Int × Value)} {sg : Int → Option Tm} {Xs : List Addr} {Q E : Value → Shared → Prop}
    (B : Below A₀ base outer h₀) (F : Fr h₀ L s.heap m) (X : (Mine.hd.heap_39 w.params).In h₀) (T : Top p loose mean mg mb h₀) (hk : cs.kind = .function)
    {hb : Heap} (hup : KeepX [] hb s.heap) (ht : TmAt hb Xs t v) (hs : hb.DictOf (intKind PySem.Challenge.rw_ez0159_01.row.prog w) sd kvs) (lo : (sd == sysModules) = false) (hS : SubAt hb Xs kvs sg) (hW : Wh sg n t u)
    (hd : dp + 4 < recursionLimit) (hu : un + 20 < cLine)
    (hret : ∀ t' r h' tks, Fr h₀ L h' m → KeepX [] s.heap h' → TmAt hb Xs t' r → Wh sg n t' u → (∀ i, t' = .var i → sg i = none) → Q r { s with heap := h', toks := tks }) :
    wpAny (model PySem.Challenge.rw_ez0159_01.row.prog w) (ktrTop dp un gd cn cs L a ccd cl outer) (call (.ref 258) [v, .ref sd]) Q E s := by
  refine wpAny_call ?_
  k_dflt ktr_enter
  intro g L1 h1 FG F1 N1 B1 X1 T1 G1
  (try dsimp only)
  have up0 : KeepX [] s.heap g := fun b o _ e => G1 b o e (by simp)
  have up := hup.trans up0
  have hs1 : g.DictOf (intKind PySem.Challenge.rw_ez0159_01.row.prog w) sd kvs := hs.keep (fun b o e => up b o (by simp) e)
  have upX : KeepX Xs hb g := up.mono fun b hb => nomatch hb
  have keep := fun h' m' (Fz : Fr g L1 h' m') => gkeep G1 Fz
  (try k_fold)
  k_steps
  show wpAny _ _ _ _ _ _
  refine While_inv (fun n' m' news' => news' = [] ∧ n' ≤ n ∧ ∃ v' t', m' (Str.ofString "term") = some v' ∧ m' (Str.ofString "s") = some (.ref sd) ∧ TmAt hb Xs t' v' ∧ Wh sg n' t' u) (n₀ := n) F1 N1 ⟨rfl, Nat.le_refl _, v, t, rfl, rfl, ht, hW⟩ ?_
  rintro n' m₁ news₁ h₁ tk₁ F₁ N₁ ⟨rfl, hn, v', t', q1, q2, ht2, hW2⟩
  cases hW2 with
  | num =>
    have ht3 := ht2
    replace ht2 := TmAt.keep upX _ ht2
    obtain ⟨x, t1, t2, rfl, nx, hx⟩ := ht2
    k_steps
    rename Fr h₀ L _ _ => kFz
    rename Fr g L1 _ _ => Fz
    have K := keep _ _ Fz
    exact hret (.num _) _ _ _ kFz K ht3 .num (fun i e => nomatch e)
  | free e =>
    have ht3 := ht2
    replace ht2 := TmAt.keep upX _ ht2
    obtain ⟨x, t1, t2, rfl, nx, hx⟩ := ht2
    have hv0 := hS.none e
    k_steps
    rename Fr h₀ L _ _ => kFz
    rename Fr g L1 _ _ => Fz
    have K := keep _ _ Fz
    exact hret (.var _) _ _ _ kFz K ht3 (.free e) (fun i q => by cases q; exact e)
  | bound e r =>
    replace ht2 := TmAt.keep upX _ ht2
    obtain ⟨x, t1, t2, rfl, nx, hx⟩ := ht2
    obtain ⟨v2, hv0, ht3⟩ := hS.some e
    k_steps
    rename Fr g L1 _ _ => Fz
    rename News g L1 _ _ => Nz
    exact WhileStep.intro Fz Nz (Nat.lt_succ_self _) ⟨rfl, by omega, v2, _, if_pos rfl, (if_neg (by decide)).trans q2, ht3, r⟩
    all_goals (exfalso; simp_all)
  | node l r =>
    rename Kd => kd
    have ht3 := ht2
    replace ht2 := TmAt.keep upX _ ht2
    obtain ⟨x, t1, l, vs, rfl, nx, nl, hx, hl, hts⟩ := ht2
    have nv := nm_var kd
    k_steps
    rename Fr h₀ L _ _ => kFz
    rename Fr g L1 _ _ => Fz
    have K := keep _ _ Fz
    exact hret (.node _ _) _ _ _ kFz K ht3 ((Wh.node (by assumption) r).mono hn) (fun i e => nomatch e)

local macro_rules | `(tactic| walk_at "call ref") => `(tactic| (k_here; (with_reducible show wpAny _ _ (call (Value.ref 263) _) _ _ _); refine of_here ?_))
local macro_rules | `(tactic| walk_at "call ref") => `(tactic| (k_here; (with_reducible show wpAny _ _ (call (Value.ref 258) _) _ _ _); refine of_here ?_))
local macro_rules | `(tactic| walk_at "eval ListComp") => `(tactic| (k_here; (refine' comp_listT ?hh ?hclos ?hcell ?hkind ?hnames ?hx ?h ?hs; (case hh => with_unfolding_all rfl); (case hclos => with_unfolding_all rfl); (case hcell => decide); (case hkind => with_unfolding_all rfl); (case hnames => decide); (case hx => with_unfolding_all rfl); (case hs => intro _; with_unfolding_all rfl); (refine wpAny_here ?_))))
local macro_rules | `(tactic| walk_at "eval Name") => `(tactic| (k_here; k_inBlock; first | (with_unfolding_all refine ldVarK (by assumption) (by assumption) ?_) | (with_unfolding_all refine ldCellK rfl ⟨_, News.get (by k_asm) (by k_mem), by assumption⟩ ?_)))
theorem whole_c (w : World) {p : Program} {loose : List Str} {mean : ExcName → Option Value} {mg mb : Str → Option Value} {sd : Addr} {kvs : List (Int × Value)} {sg : Int → Option Tm} : ∀ (d : Nat) {n : Nat}
    {dp un : Nat} {gd : Option (List Code)} {cn : Str} {cs : Scope} {a : Addr} {ccd : Value} {cl : List (Str × Addr)} {outer : List Env} {A₀ : Around} {base h₀ : Heap} {L : Addr} {m : Str → Option Value} {s : Shared}
    {v : Value} {t u : Tm} {Xs : List Addr} {Q E : Value → Shared → Prop}
    (B : Below A₀ base outer h₀) (F : Fr h₀ L s.heap m) (X : (Mine.hd.heap_39 w.params).In h₀) (T : Top p loose mean mg mb h₀) (hk : cs.kind = .function)
    (ht : TmAt s.heap Xs t v) (hs : s.heap.DictOf (intKind PySem.Challenge.rw_ez0159_01.row.prog w) sd kvs) (lo : (sd == sysModules) = false) (hS : SubAt s.heap Xs kvs sg) (hW : Wh sg n t u) (hX : Has s.heap Xs)
    (hw : Wf 0 5 u) (hnd : n < d) (hd : dp + d + 8 < recursionLimit) (hu : un + 20 * d + 40 < cLine)
    (hret : ∀ r h' tks, Fr h₀ L h' m → KeepX [] s.heap h' → TmAt h' Xs u r → Q r { s with heap := h', toks := tks }),
    wpAny (model PySem.Challenge.rw_ez0159_01.row.prog w) (ktrTop dp un gd cn cs L a ccd cl outer) (call (.ref 263) [v, .ref sd]) Q E s := by
  intro d
  induction d with
  | zero =>
    intro n dp un gd cn cs a ccd cl outer A₀ base h₀ L m s v t u Xs Q E B F X T hk ht hs lo hS hW hX hw hnd hd hu hret
    exact absurd hnd (Nat.not_lt_zero _)
  | succ d ih =>
    intro n dp un gd cn cs a ccd cl outer A₀ base h₀ L m s v t u Xs Q E B F X T hk ht hs lo hS hW hX hw hnd hd hu hret
    refine wpAny_call ?_
    k_dflt ktr_enter
    intro g L1 h1 tk1 cells FG F1 N1 Y1 B1 X1 T1 lt1 G1
    k_cells Y1
    (try simp only [List.cons_append, List.nil_append] at N1)
    (try dsimp only)
    have up0 : KeepX [] s.heap g := fun b o _ e => G1 b o e (by simp)
    have upX : KeepX Xs s.heap g := up0.mono fun b hb => nomatch hb
    have hs1 : g.DictOf (intKind PySem.Challenge.rw_ez0159_01.row.prog w) sd kvs := hs.keep (fun b o e => up0 b o (by simp) e)
    have hS1 : SubAt g Xs kvs sg := hS.map fun t v h => TmAt.keep upX t h
    have ht1 := TmAt.keep upX t ht
    have keep := fun h' m' (Fz : Fr g L1 h' m') => gkeep G1 Fz
    (try k_fold)
    k_steps
    show wpAny _ _ _ _ _ _
    refine walk_c w B1 F1 X1 T1 rfl (hb := g) (KeepX.of fun b o e => F1.keep b o e) ht1 hs1 lo hS1 hW (by dsimp only [ktrTop]; omega) (by dsimp only [ktrTop]; omega) fun t' r h' tks F2 K2 ht2 hW2 hno => ?_
    have N2 : News g L1 h' _ := News.grown N1 (fun b o e => K2 b o (fun h => nomatch h) e)
    clear F1 N1
    cases hW2 with
    | num =>
      have ht3 := ht2
      obtain ⟨x, t1, t2, rfl, nx, hx⟩ := ht2
      k_steps
      rename Fr h₀ L _ _ => kFz
      rename Fr g L1 _ _ => Fz
      exact hret _ _ _ kFz (keep _ _ Fz) (TmAt.keep (KeepX.of fun b o e => Fz.keep b o e) _ ht3)
    | free e =>
      have ht3 := ht2
      obtain ⟨x, t1, t2, rfl, nx, hx⟩ := ht2
      k_steps
      rename Fr h₀ L _ _ => kFz
      rename Fr g L1 _ _ => Fz
      exact hret _ _ _ kFz (keep _ _ Fz) (TmAt.keep (KeepX.of fun b o e => Fz.keep b o e) _ ht3)
    | bound e r => exact absurd (hno _ rfl) (by rw [e]; exact fun h => nomatch h)
    | @node n0 kd ts us ln r =>
      obtain ⟨x, t1, l, vs, rfl, nx, nl, hx, hl, hts⟩ := ht2
      have nlf := nm_leaf kd
      have hvl := hts.length
      k_steps
      unfold Here
      rename Fr g L1 _ _ => Fz
      rename News g L1 _ _ => Nz
      refine ⟨_, vs, [], fun O ws ys h => TmsAt h (O ++ L1 :: Xs) (us.take ws.length) ys, rfl, isList_keep Fz hl, ?_, (fun h => nomatch h), (fun b hb => nomatch hb), ?_, ?_, CTurn.toT ?_, ?_⟩
      · have := hw.1
        rw [hvl, ln]; exact Nat.le_trans this (by decide)
      · intro O ws ys h h' a1 k
        exact TmsAt.keep (k.mono fun b hb => List.mem_append_left _ hb) _ a1
      · intro O hO
        rfl
      · intro O C v ws ys s₃ m₃ E' hO hHas hC hlt hP hn hm hj hk3 e1 e2 e3
        obtain ⟨t, ht1, ht2⟩ := hts.item hP
        have hlu : ws.length < us.length := by omega
        have hu2 : us[ws.length]? = some us[ws.length] := List.getElem?_eq_getElem hlu
        have F3 := fr_kept Fz Nz hk3 (fun b hb => nomatch hb)
        have N3 : News g L1 s₃.heap _ := News.grown Nz (fun b o e => hk3 b o (fun h => nomatch h) e)
        have t3 := tm_lift (s₀ := g) (Xs := Xs) (fun b o e _ => e) Fz F3 hO ht2
        have S3 : SubAt s₃.heap (O ++ L1 :: Xs) kvs sg := hS1.map fun t v h => tm_lift (s₀ := g) (fun b o e _ => e) Fz F3 hO h
        obtain ⟨oL, hoL⟩ := has_frame F3
        clear Fz Nz
        k_steps
        show wpAny _ _ _ _ _ _
        refine ih B1 F3 X1 T1 rfl t3 (hs1.keep F3.keep) lo S3 (r _ _ _ ht1 hu2) (has_append hHas (has_cons hoL (has_kept hX G1 F3 has_nil))) (wfs_item hw.2 hu2) (by omega) (by dsimp only [ktrTop]; omega) (by dsimp only [ktrTop]; omega) fun r h' tks F9 K9 TA => ?_
        refine ⟨⟨h', tks, rfl, K9⟩, ?_⟩
        show TmsAt h' (O ++ L1 :: Xs) (us.take (ws ++ [v]).length) _
        rw [List.length_append, List.length_singleton, List.take_add_one, hu2]
        exact TmsAt.snoc (TmsAt.keep (K9.mono fun b hb => nomatch hb) _ hj) TA
      · intro O D h' tk ws ys hO hD hl' hlen' hP hj hk3
        replace hj : TmsAt h' (O ++ L1 :: Xs) us ys := by
          have e : us.take ws.length = us := List.take_of_length_le (by omega)
          rw [← e]; exact hj
        have F3 := fr_kept Fz Nz hk3 (fun b hb => nomatch hb)
        obtain ⟨rest, Nr, _, cov⟩ := coverage g h' L1 []
        have nDX : D ∉ Xs := has_notin (has_kept hX G1 Fz has_nil) (hO D hD)
        have nDL : D ≠ L1 := fun q => Nat.lt_irrefl _ (Nat.lt_of_lt_of_le (q ▸ Fz.ns.lt) (hO D hD))
        have mk := fun h'' m' (Fz : Fr g L1 h'' m') (Nz : News g L1 h'' rest) => cov_keep F3 cov Fz Nz
        clear Fz Nz
        k_steps
        rename Fr g L1 _ _ => Fz
        rename News g L1 _ _ => Nz
        rename Fr h₀ L _ _ => kFz
        have K := mk _ _ Fz (news_sub Nz fun q hq => List.mem_cons_of_mem _ hq)
        exact hret _ _ _ kFz (keep _ _ Fz) ⟨_, _, _, ys, rfl, new_notin hX G1 Nz (List.Mem.head _) (by simp), nDX, News.isTup Nz (List.Mem.head _), (hl'.isList).at (fun o => K D o (by simpa using nDL)), TmsAt.setX (fun b o n _ q => n (by simp [q])) us (TmsAt.keep (K.mono fun b hb => by rw [List.mem_singleton.mp hb]; simp) us hj)⟩

end Mine
end
section -- N5
open PySem PySem.W PySem.Calls PyProof.Rows
set_option maxRecDepth 100000
set_option maxHeartbeats 8000000
set_option linter.unusedVariables false
namespace Mine
local macro_rules | `(tactic| walk_at "idle0") => `(tactic| fail)
local macro_rules | `(tactic| k_all) => `(tactic| assumption)
local macro_rules | `(tactic| ktr_enter) => `(tactic| first
  | (refine' code_defG ?k1 ?k2 ?k3 ?k4 ?k5 ?kA ?kF ?kK ?k6 ?k7 ?k8 ?k9 ?kB ?_ ?c2 ?c3 ?c4 ?c5; (case kA => exact rfl); (case kF => exact rfl); (case kK => first | assumption | exact rfl); (case k1 => k_asm); (case k2 => k_asm); (case k3 => k_asm); (case k4 => first | k_asm | exact News.nil); (case k5 => k_asm); (case k6 => k_is); (case k7 => k_is); (case k8 => ktr_room); (case k9 => exact BindsTo.of_eq rfl); (case c5 => decide); (case kB => exact locs rfl); (case c2 => exact rfl); (case c3 => exact rfl); (case c4 => exact rfl))
  | (refine' code_defCG ?k1 ?k2 ?k3 ?k4 ?k5 ?kA ?kF ?kK ?k6 ?k7 ?k8 ?k9 ?kB ?kD ?_ ?c2 ?c3 ?c4; (case kA => exact rfl); (case kF => exact rfl); (case kK => first | assumption | exact rfl); (case k1 => k_asm); (case k2 => k_asm); (case k3 => k_asm); (case k4 => first | k_asm | exact News.nil); (case k5 => k_asm); (case k6 => k_is); (case k7 => k_is); (case k8 => ktr_room); (case k9 => exact BindsTo.of_eq rfl); (case kB => exact rfl); (case kD => decide +kernel); (case c2 => exact rfl); (case c3 => exact rfl); (case c4 => exact rfl)))
theorem names_item5 {w : World} {A : Around} {E : Value → Shared → Prop} {s : Shared} {value slice : PySem.Expr} {nl : Addr} {nv : Int → Addr} {k : Int} {u : Tok} {Q : Value → Shared → Prop}
    (hnl : s.heap.IsList nl #[.ref (nv 0), .ref (nv 1), .ref (nv 2), .ref (nv 3), .ref (nv 4)]) (h0 : 0 ≤ k) (h1 : k < 5) (h : Q (.ref (nv k)) s)
    (hs : subscripted slice false (.ref nl) (.int k u) = operate [.ref nl, .int k u] (getItem (.ref nl) (.int k u)) := by with_unfolding_all rfl) :
    wpAny (model PySem.Challenge.rw_ez0159_01.row.prog w) A (subscriptTail value slice (.ref nl) (.int k u)) Q E s := by
  have c : k = 0 ∨ k = 1 ∨ k = 2 ∨ k = 3 ∨ k = 4 := by omega
  rcases c with rfl | rfl | rfl | rfl | rfl <;> exact tail_any hnl.typeIs slot_list_getitem.lookup (wpAny_getItem_list hnl h0 (by omega) rfl h) hs
local macro_rules | `(tactic| walk_at "call ref") => `(tactic| (k_here; (with_reducible show wpAny _ _ (call (Value.ref 251) _) _ _ _); refine of_here ?_))
local macro_rules | `(tactic| walk_at "call type:tuple") => `(tactic| (k_here; refine of_here ?_))
local macro_rules | `(tactic| walk_at "call type:dict") => `(tactic| (k_here; refine of_here ?_))
local macro_rules | `(tactic| walk_at "subscriptTail") => `(tactic| (k_here; (with_unfolding_all refine' names_item5 (isList_keep ?F ?l) ?a ?b ?_; (case F => k_asm); (case l => assumption); (case a => assumption); (case b => assumption))))
local macro_rules | `(tactic| walk_at "exec Assign cons ListComp") => `(tactic| (k_here; with_reducible refine wpAny_Assign_Name ?_ ?_; rotate_left; with_unfolding_all rfl))
local macro_rules | `(tactic| walk_at "eval ListComp") => `(tactic| (k_here; (refine' comp_listT ?hh ?hclos ?hcell ?hkind ?hnames ?hx ?h ?hs; (case hh => with_unfolding_all rfl); (case hclos => with_unfolding_all rfl); (case hcell => decide); (case hkind => with_unfolding_all rfl); (case hnames => decide); (case hx => with_unfolding_all rfl); (case hs => intro _; with_unfolding_all rfl); (refine wpAny_here ?_))))
local macro_rules | `(tactic| walk_at "eval ListComp") => `(tactic| (k_here; (with_reducible show wpAny _ _ (eval (Expr.ListComp (Expr.Tuple _ _ _) _ _ _) _) _ _ _); refine of_here ?_))
local macro_rules | `(tactic| walk_at "eval Name") => `(tactic| (k_here; k_inBlock; first | (with_unfolding_all refine ldVarK (by assumption) (by assumption) ?_) | (with_unfolding_all refine ldCellK rfl ⟨_, News.get (by k_asm) (by k_mem), by assumption⟩ ?_)))
local macro_rules | `(tactic| walk_at "call builtin:len") => `(tactic| (k_here; (with_reducible show wpAny _ _ (call (Value.builtin "len") [Value.ref _]) _ _ _); k_dflt (refine' len_list ?l (len_small ?e ?f) ?_; (case l => exact News.isList (by k_asm) (by k_mem)); (case e => assumption); (case f => omega))))
local macro_rules | `(tactic| walk_at "subscriptTail") => `(tactic| (k_here; (with_reducible show wpAny _ _ (subscriptTail _ _ (Value.ref _) (Value.int ((_ : Nat) : Int) _)) _ _ _); (with_unfolding_all refine' item_at (News.isList ?N ?l) ?x ?j ?_; (case N => k_asm); (case l => k_mem); (case x => assumption); (case j => omega))))
theorem made_c (w : World) {p : Program} {loose : List Str} {mean : ExcName → Option Value} {mg mb : Str → Option Value} {nl : Addr} {nv : Int → Addr} : ∀ (d : Nat)
    {dp un : Nat} {gd : Option (List Code)} {cn : Str} {cs : Scope} {a : Addr} {ccd : Value} {cl : List (Str × Addr)} {outer : List Env} {A₀ : Around} {base h₀ : Heap} {L : Addr} {m : Str → Option Value} {s : Shared}
    {v : Value} {t : Tm} {Xs : List Addr} {Q E : Value → Shared → Prop}
    (B : Below A₀ base outer h₀) (F : Fr h₀ L s.heap m) (X : (Mine.hd.heap_39 w.params).In h₀) (T : Top p loose mean mg mb h₀) (hk : cs.kind = .function)
    (ht : TmAt s.heap Xs t v) (hw : Wf 0 5 t) (hdt : t.depth < d) (hX : Has s.heap Xs)
    (hnl : s.heap.IsList nl #[.ref (nv 0), .ref (nv 1), .ref (nv 2), .ref (nv 3), .ref (nv 4)])
    (hd : dp + d + 8 < recursionLimit) (hu : un + 20 * d + 40 < cLine)
    (hret : ∀ r h' tks, Fr h₀ L h' m → KeepX [] s.heap h' → MdAt w h' Xs nv t r → Q r { s with heap := h', toks := tks }),
    wpAny (model PySem.Challenge.rw_ez0159_01.row.prog w) (ktrTop dp un gd cn cs L a ccd cl outer) (call (.ref 251) [v, .ref nl]) Q E s := by
  intro d
  induction d with
  | zero =>
    intro dp un gd cn cs a ccd cl outer A₀ base h₀ L m s v t Xs Q E B F X T hk ht hw hdt hX hnl hd hu hret
    exact absurd hdt (Nat.not_lt_zero _)
  | succ d ih =>
    intro dp un gd cn cs a ccd cl outer A₀ base h₀ L m s v t Xs Q E B F X T hk ht hw hdt hX hnl hd hu hret
    cases t with
    | num n => 
      obtain ⟨x, t1, t2, rfl, nx, hx⟩ := ht
      refine wpAny_call ?_
      k_dflt ktr_enter
      intro g L1 h1 tk1 cells FG F1 N1 Y1 B1 X1 T1 lt1 G1
      k_cells Y1
      (try simp only [List.cons_append, List.nil_append] at N1)
      (try dsimp only)
      have hx1 : IsTup g x _ := isTup_at hx fun o e => G1 x o e (by simp)
      have keep := fun h' m' (Fz : Fr g L1 h' m') => gkeep G1 Fz
      (try k_fold)
      k_steps
      rename Fr h₀ L _ _ => kFz
      rename Fr g L1 _ _ => Fz
      exact hret _ _ _ kFz (keep _ _ Fz) ⟨_, rfl⟩
    | var i =>
      obtain ⟨x, t1, t2, rfl, nx, hx⟩ := ht
      have hw0 := hw.1
      have hw1 := hw.2
      refine wpAny_call ?_
      k_dflt ktr_enter
      intro g L1 h1 tk1 cells FG F1 N1 Y1 B1 X1 T1 lt1 G1
      k_cells Y1
      (try simp only [List.cons_append, List.nil_append] at N1)
      (try dsimp only)
      have hx1 : IsTup g x _ := isTup_at hx fun o e => G1 x o e (by simp)
      have hnl1 : g.IsList nl _ := hnl.at fun o e => G1 nl o e (by simp)
      have keep := fun h' m' (Fz : Fr g L1 h' m') => gkeep G1 Fz
      (try k_fold)
      k_steps
      rename Fr h₀ L _ _ => kFz
      rename Fr g L1 _ _ => Fz
      exact hret _ _ _ kFz (keep _ _ Fz) rfl
    | node kd ts =>
      obtain ⟨x, t1, l, vs, rfl, nx, nl', hx, hl, hts⟩ := ht
      refine wpAny_call ?_
      k_dflt ktr_enter
      intro g L1 h1 tk1 cells FG F1 N1 Y1 B1 X1 T1 lt1 G1
      k_cells Y1
      (try simp only [List.cons_append, List.nil_append] at N1)
      (try dsimp only)
      have hx1 : IsTup g x _ := isTup_at hx fun o e => G1 x o e (by simp)
      have hl1 : g.IsList l _ := hl.at fun o e => G1 l o e (by simp)
      have hnl1 : g.IsList nl _ := hnl.at fun o e => G1 nl o e (by simp)
      have keep := fun h' m' (Fz : Fr g L1 h' m') => gkeep G1 Fz
      have nmv := nm_var kd
      have nmn := nm_num kd
      have hvl := hts.length
      simp only [Tm.depth] at hdt
      (try k_fold)
      k_steps
      unfold Here
      rename Fr g L1 _ _ => Fz
      rename News g L1 _ _ => Nz
      refine ⟨_, vs, [], fun O ws ys h => MdsAt w h (O ++ L1 :: (L1 + 1) :: (L1 + 1 + 1) :: Xs) nv (ts.take ws.length) ys, rfl, isList_keep Fz hl1, ?_, (fun h => nomatch h), (fun b hb => nomatch hb), ?_, ?_, CTurn.toT ?_, ?_⟩
      · have := hw.1
        rw [hvl]; exact Nat.le_trans this (by decide)
      · intro O ws ys h h' a1 k
        exact MdsAt.keep (k.mono fun b hb => List.mem_append_left _ hb) _ a1
      · intro O hO
        rfl
      · intro O C v ws ys s₃ m₃ E' hO hHas hC hlt hP hn hm hj hk3 e1 e2 e3
        obtain ⟨t, ht1, ht2⟩ := hts.item hP
        have F3 := fr_kept Fz Nz hk3 (fun b hb => nomatch hb)
        have N3 : News g L1 s₃.heap _ := News.grown Nz (fun b o e => hk3 b o (fun h => nomatch h) e)
        have hY : ∀ b ∈ O ++ L1 :: (L1 + 1) :: (L1 + 1 + 1) :: Xs, b ∈ Xs ∨ g.get? b = none := by
          intro b hb
          rcases List.mem_append.mp hb with q | q
          · exact .inr (g_none Fz (hO b q))
          · rcases List.mem_cons.mp q with rfl | q
            · exact .inr (frame_none Fz)
            · rcases List.mem_cons.mp q with rfl | q
              · exact .inr (Nz _ (.tail _ (.head _))).2.2
              · rcases List.mem_cons.mp q with rfl | q
                · exact .inr (Nz _ (.head _)).2.2
                · exact .inl q
        have t3 := tm_liftY (fun b o e => G1 b o e (by simp)) F3.keep hY ht2
        obtain ⟨oL, hoL⟩ := has_frame F3
        have hH : Has s₃.heap (O ++ L1 :: (L1 + 1) :: (L1 + 1 + 1) :: Xs) := has_append hHas (has_cons hoL (has_cons (N3 _ (.tail _ (.head _))).1 (has_cons (N3 _ (.head _)).1 (has_kept hX G1 F3 has_nil))))
        have hlt' : ws.length < ts.length := by omega
        clear Fz Nz
        k_steps
        show wpAny _ _ _ _ _ _
        have d1 := depths_item ht1
        refine ih B1 F3 X1 T1 rfl t3 (wfs_item hw.2 ht1) (by omega) hH (isList_keep F3 hnl1) (by dsimp only [ktrTop]; omega) (by dsimp only [ktrTop]; omega) fun r h' tks F9 K9 TA => ?_
        refine ⟨⟨h', tks, rfl, K9⟩, ?_⟩
        show MdsAt w h' _ nv (ts.take (ws ++ [v]).length) _
        rw [List.length_append, List.length_singleton, List.take_add_one, ht1]
        exact MdsAt.snoc (MdsAt.keep (K9.mono fun b hb => nomatch hb) _ hj) TA
      · intro O D h' tk ws ys hO hD hl' hlen' hP hj hk3
        replace hj : MdsAt w h' (O ++ L1 :: (L1 + 1) :: (L1 + 1 + 1) :: Xs) nv ts ys := by
          have e : ts.take ws.length = ts := List.take_of_length_le (by omega)
          rw [← e]; exact hj
        have F3 := fr_kept Fz Nz hk3 (fun b hb => nomatch hb)
        have N3 : News g L1 h' _ := News.grown Nz (fun b o e => hk3 b o (fun h => nomatch h) e)
        obtain ⟨rest, Nr, hex, cov⟩ := coverage g h' L1 [L1 + 1, L1 + 1 + 1]
        have hr1 := rest_ne hex (c := L1 + 1) (by simp)
        have hr2 := rest_ne hex (c := L1 + 1 + 1) (by simp)
        have nDX : D ∉ Xs := has_notin (has_kept hX G1 Fz has_nil) (hO D hD)
        have nDL : D ≠ L1 := fun q => Nat.lt_irrefl _ (Nat.lt_of_lt_of_le (q ▸ Fz.ns.lt) (hO D hD))
        have nD1 : D ≠ L1 + 1 := fun q => Nat.lt_irrefl _ (Nat.lt_of_lt_of_le (q ▸ Heap.lt_size (Nz _ (.tail _ (.head _))).1) (hO D hD))
        have nD2 : D ≠ L1 + 1 + 1 := fun q => Nat.lt_irrefl _ (Nat.lt_of_lt_of_le (q ▸ Heap.lt_size (Nz _ (.head _)).1) (hO D hD))
        have mk := fun h'' m' (Fz : Fr g L1 h'' m') (Nz : News g L1 h'' rest) => cov_keep F3 cov Fz Nz
        obtain ⟨nD, hDo⟩ := hl'
        have N4 := news_cons hDo nDL (g_none Fz (hO D hD)) (news_append N3 Nr)
        simp only [List.cons_append, List.nil_append] at N4
        replace nD1 := neN nD1
        replace nD2 := neN nD2
        have hyl := hj.length
        have hts3 := hw.1
        have sub3 : ∀ b ∈ [L1, L1 + 1, L1 + 1 + 1], b ∈ O ++ L1 :: (L1 + 1) :: (L1 + 1 + 1) :: Xs := fun b hb => by
          refine List.mem_append_right _ ?_
          rcases List.mem_cons.mp hb with rfl | hb
          · exact List.Mem.head _
          · rcases List.mem_cons.mp hb with rfl | hb
            · exact List.mem_cons_of_mem _ (List.Mem.head _)
            · rw [List.mem_singleton.mp hb]; exact List.mem_cons_of_mem _ (List.mem_cons_of_mem _ (List.Mem.head _))
        clear Fz Nz N3 Nr
        cases kd with
        | row =>
          have hx2 : IsTup g x #[.str (Str.ofString "row") t1, .ref l] := hx1
          k_steps
          show wpAny _ _ _ _ _ _
          rename Fr g L1 _ _ => Fz
          rename News g L1 _ _ => Nz
          have hDz := News.isList Nz (List.Mem.head _)
          refine call_tuple_list hDz (fun h'' hk => ?_) (by rw [List.size_toArray, hyl]; exact Nat.le_trans hts3 (by decide))
          have up : ∀ (b : Addr) (o : Obj), _ → (h''.push { cls := .type "tuple", data := .seq ys.toArray }).get? b = some o := fun b o e => Heap.get?_push_of_some _ (hk b o e)
          have F5 := Fr.keeps Fz up
          have N5 := News.grown Nz up
          have hT : IsTup (h''.push { cls := .type "tuple", data := .seq ys.toArray }) h''.objs.size ys.toArray := ⟨_, Heap.get?_push_size _ rfl, rfl, _, rfl⟩
          have fresh : ∀ b o, g.get? b = some o → b ≠ h''.objs.size := fun b o e q => Nat.lt_irrefl _ (q ▸ Heap.lt_size (hk b o (Fz.keep b o e)))
          clear Fz Nz
          k_steps
          rename Fr h₀ L _ _ => kFz
          rename Fr g L1 _ _ => Fz
          rename News g L1 _ _ => Nz
          have K := mk _ _ Fz (news_sub Nz fun q hq => List.mem_cons_of_mem _ (List.mem_cons_of_mem _ (List.mem_cons_of_mem _ hq)))
          exact hret _ _ _ kFz (keep _ _ Fz) ⟨_, ys, rfl, fun q => let ⟨o, ho⟩ := hX _ q; fresh _ o (G1 _ o ho (by simp)) rfl, hT, MdsAt.setX (fun b o n _ q => n (by simp [q])) ts (MdsAt.keep (K.mono sub3) ts hj)⟩
        | lst =>
          have hx2 : IsTup g x #[.str (Str.ofString "list") t1, .ref l] := hx1
          k_steps
          rename Fr h₀ L _ _ => kFz
          rename Fr g L1 _ _ => Fz
          rename News g L1 _ _ => Nz
          have K := mk _ _ Fz (news_sub Nz fun q hq => List.mem_cons_of_mem _ (List.mem_cons_of_mem _ (List.mem_cons_of_mem _ hq)))
          exact hret _ _ _ kFz (keep _ _ Fz) ⟨_, ys, rfl, nDX, ⟨_, (Nz _ (List.Mem.head _)).1⟩, MdsAt.setX (fun b o n _ q => n (by simp [q])) ts (MdsAt.keep (K.mono sub3) ts hj)⟩
        | dct =>
          have hx2 : IsTup g x #[.str (Str.ofString "dict") t1, .ref l] := hx1
          k_steps
          show wpAny _ _ _ _ _ _
          refine' comp_rangeT ?hh ?hclos ?hcell ?hkind ?hnames ?hx ?h ?hs
          case hh => with_unfolding_all rfl
          case hclos => with_unfolding_all rfl
          case hcell => decide
          case hkind => with_unfolding_all rfl
          case hnames => decide
          case hx => with_unfolding_all rfl
          case hs => intro _; with_unfolding_all rfl
          refine wpAny_here ?_
          k_steps
          unfold Here
          rename Fr g L1 _ _ => Fz
          rename News g L1 _ _ => Nz
          rename IsRange _ _ _ _ _ _ _ _ => Rz
          obtain ⟨mm, hmm⟩ : ∃ mm, Fr g L1 _ mm := ⟨_, Fz⟩
          have lL1 := Fz.ns.lt
          refine ⟨_, _, _, _, _, ys.length, [L1], fun O ws zs h => L1 ∉ O ∧ h.Ns L1 mm ∧ ∃ prs, PairsAt h (L1 :: O) zs prs ∧ IntPairs prs ((enumV 0 ys).take ws.length), rfl, Rz, (by simp), ?_, ?_, ?_, ?_, CTurn.toT ?_, ?_⟩
          · omega
          · intro b hb
            rw [List.mem_singleton.mp hb]; exact lL1
          · rintro O ws zs h h' ⟨n, a1, prs, a2, a3⟩ k
            exact ⟨n, a1.at' fun o e => k L1 o n e, prs, a2.keep (k.mono fun b hb => List.mem_cons_of_mem _ hb), a3⟩
          · intro O hO
            exact ⟨fun q => Nat.lt_irrefl _ (Nat.lt_of_lt_of_le lL1 (hO _ q)), hmm.ns, [], .nil, .nil⟩
          · intro O C v ws zs s₃ m₃ E' hO hHas hC hlt hP hn hm hj3 hk4 e1 e2 e3
            obtain ⟨nL, a1, prs, a2, a3⟩ := hj3
            obtain ⟨tv, rfl⟩ := hP
            have hyv : ys[ws.length]? = some ys[ws.length] := List.getElem?_eq_getElem hlt
            have F3 := fr_from_ns hmm hk4 a1
            have N3 := news_kept Nz hk4
            obtain ⟨rest3, Nr3, _, cov3⟩ := coverage g s₃.heap L1 []
            have N5 := news_append N3 Nr3
            simp only [List.cons_append, List.nil_append] at N5
            have mk3 := fun h'' m' (Fz : Fr g L1 h'' m') (Nz : News g L1 h'' rest3) => cov_keep F3 cov3 Fz Nz
            have gO : ∀ b ∈ O, g.get? b = none := fun b hb => g_none hmm (hO b hb)
            clear Fz Nz N3 Nr3 hmm
            refine wpAny_here ?_
            k_steps
            unfold Here
            rename Fr g L1 _ _ => Fz
            rename News g L1 _ _ => Nz
            rename _ ∧ _ => lz
            have K := mk3 _ _ Fz (news_sub Nz fun q hq => List.mem_cons_of_mem _ (List.mem_cons_of_mem _ (List.mem_cons_of_mem _ (List.mem_cons_of_mem _ (List.mem_append_right _ hq)))))
            refine ⟨⟨_, _, rfl, K⟩, nL, Fz.ns, _, PairsAt.snoc (a2.keep (K.mono fun b hb => by rw [List.mem_singleton.mp hb]; exact List.Mem.head _)) ?_ (News.isTup Nz (List.Mem.head _)), ?_⟩
            · intro hb
              rcases List.mem_cons.mp hb with q | q
              · exact (Nz _ (List.Mem.head _)).2.1 q
              · obtain ⟨o, ho⟩ := hHas _ q
                have hm3 := cov3 _ o ho (fun e => nL (e ▸ q)) (by simp) (gO _ q)
                exact Nat.lt_irrefl _ (ktn_ltOf lz.2.2.2 _ (List.mem_append_right _ hm3))
            · rw [List.length_append, List.length_singleton, enumV_take hyv]
              exact IntPairs.snoc a3
          · intro O D2 h2 tk2 ws zs hO2 hD2 hl2 hlen2 hP2 hj2 hk4
            obtain ⟨nL, a1, prs, a2, a3⟩ := hj2
            have F3 := fr_from_ns hmm hk4 a1
            have N3 := news_kept Nz hk4
            rw [List.take_of_length_le (by rw [enumV_length]; omega)] at a3
            have up2 : KeepX [L1, L1 + 1, L1 + 1 + 1] h' h2 := (mk _ _ Fz (news_sub Nz fun q hq => List.mem_cons_of_mem _ (List.mem_cons_of_mem _ (List.mem_cons_of_mem _ hq)))).trans (hk4.mono fun b hb => by rw [List.mem_singleton.mp hb]; exact List.Mem.head _)
            have fresh : ∀ b o, g.get? b = some o → b ≠ h2.objs.size := fun b o e q => Nat.lt_irrefl _ (q ▸ Heap.lt_size (F3.keep b o e))
            clear Fz Nz hmm
            k_steps
            show wpAny _ _ _ _ _ _
            refine call_dict_ints rfl hl2 a2.1 (fun i v k x e1 e2 => let ⟨b, e, _, t⟩ := a2.2 i v k x e1 e2; ⟨b, e, t⟩) a3 enumV_nodup (by rw [enumV_length]; omega) fun h3 tk3 hD3 hk5 => ?_
            have F5 := Fr.keeps F3 hk5
            have N5 := News.grown N3 hk5
            clear F3 N3
            k_steps
            rename Fr h₀ L _ _ => kFz
            rename Fr g L1 _ _ => Fz
            have K : KeepX [L1, L1 + 1, L1 + 1 + 1] h' h3 := up2.trans (KeepX.of hk5)
            exact hret _ _ _ kFz (keep _ _ Fz) ⟨_, ys, rfl, fun q => let ⟨o, ho⟩ := hX _ q; fresh _ o (G1 _ o ho (by simp)) rfl, hD3, MdsAt.setX (fun b o n _ q => n (by simp [q])) ts (MdsAt.keep (K.mono sub3) ts hj)⟩

end Mine
end
section -- M36
open PySem PySem.W PySem.Calls PyProof.Rows
set_option maxRecDepth 100000
set_option maxHeartbeats 4000000
namespace Mine
section
variable {prog : Program} {w : World} {A : Around} {E : Value → Shared → Prop} {env : Env}
/-- a loop over range(n), with a state that holds turn by turn -/
theorem for_rangeT {s : Shared} {iter : Expr} {x : Str} {px pos : Pos} {body : List Stmt} {Q : Flow → Shared → Prop} (hh : A.handled = none)
    (h : wpAny (model prog w) A (eval iter env) (fun xv s₁ => ∃ r b₀ t₀ u₀ v₀, ∃ n : Nat, ∃ Inv : List Addr → Nat → Shared → Prop, xv = .ref r ∧ IsRange s₁.heap r 0 b₀ 1 t₀ u₀ v₀ ∧ b₀ = (n : Int) ∧ n ≤ 1000 ∧
      (∀ O j s h' tk, Inv O j s → KeepX O s.heap h' → Inv O j { s with heap := h', toks := tk }) ∧
      (∀ O, (∀ b ∈ O, s₁.heap.objs.size ≤ b) → Inv O 0 s₁) ∧
      (∀ O j t s₃ (E' : Value → Shared → Prop), (∀ b ∈ O, s₁.heap.objs.size ≤ b) → Has s₃.heap O → j < n → Inv O j s₃ →
        wpAny (model prog w) A (storeName env x (.int (j : Int) t)) (fun _ s₄ => wpAny (model prog w) A (execs body env) (fun f s₅ => match f with
          | .next | .cont => Inv O (j + 1) s₅ ∧ ∀ b ∈ O, ∀ o, s₃.heap.get? b = some o → s₅.heap.get? b = some o
          | .brk => False
          | .ret v => Q (.ret v) s₅) E' s₄) E' s₃) ∧
      (∀ O s₃, (∀ b ∈ O, s₁.heap.objs.size ≤ b) → Inv O n s₃ → Q .next s₃)) E s)
    (hs : ∀ x, foldedSetIterable iter env x = pure x := by intro _; rfl) :
    wpAny (model prog w) A (exec (.For (.Name x px) iter body [] pos) env) Q E s := by
  refine wpAny_For (wpAny_mono h (fun xv s₁ h₁ => ?_) fun _ _ e => e) hs
  obtain ⟨r, b₀, t₀, u₀, v₀, n, Inv, rfl, hr, hb₀, hsz, stab, h0, hturn, hend⟩ := h₁
  subst hb₀
  have hsize : Builtin.Range.rangeSize 0 (n : Int) 1 = (n : Int) := by
    unfold Builtin.Range.rangeSize
    split <;> (try split) <;> (try simp) <;> omega
  have hsmall : Builtin.Range.small 0 (n : Int) 1 = true := by
    unfold Builtin.Range.small
    rw [hsize]
    simp [Builtin.Range.rangeFitsLong]
    omega
  refine wpAny_pyIter_range hr hsmall ?_
  have W := Walks.range (prog := prog) (w := w) hh s₁.heap.objs.size 0 1 n
  have hO : ∀ b ∈ [s₁.heap.objs.size], s₁.heap.objs.size ≤ b := fun b hb => by rw [List.mem_singleton.mp hb]; exact Nat.le_refl _
  have kO : ∀ {h h' : Heap}, (∀ b o, b ∉ [s₁.heap.objs.size] → h.get? b = some o → h'.get? b = some o) → KeepX [s₁.heap.objs.size] h h' := fun k b o n e => k b o n e
  have hst : IsRangeIter (s₁.heap.push { cls := .type "range_iterator", data := .fields #[rawInt 0, rawInt (Builtin.Range.rangeSize 0 (n : Int) 1), rawInt 1] }) s₁.heap.objs.size (0 + ((0 : Nat) : Int) * 1) ((n : Int) - ((0 : Nat) : Int)) 1 := by
    show IsRangeIter _ _ _ _ _; rw [hsize]; simpa using Heap.get?_push_size _ rfl
  refine codeAny_forLoop (fun k s' => ∃ j, k = n + 1 - j ∧ j ≤ n ∧ IsRangeIter s'.heap s₁.heap.objs.size (0 + (j : Int) * 1) ((n : Int) - (j : Int)) 1 ∧ Inv [s₁.heap.objs.size] j s') ?_ (n + 1)
    ⟨0, rfl, Nat.zero_le _, hst, stab _ _ s₁ _ _ (h0 _ hO) (KeepX.of fun b o e => Heap.get?_push_of_some _ e)⟩
  rintro k s' ⟨j, rfl, hj, hit, hI⟩
  by_cases hlt : j < n
  · refine W.item j _ _ _ hlt hit fun v h' tk hP hit' hk => ?_
    obtain ⟨t, rfl⟩ := hP
    have ev : (0 + (j : Int) * 1) = (j : Int) := by omega
    rw [ev]
    refine wpAny_assign_Name ?_
    have hHas : Has h' [s₁.heap.objs.size] := fun b hb => by rw [List.mem_singleton.mp hb]; exact ⟨_, hit'⟩
    refine wpAny_mono (hturn [s₁.heap.objs.size] j t { s' with heap := h', toks := tk } _ hO hHas hlt (stab _ _ _ _ _ hI (kO hk))) (fun _ s₄ h₄ => ?_) fun _ _ e => e
    refine wpAny_mono h₄ (fun f s₅ h₅ => ?_) fun _ _ e => e
    cases f with
    | next => exact ⟨n + 1 - (j + 1), by omega, j + 1, rfl, hlt, W.frame _ _ _ hit' (fun b hb o e => h₅.2 b hb o e), h₅.1⟩
    | cont => exact ⟨n + 1 - (j + 1), by omega, j + 1, rfl, hlt, W.frame _ _ _ hit' (fun b hb o e => h₅.2 b hb o e), h₅.1⟩
    | brk => exact h₅.elim
    | ret v => exact h₅
  · have hjn : j = n := by omega
    subst hjn
    refine W.done _ _ _ hit fun h' tk hk => ?_
    exact wpAny_execs_nil (hend _ _ hO (stab _ _ _ _ _ hI (kO hk)))
end
end Mine
end
section -- M37
open PySem PySem.W PySem.Calls PyProof.Rows
namespace Mine
/-- the substitution of a list of pairs -/
def lookT : List (Int × Tm) → Int → Option Tm
  | [], _ => none
  | (k, t) :: r, i => if k = i then some t else lookT r i
theorem lookT_mem {i : Int} {t : Tm} : ∀ {l : List (Int × Tm)}, lookT l i = some t → (i, t) ∈ l
  | [], h => by cases h
  | (k, t') :: r, h => by
    unfold lookT at h
    split at h
    · rename_i e
      cases h; subst e; exact List.Mem.head _
    · exact List.Mem.tail _ (lookT_mem h)
theorem lookT_of {i : Int} {t : Tm} : ∀ {l : List (Int × Tm)}, (l.map (·.1)).Nodup → (i, t) ∈ l → lookT l i = some t
  | (k, t') :: r, n, h => by
    simp only [List.map_cons, List.nodup_cons] at n
    unfold lookT
    rcases List.mem_cons.mp h with h | h
    · cases h; rw [if_pos rfl]
    · rw [if_neg (fun e => n.1 (by subst e; exact List.mem_map_of_mem h (f := (·.1))))]
      exact lookT_of n.2 h
/-- a substitution of terms of later variables -/
def SgOk (sg : Int → Option Tm) : Prop := ∀ k t, sg k = some t → 0 ≤ k ∧ k < 5 ∧ Wf (k + 1) 5 t ∧ t.depth ≤ 2
mutual
theorem Wf.mono {lo lo' hi : Int} (h : lo' ≤ lo) : ∀ {t : Tm}, Wf lo hi t → Wf lo' hi t
  | .num _, _ => by unfold Wf; trivial
  | .var i, x => by unfold Wf at x ⊢; exact ⟨by omega, x.2⟩
  | .node _ ts, x => by unfold Wf at x ⊢; exact ⟨x.1, Wfs.mono h x.2⟩
theorem Wfs.mono {lo lo' hi : Int} (h : lo' ≤ lo) : ∀ {ts : List Tm}, Wfs lo hi ts → Wfs lo' hi ts
  | [], _ => by unfold Wfs; trivial
  | t :: r, x => by unfold Wfs at x ⊢; exact ⟨Wf.mono h x.1, Wfs.mono h x.2⟩
end
mutual
theorem Wf.up {lo hi hi' : Int} (h : hi ≤ hi') : ∀ {t : Tm}, Wf lo hi t → Wf lo hi' t
  | .num _, _ => by unfold Wf; trivial
  | .var i, x => by unfold Wf at x ⊢; exact ⟨x.1, by omega⟩
  | .node _ ts, x => by unfold Wf at x ⊢; exact ⟨x.1, Wfs.up h x.2⟩
theorem Wfs.up {lo hi hi' : Int} (h : hi ≤ hi') : ∀ {ts : List Tm}, Wfs lo hi ts → Wfs lo hi' ts
  | [], _ => by unfold Wfs; trivial
  | t :: r, x => by unfold Wfs at x ⊢; exact ⟨Wf.up h x.1, Wfs.up h x.2⟩
end
/-- the terms of a node come to something together -/
def WhsEx (sg : Int → Option Tm) (n D : Nat) (ts : List Tm) : Prop := ∃ us, ts.length = us.length ∧ (∀ (j : Nat) (t u : Tm), ts[j]? = some t → us[j]? = some u → Wh sg n t u) ∧ Wfs 0 5 us ∧ Tm.depths us ≤ D
mutual
theorem wh_ex1 {sg : Int → Option Tm} {m : Nat} {lo : Int} (h0 : 0 ≤ lo) (hv : ∀ i, lo ≤ i → i < 5 → ∃ u, Wh sg (3 * m) (.var i) u ∧ Wf 0 5 u ∧ u.depth ≤ 2 * m) : ∀ (t : Tm), Wf lo 5 t → ∃ u, Wh sg (t.depth + 3 * m) t u ∧ Wf 0 5 u ∧ u.depth ≤ t.depth + 2 * m
  | .num k, _ => ⟨.num k, .num, by unfold Wf; trivial, by simp [Tm.depth]⟩
  | .var i, w => by
    unfold Wf at w
    obtain ⟨u, a, b, c⟩ := hv i w.1 w.2
    exact ⟨u, a.mono (by omega), b, by omega⟩
  | .node kd ts, w => by
    unfold Wf at w
    obtain ⟨us, a, b, c, d⟩ := wh_exs h0 hv ts w.2
    refine ⟨.node kd us, ?_, ?_, ?_⟩
    · have e : (Tm.node kd ts).depth + 3 * m = (Tm.depths ts + 3 * m) + 1 := by simp only [Tm.depth]; omega
      rw [e]; exact .node a b
    · unfold Wf; exact ⟨by omega, c⟩
    · simp only [Tm.depth]; omega
theorem wh_exs {sg : Int → Option Tm} {m : Nat} {lo : Int} (h0 : 0 ≤ lo) (hv : ∀ i, lo ≤ i → i < 5 → ∃ u, Wh sg (3 * m) (.var i) u ∧ Wf 0 5 u ∧ u.depth ≤ 2 * m) : ∀ (ts : List Tm), Wfs lo 5 ts → WhsEx sg (Tm.depths ts + 3 * m) (Tm.depths ts + 2 * m) ts
  | [], _ => ⟨[], rfl, fun j t u e => by simp at e, by unfold Wfs; trivial, by simp [Tm.depths]⟩
  | t :: r, w => by
    unfold Wfs at w
    obtain ⟨u, a, b, c⟩ := wh_ex1 h0 hv t w.1
    obtain ⟨us, a', b', c', d'⟩ := wh_exs h0 hv r w.2
    refine ⟨u :: us, by simp [a'], fun j t1 u1 e1 e2 => ?_, ?_, ?_⟩
    · cases j with
      | zero => simp at e1 e2; subst e1 e2; exact a.mono (by simp only [Tm.depths]; omega)
      | succ j => simp at e1 e2; exact (b' j t1 u1 e1 e2).mono (by simp only [Tm.depths]; omega)
    · unfold Wfs; exact ⟨b, c'⟩
    · simp only [Tm.depths]; omega
end
theorem wh_ex {sg : Int → Option Tm} (G : SgOk sg) : ∀ (m : Nat) (lo : Int), 0 ≤ lo → 5 ≤ lo + m → ∀ (t : Tm), Wf lo 5 t → ∃ u, Wh sg (t.depth + 3 * m) t u ∧ Wf 0 5 u ∧ u.depth ≤ t.depth + 2 * m
  | 0, lo, h0, h5 => wh_ex1 h0 fun i a b => by omega
  | m + 1, lo, h0, h5 => wh_ex1 h0 fun i a b => by
    cases e : sg i with
    | none => exact ⟨.var i, .free e, by unfold Wf; omega, by simp [Tm.depth]⟩
    | some t =>
      obtain ⟨_, _, hw, hd⟩ := G i t e
      obtain ⟨u, x, y, z⟩ := wh_ex G m (i + 1) (by omega) (by omega) t hw
      refine ⟨u, ?_, y, by omega⟩
      have : Wh sg ((t.depth + 3 * m) + 1) (.var i) u := .bound e x
      exact this.mono (by omega)
/-- every term over the five variables comes to a term -/
theorem wh_all {sg : Int → Option Tm} (G : SgOk sg) (t : Tm) (w : Wf 0 5 t) (d : t.depth ≤ 3) : ∃ u, Wh sg 18 t u ∧ Wf 0 5 u ∧ u.depth ≤ 13 := by
  obtain ⟨u, a, b, c⟩ := wh_ex G 5 0 (by omega) (by omega) t w
  exact ⟨u, a.mono (by omega), b, by omega⟩
/-- what a term comes to comes to itself -/
theorem wh_idem {sg : Int → Option Tm} {n : Nat} {t u : Tm} (h : Wh sg n t u) : Wh sg n u u := by
  induction h with
  | num => exact .num
  | free e => exact .free e
  | bound _ _ ih => exact ih.mono (Nat.le_succ _)
  | @node n kd ts us hl _ ih =>
    refine .node rfl fun j u1 u2 e1 e2 => ?_
    rw [e1] at e2; cases e2
    have := (List.getElem?_eq_some_iff.mp e1).1
    obtain ⟨t, e⟩ : ∃ t, ts[j]? = some t := ⟨_, List.getElem?_eq_getElem (by omega)⟩
    exact ih j t u1 e e1
mutual
theorem wh_none {n : Nat} : ∀ (t : Tm), t.depth ≤ n → Wh (fun _ => none) n t t
  | .num _, _ => .num
  | .var _, _ => .free rfl
  | .node kd ts, h => by
    simp only [Tm.depth] at h
    obtain ⟨m, rfl⟩ : ∃ k, n = k + 1 := ⟨n - 1, by omega⟩
    exact .node rfl (whs_none ts (by omega))
theorem whs_none {n : Nat} : ∀ (ts : List Tm), Tm.depths ts ≤ n → ∀ (j : Nat) (t u : Tm), ts[j]? = some t → ts[j]? = some u → Wh (fun _ => none) n t u
  | [], _, j, t, u, e, _ => by simp at e
  | t :: r, h, j, t1, u1, e1, e2 => by
    simp only [Tm.depths] at h
    cases j with
    | zero => simp at e1 e2; subst e1 e2; exact wh_none t (by omega)
    | succ j => simp at e1 e2; exact whs_none r (by omega) j t1 u1 e1 e2
end
end Mine
end
section -- M38
open PySem PySem.W PySem.Calls PyProof.Rows
set_option maxRecDepth 100000
namespace Mine
section
variable {prog : Program} {w : World} {A : Around} {E : Value → Shared → Prop} {env : Env}
/-- a list comprehension over the int keys of a dict -/
theorem comp_dictT {s : Shared} {elt iter : Expr} {x : Str} {px : Pos} {ifs : List Expr} {scope : Scope} {cl : List (Str × Addr)} {pos : Pos} {Q : Value → Shared → Prop}
    (hh : A.handled = none) (hclos : closureFor scope env = pure cl) (hcell : ∀ y ∈ scope.names, y.2 ≠ .cell) (hkind : scope.kind = .function)
    (hnames : ∀ y ∈ scope.names, y.2 = .local → scope.names.lookup y.1 = some .local) (hx : scope.names.lookup x = some .local)
    (h : wpAny (model prog w) A (eval iter env) (fun xv s₁ => ∃ ax, ∃ kvs : List (Int × Value), ∃ mu : List Addr, ∃ J : List Addr → List Value → List Value → Heap → Prop, xv = .ref ax ∧ (ax == sysModules) = false ∧ s₁.heap.DictOf (intKind prog w) ax kvs ∧ kvs.length ≤ sizeLine ∧ ax ∉ mu ∧ (∀ b ∈ mu, b < s₁.heap.objs.size) ∧
      (∀ O vs ys h h', J O vs ys h → KeepX O h h' → J O vs ys h') ∧
      (∀ O, (∀ b ∈ O, s₁.heap.objs.size ≤ b) → J O [] [] s₁.heap) ∧
      CTurnT prog w A env scope cl x ifs elt mu J kvs.length (fun j v => ∃ k t y, v = .int k t ∧ kvs[j]? = some (k, y)) s₁ ∧
      CEnd mu J kvs.length (fun j v => ∃ k t y, v = .int k t ∧ kvs[j]? = some (k, y)) Q s₁) E s)
    (hs : ∀ x, foldedSetIterable iter env x = pure x := by intro _; rfl) :
    wpAny (model prog w) A (eval (.ListComp elt [⟨.Name x px, iter, ifs, 0⟩] scope pos) env) Q E s := by
  refine comp_gen hclos hcell hkind hnames hx (wpAny_mono h (fun xv s₁ h₁ => ?_) fun _ _ e => e) hs
  obtain ⟨ax, kvs, mu, J, rfl, lo, hD, hsz, hax, hmu, stab, hJ0, hturn, hend⟩ := h₁
  obtain ⟨ep, hl⟩ := hD.dictAt
  have hlt : ax < s₁.heap.objs.size := hl.lt_size
  have toP : ∀ {j : Nat} {v : Value}, (∃ k x, kvs[j]? = some (k, x) ∧ (intKind prog w).is k v = true) → ∃ k t y, v = .int k t ∧ kvs[j]? = some (k, y) := fun ⟨k, x, e, q⟩ => by
    obtain ⟨t, rfl⟩ := Value.isInt_shape q
    exact ⟨k, t, x, rfl, e⟩
  have up : ∀ {ob : Obj} {h₃ : Heap}, KeepX ([s₁.heap.objs.size] ++ mu) (s₁.heap.push ob) h₃ → KeepX mu s₁.heap h₃ :=
    fun hk b o n e => hk b o (fun q => (List.mem_append.mp q).elim (fun q => Nat.lt_irrefl _ (List.mem_singleton.mp q ▸ Heap.lt_size e)) n) (Heap.get?_push_of_some _ e)
  refine wpAny_pyIter_dict lo hl ⟨s₁.heap.objs.size, [s₁.heap.objs.size, ax], [s₁.heap.objs.size], kvs.length, _, _, mu, J, rfl, Walks.dictKeys (knd := intKind prog w) hh _ _ (Nat.ne_of_lt hlt) kvs ep, hsz, ⟨⟨_, Heap.get?_push_size _ rfl, rfl, rfl⟩, hl.push _⟩, ?_, ?_, ?_, stab, ?_, ?_, ?_⟩
  · intro b hb
    show b < (s₁.heap.push _).objs.size
    rw [Heap.size_push]
    rcases List.mem_cons.mp hb with rfl | hb
    · exact Nat.lt_succ_self _
    · rw [List.mem_singleton.mp hb]; exact Nat.lt_succ_of_lt hlt
  · intro b hb
    refine ⟨fun q => ?_, ?_⟩
    · rcases List.mem_cons.mp q with e | q
      · exact Nat.lt_irrefl _ (e ▸ hmu b hb)
      · exact hax (List.mem_singleton.mp q ▸ hb)
    · show b < (s₁.heap.push _).objs.size
      rw [Heap.size_push]; exact Nat.lt_succ_of_lt (hmu b hb)
  · intro i h hs b hb
    rw [List.mem_singleton.mp hb]
    obtain ⟨⟨o, ho, _⟩, _⟩ := hs
    exact ⟨o, ho⟩
  · intro C D hC hD
    refine stab _ _ _ _ _ (hJ0 _ ?_) (KeepX.of fun b o e => Heap.get?_push_of_some _ e)
    intro b hb
    have hC' : (s₁.heap.push _).objs.size ≤ C := hC
    have hD' : (s₁.heap.push _).objs.size ≤ D := hD
    rw [Heap.size_push] at hC' hD'
    rcases List.mem_cons.mp hb with rfl | hb
    · exact Nat.le_of_succ_le hC'
    · rcases List.mem_cons.mp hb with rfl | hb
      · exact Nat.le_of_succ_le hD'
      · rw [List.mem_singleton.mp hb]; exact Nat.le_refl _
  · intro C D v vs ys s₃ m₃ E' hC hD hHas hlt' hP hn hm hj hk e1 e2 e3
    have hC' : (s₁.heap.push _).objs.size ≤ C := hC
    have hD' : (s₁.heap.push _).objs.size ≤ D := hD
    rw [Heap.size_push] at hC' hD'
    refine hturn _ C v vs ys s₃ m₃ E' ?_ hHas (Nat.le_of_succ_le hC') hlt' (toP hP) hn hm hj (up hk) e1 e2 e3
    intro b hb
    rcases List.mem_cons.mp hb with rfl | hb
    · exact Nat.le_of_succ_le hC'
    · rcases List.mem_cons.mp hb with rfl | hb
      · exact Nat.le_of_succ_le hD'
      · rw [List.mem_singleton.mp hb]; exact Nat.le_refl _
  · intro C D h' tk vs ys hC hD hl' hlen hP hj hk
    have hC' : (s₁.heap.push _).objs.size ≤ C := hC
    have hD' : (s₁.heap.push _).objs.size ≤ D := hD
    rw [Heap.size_push] at hC' hD'
    refine hend _ D h' tk vs ys ?_ (by simp) hl' hlen (fun j v e => toP (hP j v e)) hj (up hk)
    intro b hb
    rcases List.mem_cons.mp hb with rfl | hb
    · exact Nat.le_of_succ_le hC'
    · rcases List.mem_cons.mp hb with rfl | hb
      · exact Nat.le_of_succ_le hD'
      · rw [List.mem_singleton.mp hb]; exact Nat.le_refl _
end
end Mine
end
section -- N29
open PySem PySem.W PySem.Calls PyProof.Rows
set_option maxRecDepth 100000
set_option maxHeartbeats 8000000
set_option linter.unusedVariables false
namespace Mine
local macro_rules | `(tactic| k_all) => `(tactic| assumption)
local macro_rules | `(tactic| ktr_enter) => `(tactic| first
  | (refine' code_defG ?k1 ?k2 ?k3 ?k4 ?k5 ?kA ?kF ?kK ?k6 ?k7 ?k8 ?k9 ?kB ?_ ?c2 ?c3 ?c4 ?c5; (case kA => exact rfl); (case kF => exact rfl); (case kK => first | assumption | exact rfl); (case k1 => k_asm); (case k2 => k_asm); (case k3 => k_asm); (case k4 => first | k_asm | exact News.nil); (case k5 => k_asm); (case k6 => k_is); (case k7 => k_is); (case k8 => ktr_room); (case k9 => exact BindsTo.of_eq rfl); (case c5 => decide); (case kB => exact locs rfl); (case c2 => exact rfl); (case c3 => exact rfl); (case c4 => exact rfl))
  | (refine' code_defCG ?k1 ?k2 ?k3 ?k4 ?k5 ?kA ?kF ?kK ?k6 ?k7 ?k8 ?k9 ?kB ?kD ?_ ?c2 ?c3 ?c4; (case kA => exact rfl); (case kF => exact rfl); (case kK => first | assumption | exact rfl); (case k1 => k_asm); (case k2 => k_asm); (case k3 => k_asm); (case k4 => first | k_asm | exact News.nil); (case k5 => k_asm); (case k6 => k_is); (case k7 => k_is); (case k8 => ktr_room); (case k9 => exact BindsTo.of_eq rfl); (case kB => exact rfl); (case kD => decide +kernel); (case c2 => exact rfl); (case c3 => exact rfl); (case c4 => exact rfl)))
local macro_rules | `(tactic| k_room) => `(tactic| (first | ((try simp only [depth_under_make, depth_under_kw, depth_in1, depth_deeper, depth_caller]); decide) | (dsimp only [ktrTop, Around.deeper, Around.in1, Around.mark]; omega) | ((try simp only [depth_under_make, depth_under_kw, depth_in1, depth_deeper, depth_caller]); (try dsimp only [ktrTop, Around.deeper, Around.in1, Around.mark]); omega)))
local macro_rules | `(tactic| k_units) => `(tactic| (first | exact Nat.le_of_ble_eq_true rfl | (dsimp only [ktrTop, Around.deeper, Around.in1, Around.mark]; omega)))
local macro_rules | `(tactic| k_inst) => `(tactic| first | (refine' inst_up1 ?F ?I; (case F => k_asm); (case I => assumption)) | (refine' inst_up2 ?F2 ?F ?I; (case F2 => k_asm); (case F => k_asm); (case I => assumption)))
local macro_rules | `(tactic| walk_at "call ref") => `(tactic| (k_here; (with_reducible show wpAny _ _ (call (Value.ref 241) _) _ _ _); refine of_here ?_))
local macro_rules | `(tactic| walk_at "call ref") => `(tactic| (k_here; (with_reducible show wpAny _ _ (call (Value.ref 246) _) _ _ _); refine of_here ?_))
local macro_rules | `(tactic| walk_at "call ref") => `(tactic| (k_here; (with_reducible show wpAny _ _ (call (Value.ref 273) _) _ _ _); refine of_here ?_))
local macro_rules | `(tactic| walk_at "setItem ref int") => `(tactic| (k_here; refine of_here ?_))
local macro_rules | `(tactic| walk_at "eval Name") => `(tactic| (k_here; k_inBlock; first | (with_unfolding_all refine ldVarK (by assumption) (by assumption) ?_) | (with_unfolding_all refine ldCellK rfl ⟨_, News.get (by k_asm) (by k_mem), by assumption⟩ ?_)))
theorem term_use (w : World) {p : Program} {loose : List Str} {mean : ExcName → Option Value} {mg mb : Str → Option Value} {sl dw kl : Addr} {vs : List Value} {ns : List Int} (d : Nat)
    {dp un : Nat} {gd : Option (List Code)} {cn : Str} {cs : Scope} {a : Addr} {ccd : Value} {cl : List (Str × Addr)} {outer : List Env} {A₀ : Around} {base h₀ : Heap} {L : Addr} {m : Str → Option Value} {s : Shared}
    {ow : Obj} {tk u1 u2 u3 u4 : Tok} {Xs : List Addr} {Q E : Value → Shared → Prop} {news : List (Addr × Obj)} {gg : Obj → List (Addr × Obj)}
    (B : Below A₀ base outer h₀) (F : Fr h₀ L s.heap m) (X : (Mine.hd.heap_39 w.params).In h₀) (N : News h₀ L s.heap news) (U : UpdF dw ow news gg) (T : Top p loose mean mg mb h₀) (hk : cs.kind = .function)
    (hl : base.IsList sl vs.toArray) (hI : IntsAre vs ns) (hlen : ns.length ≤ 63)
    (hkl : s.heap.IsList kl #[.str (Str.ofString "row") u1, .str (Str.ofString "list") u2, .str (Str.ofString "dict") u3, .str (Str.ofString "row") u4]) (hkd : kl ≠ dw)
    (hW : WDict w sl ow) (hX : Has s.heap Xs) (hd : dp + d + 4 < recursionLimit) (hu : un + 20 * d + 20 < cLine)
    (hret : ∀ t r ow' h' tks, Fr h₀ L h' m → News h₀ L h' (gg ow') → WDict w sl ow' → KeepX [dw] s.heap h' → TmAt h' Xs t r → t.depth ≤ d → Wf 0 4 t → Q r { s with heap := h', toks := tks }) :
    wpAny (model PySem.Challenge.rw_ez0159_01.row.prog w) (ktrTop dp un gd cn cs L a ccd cl outer) (call (.ref 246) [.ref dw, .int (d : Int) tk, .ref kl]) Q E s :=
  term_c w d B F X (news_one N U) T hk hl hI hlen hkl hkd hW hX hd hu fun t r ow' h' tks F' N' W' k a b c => hret t r ow' h' tks F' (news_turned N U N' k) W' k a b c
/-- what stands fast, and lies in hA -/
structure LawA (w : World) (h₀ : Heap) (L scr dw nl kl sd : Addr) (nv : Int → Addr) (hA : Heap) (vs : List Value) (ns : List Int) : Prop where
  fix : LawFix w h₀ L dw nl kl sd nv hA
  up0 : ∀ b o, h₀.get? b = some o → hA.get? b = some o
  mod : ∃ o, h₀.get? sysModules = some o
  hL : ∃ o, hA.get? L = some o
  hdw : ∃ o, hA.get? dw = some o
  hsd : ∃ o, hA.get? sd = some o
  lst : h₀.IsList scr vs.toArray
  int : IntsAre vs ns
  len : ns.length ≤ 63
/-- the state of the law between its statements -/
structure LAt (w : World) (h₀ : Heap) (L scr dw kl sd : Addr) (hA : Heap) (O : List Addr) (h : Heap) (m : Str → Option Value) : Prop where
  F : Fr h₀ L h m
  mw : m (Str.ofString "w") = some (.ref dw)
  mki : m (Str.ofString "kinds") = some (.ref kl)
  wd : ∃ ow, h.get? dw = some ow ∧ WDict w scr ow
  keep : KeepX [L, dw, sd] hA h
  new : ∀ b ∈ O, hA.get? b = none
theorem LawA.ne {w : World} {h₀ : Heap} {L scr dw nl kl sd : Addr} {nv : Int → Addr} {hA : Heap} {vs : List Value} {ns : List Int} (a : LawA w h₀ L scr dw nl kl sd nv hA vs ns) {O : List Addr} (n : ∀ b ∈ O, hA.get? b = none) : L ∉ O ∧ dw ∉ O ∧ sd ∉ O ∧ ∀ b o, h₀.get? b = some o → b ∉ O := by
  refine ⟨fun q => ?_, fun q => ?_, fun q => ?_, fun b o e q => ?_⟩
  · obtain ⟨o, e⟩ := a.hL; rw [n _ q] at e; cases e
  · obtain ⟨o, e⟩ := a.hdw; rw [n _ q] at e; cases e
  · obtain ⟨o, e⟩ := a.hsd; rw [n _ q] at e; cases e
  · have := a.up0 b o e; rw [n _ q] at this; cases this
theorem LAt.stab {w : World} {h₀ : Heap} {L scr dw nl kl sd : Addr} {nv : Int → Addr} {hA : Heap} {vs : List Value} {ns : List Int} {O : List Addr} {h h' : Heap} {m : Str → Option Value} (a : LawA w h₀ L scr dw nl kl sd nv hA vs ns) (x : LAt w h₀ L scr dw kl sd hA O h m) (k : KeepX O h h') : LAt w h₀ L scr dw kl sd hA O h' m := by
  obtain ⟨n1, n2, n3, n4⟩ := a.ne x.new
  obtain ⟨⟨ns', st, ab⟩, mw, mk, ⟨ow, wd1, wd2⟩, keep, new⟩ := x
  exact ⟨⟨ns'.at' fun o e => k L o n1 e, fun b o e => k b o (n4 b o e) (st b o e), ab⟩, mw, mk, ⟨ow, k _ _ n2 wd1, wd2⟩, fun b o n e => k b o (fun q => by rw [new b q] at e; cases e) (keep b o n e), new⟩
theorem LAt.news {w : World} {h₀ : Heap} {L scr dw nl kl sd : Addr} {nv : Int → Addr} {hA : Heap} {vs : List Value} {ns : List Int} {O : List Addr} {h : Heap} {m : Str → Option Value} {ow : Obj} (a : LawA w h₀ L scr dw nl kl sd nv hA vs ns) (x : LAt w h₀ L scr dw kl sd hA O h m) (e : h.get? dw = some ow) :
    ∃ oc1 oc2, oc1.data = .cell (some (.ref nl)) ∧ oc2.data = .cell (some (.ref sd)) ∧ News h₀ L h [(dw, ow), (L + 1 + 1, oc2), (L + 1, oc1)] := by
  obtain ⟨o1, h1, d1⟩ := a.fix.c1
  obtain ⟨o2, h2, d2⟩ := a.fix.c2
  have a1 := a.fix.ap (L + 1) (by simp)
  have a2 := a.fix.ap (L + 1 + 1) (by simp)
  refine ⟨o1, o2, d1, d2, news_cons e a.fix.d1 (a.fix.zz _ (by simp)) (news_cons (x.keep _ _ a2 h2) (fun q => a2 (by simp [q])) (a.fix.zz _ (by simp)) (news_cons (x.keep _ _ a1 h1) (fun q => a1 (by simp [q])) (a.fix.zz _ (by simp)) News.nil))⟩
/-- the entries of the law's s: int keys, rising, and terms of later variables -/
structure KsAt (h : Heap) (X : List Addr) (n : Nat) (kvs : List (Int × Value)) (ks : List (Int × Tm)) : Prop where
  keys : kvs.map (·.1) = ks.map (·.1)
  nod : (kvs.map (·.1)).Nodup
  rng : ∀ q ∈ kvs, 0 ≤ q.1 ∧ q.1 < n
  cnt : kvs.length ≤ n
  tm : ∀ (j : Nat) (k : Int) (v : Value) (t : Tm), kvs[j]? = some (k, v) → ks[j]? = some (k, t) → TmAt h X t v
  ok : ∀ (k : Int) (t : Tm), (k, t) ∈ ks → Wf (k + 1) 5 t ∧ t.depth ≤ 2
theorem KsAt.map {h h' : Heap} {X Y : List Addr} {n : Nat} {kvs : List (Int × Value)} {ks : List (Int × Tm)} (x : KsAt h X n kvs ks) (f : ∀ t v, TmAt h X t v → TmAt h' Y t v) : KsAt h' Y n kvs ks := ⟨x.keys, x.nod, x.rng, x.cnt, fun j k v t a b => f _ _ (x.tm j k v t a b), x.ok⟩
theorem KsAt.nil {h : Heap} {X : List Addr} : KsAt h X 0 [] [] := ⟨rfl, by simp, by simp, by simp, by simp, by simp⟩
theorem KsAt.next {h : Heap} {X : List Addr} {n : Nat} {kvs : List (Int × Value)} {ks : List (Int × Tm)} (x : KsAt h X n kvs ks) : KsAt h X (n + 1) kvs ks := ⟨x.keys, x.nod, fun q hq => by have := x.rng q hq; omega, by have := x.cnt; omega, x.tm, x.ok⟩
theorem KsAt.fresh {h : Heap} {X : List Addr} {n : Nat} {kvs : List (Int × Value)} {ks : List (Int × Tm)} (x : KsAt h X n kvs ks) : (n : Int) ∉ kvs.map (·.1) := fun q => by
  obtain ⟨z, hz, e⟩ := List.mem_map.mp q
  have := x.rng z hz
  omega
theorem KsAt.snoc {h : Heap} {X : List Addr} {n : Nat} {kvs : List (Int × Value)} {ks : List (Int × Tm)} {v : Value} {t : Tm} (x : KsAt h X n kvs ks) (ht : TmAt h X t v) (hw : Wf ((n : Int) + 1) 5 t) (hd : t.depth ≤ 2) : KsAt h X (n + 1) (kvs ++ [((n : Int), v)]) (ks ++ [((n : Int), t)]) := by
  have hl : kvs.length = ks.length := by have := congrArg List.length x.keys; simpa using this
  refine ⟨by simp [x.keys], ?_, fun q hq => ?_, by have := x.cnt; simp; omega, fun j k v' t' e1 e2 => ?_, fun k t' hm => ?_⟩
  · rw [List.map_append, List.nodup_append]
    refine ⟨x.nod, by simp, fun a ha b hb => ?_⟩
    simp at hb
    subst hb
    intro e
    subst e
    exact x.fresh ha
  · rcases List.mem_append.mp hq with q1 | q1
    · have := x.rng q q1; omega
    · rw [List.mem_singleton.mp q1]; show 0 ≤ (n : Int) ∧ (n : Int) < _; omega
  · rcases get_snoc e1 with ⟨h1, e1⟩ | ⟨h1, e1⟩
    · rcases get_snoc e2 with ⟨h2, e2⟩ | ⟨h2, e2⟩
      · exact x.tm j k v' t' e1 e2
      · omega
    · rcases get_snoc e2 with ⟨h2, e2⟩ | ⟨h2, e2⟩
      · omega
      · cases e1; cases e2; exact ht
  · rcases List.mem_append.mp hm with q | q
    · exact x.ok k t' q
    · cases List.mem_singleton.mp q; exact ⟨hw, hd⟩
theorem KsAt.sg {h : Heap} {X : List Addr} {n : Nat} {kvs : List (Int × Value)} {ks : List (Int × Tm)} (x : KsAt h X n kvs ks) (hn : n ≤ 5) : SgOk (lookT ks) := fun k t e => by
  have hm := lookT_mem e
  obtain ⟨q, hq, e1⟩ : ∃ q ∈ kvs, q.1 = k := by
    have : k ∈ kvs.map (·.1) := by rw [x.keys]; exact List.mem_map_of_mem hm (f := (·.1))
    obtain ⟨q, a, b⟩ := List.mem_map.mp this
    exact ⟨q, a, b⟩
  have := x.rng q hq
  exact ⟨by omega, by omega, (x.ok k t hm).1, (x.ok k t hm).2⟩

end Mine
end
section -- N30
open PySem PySem.W PySem.Calls PyProof.Rows
set_option maxRecDepth 100000
set_option maxHeartbeats 8000000
set_option linter.unusedVariables false
namespace Mine
local macro_rules | `(tactic| k_all) => `(tactic| assumption)
local macro_rules | `(tactic| ktr_enter) => `(tactic| first
  | (refine' code_defG ?k1 ?k2 ?k3 ?k4 ?k5 ?kA ?kF ?kK ?k6 ?k7 ?k8 ?k9 ?kB ?_ ?c2 ?c3 ?c4 ?c5; (case kA => exact rfl); (case kF => exact rfl); (case kK => first | assumption | exact rfl); (case k1 => k_asm); (case k2 => k_asm); (case k3 => k_asm); (case k4 => first | k_asm | exact News.nil); (case k5 => k_asm); (case k6 => k_is); (case k7 => k_is); (case k8 => ktr_room); (case k9 => exact BindsTo.of_eq rfl); (case c5 => decide); (case kB => exact locs rfl); (case c2 => exact rfl); (case c3 => exact rfl); (case c4 => exact rfl))
  | (refine' code_defCG ?k1 ?k2 ?k3 ?k4 ?k5 ?kA ?kF ?kK ?k6 ?k7 ?k8 ?k9 ?kB ?kD ?_ ?c2 ?c3 ?c4; (case kA => exact rfl); (case kF => exact rfl); (case kK => first | assumption | exact rfl); (case k1 => k_asm); (case k2 => k_asm); (case k3 => k_asm); (case k4 => first | k_asm | exact News.nil); (case k5 => k_asm); (case k6 => k_is); (case k7 => k_is); (case k8 => ktr_room); (case k9 => exact BindsTo.of_eq rfl); (case kB => exact rfl); (case kD => decide +kernel); (case c2 => exact rfl); (case c3 => exact rfl); (case c4 => exact rfl)))
local macro_rules | `(tactic| k_room) => `(tactic| (first | ((try simp only [depth_under_make, depth_under_kw, depth_in1, depth_deeper, depth_caller]); decide) | (dsimp only [ktrTop, Around.deeper, Around.in1, Around.mark]; omega) | ((try simp only [depth_under_make, depth_under_kw, depth_in1, depth_deeper, depth_caller]); (try dsimp only [ktrTop, Around.deeper, Around.in1, Around.mark]); omega)))
local macro_rules | `(tactic| k_units) => `(tactic| (first | exact Nat.le_of_ble_eq_true rfl | (dsimp only [ktrTop, Around.deeper, Around.in1, Around.mark]; omega)))
local macro_rules | `(tactic| walk_at "call ref") => `(tactic| (k_here; (with_reducible show wpAny _ _ (call (Value.ref 241) _) _ _ _); refine of_here ?_))
local macro_rules | `(tactic| walk_at "call ref") => `(tactic| (k_here; (with_reducible show wpAny _ _ (call (Value.ref 246) _) _ _ _); refine of_here ?_))
local macro_rules | `(tactic| walk_at "call ref") => `(tactic| (k_here; (with_reducible show wpAny _ _ (call (Value.ref 273) _) _ _ _); refine of_here ?_))
local macro_rules | `(tactic| walk_at "setItem ref int") => `(tactic| (k_here; refine of_here ?_))
local macro_rules | `(tactic| walk_at "eval Name") => `(tactic| (k_here; k_inBlock; first | (with_unfolding_all refine ldVarK (by assumption) (by assumption) ?_) | (with_unfolding_all refine ldCellK rfl ⟨_, News.get (by k_asm) (by k_mem), by assumption⟩ ?_)))
local macro_rules | `(tactic| walk_at "eval Name") => `(tactic| (k_here; k_dflt (refine' nameX_L ?F ?v ?_ ?a ?b; (case F => k_asm); (case a => rfl); (case b => rfl); (case v => assumption))))
theorem valueAt_absent {kvs : List (Int × Value)} {k : Int} (h : k ∉ kvs.map (·.1)) : valueAt kvs k = none := by
  unfold valueAt
  rw [List.find?_eq_none.mpr]
  · rfl
  · intro q hq e
    simp at e
    exact h (e ▸ List.mem_map_of_mem hq (f := (·.1)))
theorem LAt.low {w : World} {h₀ : Heap} {L scr dw nl kl sd : Addr} {nv : Int → Addr} {hA : Heap} {vs : List Value} {ns : List Int} {O : List Addr} {h : Heap} {m : Str → Option Value} (a : LawA w h₀ L scr dw nl kl sd nv hA vs ns) (x : LAt w h₀ L scr dw kl sd hA O h m) (hsd : ∃ o, h.get? sd = some o) {b : Addr} (hb : h.objs.size ≤ b) : hA.get? b = none := by
  cases e : hA.get? b with
  | none => rfl
  | some o =>
    exfalso
    have al : ∃ o, h.get? b = some o := by
      by_cases q : b ∈ [L, dw, sd]
      · simp at q
        rcases q with rfl | rfl | rfl
        · exact has_frame x.F
        · obtain ⟨ow, e1, _⟩ := x.wd; exact ⟨_, e1⟩
        · exact hsd
      · exact ⟨_, x.keep b o q e⟩
    obtain ⟨o', e'⟩ := al
    exact Nat.lt_irrefl _ (Nat.lt_of_lt_of_le (Heap.lt_size e') hb)
theorem law_fill (w : World) {p : Program} {loose : List Str} {mean : ExcName → Option Value} {mg mb : Str → Option Value} {h₀ hA : Heap} {L fa scr dw nl kl sd : Addr} {nv : Int → Addr} {vs : List Value} {ns : List Int} {cd : Value} {s : Shared} {m : Str → Option Value} {Q : Flow → Shared → Prop} {E : Value → Shared → Prop}
    {oc : Value} {od : Option Addr} {fd : FuncData} {osl : Array (Option Value)} {body : List Stmt} (h1 : (Mine.hd.heap_39 w.params).lookup 278 = some ⟨oc, od, .func fd, osl⟩) (h2 : fd.body = .stmts body)
    (B : Below callerA h₀ [] h₀) (X : (Mine.hd.heap_39 w.params).In h₀) (T : Top p loose mean mg mb h₀) (a : LawA w h₀ L scr dw nl kl sd nv hA vs ns) (x : LAt w h₀ L scr dw kl sd hA [] s.heap m) (hs : s.heap.DictOf (intKind PySem.Challenge.rw_ez0159_01.row.prog w) sd [])
    (hk : ∀ h tk m kvs ks, LAt w h₀ L scr dw kl sd hA [] h m → h.DictOf (intKind PySem.Challenge.rw_ez0159_01.row.prog w) sd kvs → KsAt h [sysModules, L, dw, sd] 5 kvs ks →
      wpAny (model PySem.Challenge.rw_ez0159_01.row.prog w) (callerA.deeper (envOfC (Str.ofString "law") fd.scope L fa cd)) (execs (body.drop 5) (envOfC (Str.ofString "law") fd.scope L fa cd)) Q E { s with heap := h, toks := tk }) :
    wpAny (model PySem.Challenge.rw_ez0159_01.row.prog w) (callerA.deeper (envOfC (Str.ofString "law") fd.scope L fa cd)) (execs (body.drop 4) (envOfC (Str.ofString "law") fd.scope L fa cd)) Q E s := by
  refine' with_fd h1 ?ho ?_
  case ho => k_is
  intro e
  subst e
  clear h1
  cases h2
  refine (?_ : wpAny _ (callerA.deeper (envOfC _ _ _ _ _)) (execs (_ :: _) (envOfC _ _ _ _ _)) _ _ _)
  refine wpAny_execs_cons ?_
  refine for_rangeT rfl ?_ (by intro _; with_unfolding_all rfl)
  have F0 := x.F
  obtain ⟨rest0, N0, hex0, hcov0⟩ := coverage h₀ s.heap L []
  have FK0 := fun h'' m' (F' : Fr h₀ L h'' m') N' => keep_all (h' := h'') (l := []) F0 hcov0 N0 F' N' rfl
  refine wpAny_here ?_
  k_steps
  unfold Here
  rename_i hr tkr t1r u1r v1r Rz Fz Nz upz
  have x1 : LAt w h₀ L scr dw kl sd hA [] hr m := x.stab a (KeepX.of upz)
  have hs1 : hr.DictOf (intKind PySem.Challenge.rw_ez0159_01.row.prog w) sd [] := hs.at fun o e => upz _ _ e
  have hsd1 : ∃ o, hr.get? sd = some o := let ⟨o, _, _, e, _⟩ := hs1; ⟨o, e⟩
  clear hs x FK0 hcov0 hex0
  refine ⟨_, _, _, _, _, 5, fun O j z => ∃ h tk m' kvs ks, z = { s with heap := h, toks := tk } ∧ LAt w h₀ L scr dw kl sd hA O h m' ∧ h.DictOf (intKind PySem.Challenge.rw_ez0159_01.row.prog w) sd kvs ∧ KsAt h (sysModules :: L :: dw :: sd :: O) j kvs ks, rfl, Rz, (by rfl), (by decide), ?_, ?_, ?_, ?_⟩
  · rintro O j z h' tk' ⟨h, tk, m', kvs, ks, rfl, y, hd, K⟩ k
    have ne := a.ne y.new
    exact ⟨h', tk', m', kvs, ks, rfl, y.stab a k, hd.at fun o e => k _ _ ne.2.2.1 e, K.map fun t v ht => TmAt.keep (X := sysModules :: L :: dw :: sd :: O) (fun b o n e => k b o (fun q => n (by simp [q])) e) t ht⟩
  · intro O hO
    exact ⟨hr, _, m, [], [], rfl, ⟨x1.F, x1.mw, x1.mki, x1.wd, x1.keep, fun b hb => x1.low a hsd1 (hO b hb)⟩, hs1, KsAt.nil⟩
  · rintro O j t s₃ E' hO hHas hlt ⟨h3, tk3, m3, kvs, ks, rfl, x3, hs3, K3⟩
    obtain ⟨ow, hw1, hw2⟩ := x3.wd
    obtain ⟨oc1, oc2, dc1, dc2, N3'⟩ := x3.news a hw1
    obtain ⟨os, hos, hsd3⟩ := Heap.dictOf_iff.mp hs3
    have N3b := news_cons hos a.fix.d2 (a.fix.zz _ (by simp)) N3'
    obtain ⟨rest, hrest, hex, hcov⟩ := coverage h₀ h3 L [dw, sd]
    have N3 := news_append N3b hrest
    simp only [List.cons_append, List.nil_append] at N3
    have F3 := x3.F
    have q1 := x3.mw
    have q2 := x3.mki
    have FK3 := fun h'' m' (F' : Fr h₀ L h'' m') N' => cov_keep (h' := h'') F3 hcov F' N'
    have hne1 : ∀ p ∈ rest, p.1 ≠ dw := fun p hp => rest_ne hex (by simp) p hp
    have hne2 : ∀ p ∈ rest, p.1 ≠ sd := fun p hp => rest_ne hex (by simp) p hp
    have nsw : sd ≠ dw := a.fix.d3
    have ne1 : L + 1 ≠ dw := fun q => a.fix.ap (L + 1) (by simp) (by simp [q])
    have ne2 : L + 1 + 1 ≠ dw := fun q => a.fix.ap (L + 1 + 1) (by simp) (by simp [q])
    have ne3 : L + 1 ≠ sd := fun q => a.fix.ap (L + 1) (by simp) (by simp [q])
    have ne4 : L + 1 + 1 ≠ sd := fun q => a.fix.ap (L + 1 + 1) (by simp) (by simp [q])
    clear Fz Nz N3b N3' hrest
    refine (?_ : wpAny _ (callerA.deeper (envOfC _ _ _ _ _)) (storeName (envOfC _ _ _ _ _) _ _) _ _ _)
    refine wpAny_here ?_
    k_steps
    unfold Here
    rename_i h4 Fx N4
    obtain ⟨m4, F4, p1, p2, p3⟩ : ∃ m4, Fr h₀ L h4 m4 ∧ m4 (Str.ofString "w") = some (.ref dw) ∧ m4 (Str.ofString "kinds") = some (.ref kl) ∧ m4 (Str.ofString "k") = some (.int (j : Int) t) := ⟨_, Fx, (if_neg (by decide)).trans q1, (if_neg (by decide)).trans q2, if_pos rfl⟩
    clear Fx q1 q2
    refine wpAny_here ?_
    k_steps
    refine (?_ : wpAny _ (callerA.deeper (envOfC _ _ _ _ _)) (call _ _) _ _ _)
    have XL := a.lst
    have XI := a.int
    have XN := a.len
    refine' next_use w (dp := callerA.depth + 1) (un := _) (outer := []) B F4 X N4 T ?k XL XI XN hw2 ?U ?m ?d ?u (fun r tk' ow' h5 tks F5 N5 W5 r0 r3 k5 => ?_)
    case U => k_updF
    case k => exact rfl
    case m => decide
    case d => decide
    case u => decide
    have K5 : KeepX [L, dw, sd] h3 h5 := FK3 _ _ F5 (news_sub N5 fun q hq => List.mem_cons_of_mem _ (List.mem_cons_of_mem _ (List.mem_cons_of_mem _ (List.mem_cons_of_mem _ hq))))
    clear F4 N4 k5
    have neO := a.ne x3.new
    have outL : ∀ b, b ∈ O → b ∉ [L, dw, sd] := fun b hb q => by
      simp at q
      rcases q with q | q | q
      · exact neO.1 (q ▸ hb)
      · exact neO.2.1 (q ▸ hb)
      · exact neO.2.2.1 (q ▸ hb)
    k_steps
    · refine (?_ : wpAny _ (callerA.deeper (envOfC _ _ _ _ _)) (call _ _) _ _ _)
      obtain ⟨w1, w2, w3, w4, hkl⟩ := a.fix.kds
      have nk : kl ∉ [L, dw, sd] := a.fix.ap kl (by simp)
      have hasX : ∀ h, Fr h₀ L h m4 → (∃ o, h.get? dw = some o) → (∃ o, h.get? sd = some o) → KeepX [L, dw, sd] h3 h → Has h (sysModules :: L :: dw :: sd :: O) := fun h f1 f2 f3 k b hb => by
        rcases List.mem_cons.mp hb with rfl | hb0
        · obtain ⟨o, e⟩ := a.mod
          exact ⟨o, f1.keep _ _ e⟩
        rcases List.mem_cons.mp hb0 with rfl | hb1
        · exact has_frame f1
        rcases List.mem_cons.mp hb1 with rfl | hb2
        · exact f2
        rcases List.mem_cons.mp hb2 with rfl | hb3
        · exact f3
        obtain ⟨o, e⟩ := hHas b hb3
        exact ⟨o, k b o (outL b hb3) e⟩
      refine' term_use w 2 (dp := callerA.depth + 1) (outer := []) (Xs := sysModules :: L :: dw :: sd :: O) B F5 X N5 ?U T ?k XL XI XN (hkl.at fun o e => K5 kl o nk (x3.keep kl o nk e)) (fun q => nk (by simp [q])) W5 (hasX h5 F5 ⟨_, (N5 _ (List.Mem.tail _ (List.Mem.head _))).1⟩ ⟨_, (N5 _ (List.Mem.head _)).1⟩ K5) ?d ?u (fun tt r2 ow2 h6 tks6 F6 N6 W6 k6 tm6 d6 wf6 => ?_)
      case U => k_updF
      case k => exact rfl
      case d => decide
      case u => decide
      have K6 : KeepX [L, dw, sd] h3 h6 := FK3 _ _ F6 (news_sub N6 fun q hq => List.mem_cons_of_mem _ (List.mem_cons_of_mem _ (List.mem_cons_of_mem _ (List.mem_cons_of_mem _ hq))))
      clear F5 N5
      k_steps
      refine (?_ : wpAny _ (callerA.deeper (envOfC _ _ _ _ _)) (call _ _) _ _ _)
      refine' later_c w 3 (dp := callerA.depth + 1) (outer := []) (Xs := sysModules :: L :: dw :: sd :: O) B F6 X T ?k tm6 wf6 ?hdt ?hk0 ?hk1 (hasX h6 F6 ⟨_, (N6 _ (List.Mem.tail _ (List.Mem.head _))).1⟩ ⟨_, (N6 _ (List.Mem.head _)).1⟩ K6) ?d ?u (fun t7 r7 h7 tks7 F7 k7 tm7 d7 wf7 => ?_)
      case k => exact rfl
      case hdt => omega
      case hk0 => omega
      case hk1 => omega
      case d => decide
      case u => decide
      obtain ⟨rest7, hrest7, hex7, hcov7⟩ := coverage h₀ h7 L [sd]
      have FK7 := fun h'' m' (F' : Fr h₀ L h'' m') N' => cov_keep (h' := h'') F7 hcov7 F' N'
      have hne7 : ∀ p ∈ rest7, p.1 ≠ sd := fun p hp => rest_ne hex7 (by simp) p hp
      have N6k : News h₀ L h7 _ := news_kept N6 (KeepX.of fun b o e => k7 b o (by simp) e)
      have N7 := news_append (news_sub N6k (l' := [(sd, os), (L + 1 + 1, oc2)]) (by simp)) hrest7
      simp only [List.cons_append, List.nil_append] at N7
      have K7 : KeepX [L, dw, sd] h3 h7 := fun b o n e => k7 b o (by simp) (K6 b o n e)
      have hdw7 : h7.get? dw = some ow2 := (N6k _ (List.Mem.tail _ (List.Mem.head _))).1
      clear N6 N6k F6 hrest7
      k_steps
      refine (?_ : wpAny _ (callerA.deeper (envOfC _ _ _ _ _)) (setItem _ _ _) _ _ _)
      refine' kda_set (knd := intKind _ _) F7 N7 ?U hsd3 (intKind_is _ _ _ _) ?hsz (fun h8 o8 F8 N8 hd8 => ?_)
      case U => k_updF
      case hsz => exact Nat.le_trans (Nat.le_trans K3.cnt (Nat.le_of_lt hlt)) (by decide)
      have K8 : KeepX [L, sd] h7 h8 := FK7 _ _ F8 (news_sub N8 fun q hq => List.mem_cons_of_mem _ (List.mem_cons_of_mem _ hq))
      have K38 : KeepX [L, dw, sd] h3 h8 := fun b o n e => K8 b o (fun q => n (by simp at q ⊢; grind)) (K7 b o n e)
      clear F7 N7
      k_steps
      unfold Here
      rw [stored_absent (valueAt_absent K3.fresh)] at hd8
      have up38 : ∀ t v, TmAt h3 (sysModules :: L :: dw :: sd :: O) t v → TmAt h8 (sysModules :: L :: dw :: sd :: O) t v := fun t v ht => TmAt.keep (X := sysModules :: L :: dw :: sd :: O) (fun b o n e => K38 b o (fun q => n (by simp at q ⊢; grind)) e) t ht
      have tm8 : TmAt h8 (sysModules :: L :: dw :: sd :: O) t7 r7 := TmAt.keep (X := sysModules :: L :: dw :: sd :: O) (fun b o n e => K8 b o (fun q => n (by simp at q ⊢; grind)) e) t7 tm7
      exact ⟨⟨h8, _, m4, kvs ++ [((j : Int), r7)], ks ++ [((j : Int), t7)], rfl, ⟨F8, p1, p2, ⟨ow2, K8 _ _ (fun q => by simp at q; rcases q with q | q; exact a.fix.d1 q; exact nsw q.symm) hdw7, W6⟩, fun b o n e => K38 b o n (x3.keep b o n e), x3.new⟩, Heap.dictOf_iff.mpr ⟨o8, (N8 _ (List.Mem.head _)).1, hd8⟩, (K3.map up38).snoc tm8 wf7 (Nat.le_trans d7 d6)⟩, fun b hb o e => K38 b o (outL b hb) e⟩
    · unfold Here
      refine ⟨⟨h5, _, m4, kvs, ks, rfl, ⟨F5, p1, p2, ⟨ow', (N5 _ (List.Mem.tail _ (List.Mem.head _))).1, W5⟩, fun b o n e => K5 b o n (x3.keep b o n e), x3.new⟩, Heap.dictOf_iff.mpr ⟨os, (N5 _ (List.Mem.head _)).1, hsd3⟩, (K3.map fun t v ht => TmAt.keep (X := sysModules :: L :: dw :: sd :: O) (fun b o n e => K5 b o (fun q => n (by simp at q ⊢; grind)) e) t ht).next⟩, fun b hb o e => K5 b o (outL b hb) e⟩
  · rintro O s₃ hO ⟨h3, tk3, m3, kvs, ks, rfl, x3, hs3, K3⟩
    refine hk h3 tk3 m3 kvs ks ⟨x3.F, x3.mw, x3.mki, x3.wd, x3.keep, fun b hb => by simp at hb⟩ hs3 (K3.map fun t v ht => TmAt.setX (fun b o n _ q => n (by simp at q ⊢; grind)) t ht)

end Mine
end
section -- N31
open PySem PySem.W PySem.Calls PyProof.Rows
set_option maxRecDepth 100000
set_option maxHeartbeats 8000000
set_option linter.unusedVariables false
namespace Mine
local macro_rules | `(tactic| k_all) => `(tactic| assumption)
local macro_rules | `(tactic| ktr_enter) => `(tactic| first
  | (refine' code_defG ?k1 ?k2 ?k3 ?k4 ?k5 ?kA ?kF ?kK ?k6 ?k7 ?k8 ?k9 ?kB ?_ ?c2 ?c3 ?c4 ?c5; (case kA => exact rfl); (case kF => exact rfl); (case kK => first | assumption | exact rfl); (case k1 => k_asm); (case k2 => k_asm); (case k3 => k_asm); (case k4 => first | k_asm | exact News.nil); (case k5 => k_asm); (case k6 => k_is); (case k7 => k_is); (case k8 => ktr_room); (case k9 => exact BindsTo.of_eq rfl); (case c5 => decide); (case kB => exact locs rfl); (case c2 => exact rfl); (case c3 => exact rfl); (case c4 => exact rfl))
  | (refine' code_defCG ?k1 ?k2 ?k3 ?k4 ?k5 ?kA ?kF ?kK ?k6 ?k7 ?k8 ?k9 ?kB ?kD ?_ ?c2 ?c3 ?c4; (case kA => exact rfl); (case kF => exact rfl); (case kK => first | assumption | exact rfl); (case k1 => k_asm); (case k2 => k_asm); (case k3 => k_asm); (case k4 => first | k_asm | exact News.nil); (case k5 => k_asm); (case k6 => k_is); (case k7 => k_is); (case k8 => ktr_room); (case k9 => exact BindsTo.of_eq rfl); (case kB => exact rfl); (case kD => decide +kernel); (case c2 => exact rfl); (case c3 => exact rfl); (case c4 => exact rfl)))
local macro_rules | `(tactic| k_room) => `(tactic| (first | ((try simp only [depth_under_make, depth_under_kw, depth_in1, depth_deeper, depth_caller]); decide) | (dsimp only [ktrTop, Around.deeper, Around.in1, Around.mark]; omega) | ((try simp only [depth_under_make, depth_under_kw, depth_in1, depth_deeper, depth_caller]); (try dsimp only [ktrTop, Around.deeper, Around.in1, Around.mark]); omega)))
local macro_rules | `(tactic| k_units) => `(tactic| (first | exact Nat.le_of_ble_eq_true rfl | (dsimp only [ktrTop, Around.deeper, Around.in1, Around.mark]; omega)))
local macro_rules | `(tactic| walk_at "call ref") => `(tactic| (k_here; (with_reducible show wpAny _ _ (call (Value.ref 251) _) _ _ _); refine of_here ?_))
local macro_rules | `(tactic| walk_at "call type:dict") => `(tactic| (k_here; refine of_here ?_))
local macro_rules | `(tactic| walk_at "subscriptTail") => `(tactic| (k_here; refine of_here ?_))
local macro_rules | `(tactic| walk_at "eval ListComp") => `(tactic| (k_here; refine of_here ?_))
local macro_rules | `(tactic| walk_at "execs cons") => `(tactic| (k_here; (with_reducible show wpAny _ _ (execs (Stmt.For _ _ _ _ _ :: _) _) _ _ _); refine of_here ?_))
local macro_rules | `(tactic| walk_at "eval Name") => `(tactic| (k_here; k_inBlock; first | (with_unfolding_all refine ldVarK (by assumption) (by assumption) ?_) | (with_unfolding_all refine ldCellK rfl ⟨_, News.get (by k_asm) (by k_mem), by assumption⟩ ?_)))
local macro_rules | `(tactic| walk_at "eval Name") => `(tactic| (k_here; k_dflt (refine' nameX_L ?F ?v ?_ ?a ?b; (case F => k_asm); (case a => rfl); (case b => rfl); (case v => assumption))))
/-- the pairs of a variable and what is made of its term -/
def prsOf (nv : Int → Addr) (kvs : List (Int × Value)) (xs : List Value) : List (Value × Value) := (kvs.map fun q => Value.ref (nv q.1)).zip xs
/-- what is made of the terms of s -/
def XsAt (w : World) (h : Heap) (Y : List Addr) (nv : Int → Addr) (kvs : List (Int × Value)) (ks : List (Int × Tm)) (xs : List Value) : Prop :=
  ∀ (i : Nat) (k : Int) (v x : Value) (t : Tm), kvs[i]? = some (k, v) → ks[i]? = some (k, t) → xs[i]? = some x → MdAt w h Y nv t x
theorem prsOf_get {nv : Int → Addr} {kvs : List (Int × Value)} {xs : List Value} {i : Nat} {a b : Value} (h : (prsOf nv kvs xs)[i]? = some (a, b)) : ∃ k v, kvs[i]? = some (k, v) ∧ a = .ref (nv k) ∧ xs[i]? = some b := by
  unfold prsOf at h
  rw [List.getElem?_zip_eq_some] at h
  obtain ⟨h1, h2⟩ := h
  rw [List.getElem?_map] at h1
  cases e : kvs[i]? with
  | none => rw [e] at h1; cases h1
  | some q => rw [e] at h1; cases h1; exact ⟨q.1, q.2, rfl, rfl, h2⟩
theorem prsOf_snoc {nv : Int → Addr} {x : Value} {k : Int} {v : Value} : ∀ {kvs : List (Int × Value)} {xs : List Value}, kvs[xs.length]? = some (k, v) → prsOf nv kvs (xs ++ [x]) = prsOf nv kvs xs ++ [(.ref (nv k), x)]
  | [], xs, h => by simp at h
  | q :: r, [], h => by
    simp at h
    subst h
    simp [prsOf]
  | q :: r, y :: ys, h => by
    have := prsOf_snoc (nv := nv) (x := x) (kvs := r) (xs := ys) (by simpa using h)
    unfold prsOf at this ⊢
    simp [this]
theorem item_sd {prog : Program} {w : World} {A : Around} {E : Value → Shared → Prop} {s : Shared} {d : Addr} {kvs : List (Int × Value)} {k : Int} {t : Tok} {v : Value} {value slice : PySem.Expr} {Q : Value → Shared → Prop} (hD : s.heap.DictOf (intKind prog w) d kvs) (hl : valueAt kvs k = some v) (h : Q v { s with toks := s.toks + 1 })
    (hs : subscripted slice false (.ref d) (.int k t) = operate [.ref d, .int k t] (getItem (.ref d) (.int k t)) := by with_unfolding_all rfl) (hg : ∀ r, letTemporaryGo value (.ref d) r = pure () := by intro _; with_unfolding_all rfl) :
    wpAny (model prog w) A (subscriptTail value slice (.ref d) (.int k t)) Q E s :=
  subscriptTail_builtin hD.typeIs slot_dict_getitem.lookup (wpAny_getItem_of (intKind_is _ _ _ _) hD.mapOf hl h) hs hg
theorem ks_at {h : Heap} {X : List Addr} {n : Nat} {kvs : List (Int × Value)} {ks : List (Int × Tm)} (K : KsAt h X n kvs ks) {i : Nat} {k : Int} {v : Value} (e : kvs[i]? = some (k, v)) : ∃ t, ks[i]? = some (k, t) := by
  have h1 : (kvs.map (·.1))[i]? = some k := by rw [List.getElem?_map, e]; rfl
  rw [K.keys, List.getElem?_map] at h1
  cases q : ks[i]? with
  | none => rw [q] at h1; cases h1
  | some z => rw [q] at h1; cases h1; exact ⟨z.2, rfl⟩
theorem law_given (w : World) {p : Program} {loose : List Str} {mean : ExcName → Option Value} {mg mb : Str → Option Value} {h₀ hA : Heap} {L fa scr dw nl kl sd : Addr} {nv : Int → Addr} {vs : List Value} {ns : List Int} {cd : Value} {s : Shared} {m : Str → Option Value} {kvs : List (Int × Value)} {ks : List (Int × Tm)} {Q : Flow → Shared → Prop} {E : Value → Shared → Prop}
    {oc : Value} {od : Option Addr} {fd : FuncData} {osl : Array (Option Value)} {body : List Stmt} (h1 : (Mine.hd.heap_39 w.params).lookup 278 = some ⟨oc, od, .func fd, osl⟩) (h2 : fd.body = .stmts body)
    (B : Below callerA h₀ [] h₀) (X : (Mine.hd.heap_39 w.params).In h₀) (T : Top p loose mean mg mb h₀) (a : LawA w h₀ L scr dw nl kl sd nv hA vs ns) (x : LAt w h₀ L scr dw kl sd hA [] s.heap m) (hs : s.heap.DictOf (intKind PySem.Challenge.rw_ez0159_01.row.prog w) sd kvs) (K : KsAt s.heap [sysModules, L, dw, sd] 5 kvs ks)
    (hk : ∀ h tk m d xs, LAt w h₀ L scr dw kl sd hA [] h m → m (Str.ofString "given") = some (.ref d) → KeepX [L] s.heap h → xs.length = kvs.length → hA.get? d = none → (d == sysModules) = false → GivAt h nv d ((kvs.map (·.1)).zip xs) → XsAt w h [sysModules, L, dw, sd] nv kvs ks xs →
      wpAny (model PySem.Challenge.rw_ez0159_01.row.prog w) (callerA.deeper (envOfC (Str.ofString "law") fd.scope L fa cd)) (execs (body.drop 6) (envOfC (Str.ofString "law") fd.scope L fa cd)) Q E { s with heap := h, toks := tk }) :
    wpAny (model PySem.Challenge.rw_ez0159_01.row.prog w) (callerA.deeper (envOfC (Str.ofString "law") fd.scope L fa cd)) (execs (body.drop 5) (envOfC (Str.ofString "law") fd.scope L fa cd)) Q E s := by
  refine' with_fd h1 ?ho ?_
  case ho => k_is
  intro e
  subst e
  clear h1
  cases h2
  refine (?_ : wpAny _ (callerA.deeper (envOfC _ _ _ _ _)) (execs (_ :: _) (envOfC _ _ _ _ _)) _ _ _)
  obtain ⟨ow, hw1, hw2⟩ := x.wd
  obtain ⟨oc1, oc2, dc1, dc2, N0⟩ := x.news a hw1
  have F0 := x.F
  have q1 := x.mw
  have q2 := x.mki
  obtain ⟨rest0, hr0, hex0, hcov0⟩ := coverage h₀ s.heap L []
  have N1 := news_append N0 hr0
  simp only [List.cons_append, List.nil_append] at N1
  have FK0 := fun h'' m' (F' : Fr h₀ L h'' m') N' => keep_all (h' := h'') (l := []) F0 hcov0 hr0 F' N' rfl
  clear N0
  k_steps
  refine (?_ : wpAny _ _ (eval _ _) _ _ _)
  refine' comp_dictT ?hh ?hclos ?hcell ?hkind ?hnames ?hx ?h ?hs
  case hh => with_unfolding_all rfl
  case hclos => with_unfolding_all rfl
  case hcell => decide
  case hkind => with_unfolding_all rfl
  case hnames => decide
  case hx => with_unfolding_all rfl
  case hs => intro _; with_unfolding_all rfl
  refine wpAny_here ?_
  k_steps
  unfold Here
  have lL1 := F0.ns.lt
  have hsd : ∃ o, s.heap.get? sd = some o := let ⟨o, _, _, e, _⟩ := hs; ⟨o, e⟩
  refine ⟨_, kvs, [L], fun O ws ys h => L ∉ O ∧ h.Ns L m ∧ ∃ xs, xs.length = ws.length ∧ PairsAt h (sysModules :: L :: dw :: sd :: O) ys (prsOf nv kvs xs) ∧ XsAt w h (sysModules :: L :: dw :: sd :: O) nv kvs ks xs, rfl, a.fix.lo, hs, Nat.le_trans K.cnt (by decide), ?_, ?_, ?_, ?_, CTurn.toT ?_, ?_⟩
  · intro q; exact a.fix.d2 (List.mem_singleton.mp q)
  · intro b hb
    rw [List.mem_singleton.mp hb]; exact lL1
  · rintro O ws ys h h' ⟨n, b1, xs, b2, b3, b4⟩ k
    exact ⟨n, b1.at' fun o e => k L o n e, xs, b2, b3.keep (k.mono fun b hb => by simp [hb]), fun i k1 v x t e1 e2 e3 => MdAt.keep (k.mono fun b hb => by simp [hb]) _ (b4 i k1 v x t e1 e2 e3)⟩
  · intro O hO
    exact ⟨fun q => Nat.lt_irrefl _ (Nat.lt_of_lt_of_le lL1 (hO _ q)), F0.ns, [], rfl, (by rw [show prsOf nv kvs [] = [] from by simp [prsOf]]; exact .nil), fun i k v x t _ _ e => by simp at e⟩
  · intro O C v ws ys s₃ m₃ E' hO hHas hC hlt hP hn hm hj3 hk4 e1 e2 e3
    obtain ⟨nL, b1, xs, b2, b3, b4⟩ := hj3
    obtain ⟨k, tv, y, rfl, hky⟩ := hP
    have F3 := fr_from_ns F0 hk4 b1
    have N3 := news_kept N1 hk4
    clear N1 hr0
    refine wpAny_here ?_
    k_steps
    have hkr := K.rng _ (List.mem_of_getElem? hky)
    obtain ⟨tm, hkt⟩ := ks_at K hky
    have hok := K.ok _ _ (List.mem_of_getElem? hkt)
    have nnl : nl ∉ [L, dw, sd] := a.fix.ap nl (by simp)
    have hnl : s₃.heap.IsList nl _ := a.fix.nms.at fun o e => hk4 nl o (fun q => nnl (by simp at q; simp [q])) (x.keep nl o nnl e)
    refine (?_ : wpAny _ _ (subscriptTail _ _ _ _) _ _ _)
    with_unfolding_all refine' names_item5 hnl hkr.1 (by omega) ?_
    k_steps
    refine (?_ : wpAny _ _ (subscriptTail _ _ _ _) _ _ _)
    with_unfolding_all refine' item_sd (hs.at fun o e => hk4 sd o (by simp; exact a.fix.d2) e) (valueAt_of_get K.nod hky) ?_
    k_steps
    refine (?_ : wpAny _ (callerA.deeper (envOfC _ _ _ _ _)) (call _ _) _ _ _)
    have tm3 : TmAt s₃.heap (sysModules :: L :: dw :: sd :: O) tm y := TmAt.keep (h := s.heap) (fun b o n e => hk4 b o (fun q => n (by simp at q; simp [q])) e) _ (TmAt.setX (fun b o n e q => by
      simp at q n
      rcases q with q | q | q | q | q
      · exact n.1 q
      · exact n.2.1 q
      · exact n.2.2.1 q
      · exact n.2.2.2 q
      · exact Nat.lt_irrefl _ (Nat.lt_of_lt_of_le (Heap.lt_size e) (hO _ q))) _ (K.tm _ _ _ _ hky hkt))
    have hX3 : Has s₃.heap (sysModules :: L :: dw :: sd :: O) := has_cons (F3.keep _ _ a.mod.choose_spec) (has_cons (has_frame F3).choose_spec (has_cons (N3 _ (List.Mem.head _)).1 (has_cons (hk4 sd _ (by simp; exact a.fix.d2) hsd.choose_spec) hHas)))
    refine' made_c w 3 (dp := callerA.depth + 1) (outer := []) (Xs := sysModules :: L :: dw :: sd :: O) B F3 X T ?k tm3 ?hw ?hdt hX3 hnl ?d ?u (fun r h5 tks5 F5 k5 md5 => ?_)
    case k => exact rfl
    case hw => exact hok.1.mono (by omega)
    case hdt => omega
    case d => decide
    case u => decide
    obtain ⟨rest5, hr5, hex5, hcov5⟩ := coverage h₀ h5 L []
    have FK5 := fun h'' m' (F' : Fr h₀ L h'' m') N' => keep_all (h' := h'') (l := []) F5 hcov5 hr5 F' N' rfl
    clear N3 F3
    k_steps
    unfold Here
    rename_i D6 h6 F6 N6 l6
    have K6 : KeepX [L] h5 h6 := FK5 _ _ F6 (news_sub N6 fun q hq => List.mem_cons_of_mem _ hq)
    have K36 : KeepX [L] s₃.heap h6 := fun b o n e => K6 b o n (k5 b o (by simp) e)
    have z6 := N6 _ (List.Mem.head _)
    have nD : ∀ y o, h5.get? y = some o → D6 ≠ y := fun y o e q => by
      subst q
      exact Nat.lt_irrefl _ (l6 _ (hcov5 _ o e z6.2.1 (by simp) z6.2.2))
    have nDX : D6 ∉ sysModules :: L :: dw :: sd :: O := fun q => by
      obtain ⟨o, e⟩ := hX3 _ q
      exact nD _ o (k5 _ o (by simp) e) rfl
    refine ⟨⟨h6, _, rfl, K36⟩, nL, F6.ns, xs ++ [r], by simp [b2], ?_, ?_⟩
    · rw [prsOf_snoc (by rw [b2]; exact hky)]
      exact (b3.keep (K36.mono fun b hb => by simp at hb; simp [hb])).snoc nDX (News.isTup N6 (List.Mem.head _))
    · intro i k1 v1 x1 t1 e1 e2 e3
      rcases get_snoc e3 with ⟨h1, e3⟩ | ⟨h1, e3⟩
      · exact MdAt.keep (K36.mono fun b hb => by simp at hb; simp [hb]) _ (b4 _ _ _ _ _ e1 e2 e3)
      · subst e3 h1
        rw [b2, hky] at e1
        cases e1
        rw [b2, hkt] at e2
        cases e2
        exact MdAt.keep (K6.mono fun b hb => by simp at hb; simp [hb]) _ md5
  · intro O D h' tk ws ys hO hD hl' hlen' hP hj hk3
    obtain ⟨nL, b1, xs, b2, b3, b4⟩ := hj
    have F3 := fr_from_ns F0 hk3 b1
    have V3 : VarAt w h' nv := fun i i0 i5 => by
      obtain ⟨dv, t1, t2, n1, n2, I⟩ := a.fix.var i i0 i5
      exact ⟨dv, t1, t2, inst_keepX I (Z := [L, dw, sd]) (fun b o n e => hk3 b o (fun q => n (by simp at q; simp [q])) (x.keep b o n e)) n1 n2⟩
    have hd8 : h'.objs.size ≠ L := Nat.ne_of_gt F3.ns.lt
    have lo8 := F3.notModules (modules_low T.nolimit)
    have x3 : LAt w h₀ L scr dw kl sd hA [] h' m := ⟨F3, q1, q2, ⟨ow, hk3 _ _ (by simp; exact a.fix.d1) hw1, hw2⟩, fun b o n e => hk3 b o (fun q => n (by simp at q; simp [q])) (x.keep b o n e), fun b hb => nomatch hb⟩
    have zd8 : hA.get? h'.objs.size = none := x3.low a (let ⟨o, e⟩ := hsd; ⟨o, hk3 sd o (by simp; exact a.fix.d2) e⟩) (Nat.le_refl _)
    clear N1 hr0
    obtain ⟨rest3, hr3, hex3, hcov3⟩ := coverage h₀ h' L []
    k_steps
    refine (?_ : wpAny _ (callerA.deeper (envOfC _ _ _ _ _)) (call _ _) _ _ _)
    have hxl : xs.length = kvs.length := b2.trans hlen'
    have hkl : ((kvs.map (·.1)).zip xs).map (·.1) = kvs.map (·.1) := by rw [List.map_fst_zip]; simp [hxl]
    have hpl : (prsOf nv kvs xs).length = ((kvs.map (·.1)).zip xs).length := by unfold prsOf; simp
    have hzr : ∀ q ∈ (kvs.map (·.1)).zip xs, 0 ≤ q.1 ∧ q.1 < 5 := fun q hq => by
      have : q.1 ∈ kvs.map (·.1) := by rw [← hkl]; exact List.mem_map_of_mem hq (f := (·.1))
      obtain ⟨z, hz, e⟩ := List.mem_map.mp this
      rw [← e]; exact K.rng z hz
    refine' call_dict_pairs (pairs := prsOf nv kvs xs) (Pd := fun i o => GivOb nv (((kvs.map (·.1)).zip xs).take i) o) rfl hl' b3.1 (fun i v k1 x1 e1 e2 => let ⟨ad, r1, _, r3⟩ := b3.2 i v k1 x1 e1 e2; ⟨ad, r1, r3⟩) ⟨_, rfl, rfl⟩ (var_step w (dp := callerA.depth + 1) (outer := []) B F3 X T ?k V3 hpl ?hp ?hn hzr ?hz ?d ?u) (fun o7 h7 tk7 g7 e7 k7 => ?_)
    case k => exact rfl
    case hp =>
      intro i k1 x1 e1
      obtain ⟨k2, v2, r1, r2, r3⟩ := prsOf_get e1
      refine ⟨k2, r2, ?_⟩
      rw [List.getElem?_zip_eq_some]
      exact ⟨by rw [List.getElem?_map, r1]; rfl, r3⟩
    case hn => rw [hkl]; exact K.nod
    case hz => rw [← List.length_map (f := (·.1)), hkl, List.length_map]; exact Nat.le_trans K.cnt (by decide)
    case d => decide
    case u => exact Nat.le_of_ble_eq_true rfl
    rw [List.take_of_length_le (by omega)] at g7
    have F7 := fr_up F3 k7
    obtain ⟨rest7, hr7, hex7, hcov7⟩ := coverage h₀ h7 L []
    have FK7 := fun h'' m' (F' : Fr h₀ L h'' m') N' => keep_all (h' := h'') (l := []) F7 hcov7 hr7 F' N' rfl
    clear hr3 F3 x3
    k_steps
    rename_i h8 F8 N8
    have K8 : KeepX [L] h7 h8 := FK7 _ _ F8 N8
    have K38 : KeepX [L] h' h8 := fun b o n e => K8 b o n (k7 b o e)
    have K08 : KeepX [L] s.heap h8 := fun b o n e => K38 b o n (hk3 b o n e)
    obtain ⟨ep, gc, gd⟩ := g7
    show wpAny _ (callerA.deeper (envOfC _ _ _ _ _)) (execs _ (envOfC _ _ _ _ _)) _ _ _
    refine hk h8 _ _ h'.objs.size xs ⟨F8, (if_neg (by decide)).trans q1, (if_neg (by decide)).trans q2, ⟨ow, K08 _ _ (by simp; exact a.fix.d1) hw1, hw2⟩, fun b o n e => K08 b o (fun q => n (by simp at q; simp [q])) (x.keep b o n e), fun b hb => nomatch hb⟩ (if_pos rfl) K08 hxl zd8 lo8 ⟨⟨o7, ep, K8 _ _ (by simpa using hd8) e7, gc, gd⟩, ?_, hzr⟩ ?_
    · rw [hkl]; exact K.nod
    · intro i k1 v1 x1 t1 e1 e2 e3
      exact MdAt.setX (fun b o n e q => n (by simp at q ⊢; grind)) _ (MdAt.keep (K38.mono fun b hb => by simp at hb; simp [hb]) _ (b4 _ _ _ _ _ e1 e2 e3))

end Mine
end
section -- N32
open PySem PySem.W PySem.Calls PyProof.Rows
set_option maxRecDepth 100000
set_option maxHeartbeats 8000000
set_option linter.unusedVariables false
namespace Mine
local macro_rules | `(tactic| k_all) => `(tactic| assumption)
local macro_rules | `(tactic| ktr_enter) => `(tactic| first
  | (refine' code_defG ?k1 ?k2 ?k3 ?k4 ?k5 ?kA ?kF ?kK ?k6 ?k7 ?k8 ?k9 ?kB ?_ ?c2 ?c3 ?c4 ?c5; (case kA => exact rfl); (case kF => exact rfl); (case kK => first | assumption | exact rfl); (case k1 => k_asm); (case k2 => k_asm); (case k3 => k_asm); (case k4 => first | k_asm | exact News.nil); (case k5 => k_asm); (case k6 => k_is); (case k7 => k_is); (case k8 => ktr_room); (case k9 => exact BindsTo.of_eq rfl); (case c5 => decide); (case kB => exact locs rfl); (case c2 => exact rfl); (case c3 => exact rfl); (case c4 => exact rfl))
  | (refine' code_defCG ?k1 ?k2 ?k3 ?k4 ?k5 ?kA ?kF ?kK ?k6 ?k7 ?k8 ?k9 ?kB ?kD ?_ ?c2 ?c3 ?c4; (case kA => exact rfl); (case kF => exact rfl); (case kK => first | assumption | exact rfl); (case k1 => k_asm); (case k2 => k_asm); (case k3 => k_asm); (case k4 => first | k_asm | exact News.nil); (case k5 => k_asm); (case k6 => k_is); (case k7 => k_is); (case k8 => ktr_room); (case k9 => exact BindsTo.of_eq rfl); (case kB => exact rfl); (case kD => decide +kernel); (case c2 => exact rfl); (case c3 => exact rfl); (case c4 => exact rfl)))
section
variable {w : World} {h₀ hA : Heap} {L scr dw nl kl sd d : Addr} {nv : Int → Addr} {vs : List Value} {ns : List Int} {kvs : List (Int × Value)} {ks : List (Int × Tm)} {xs : List Value}
theorem sub_ofKs {h : Heap} {X : List Addr} (K : KsAt h X 5 kvs ks) : SubAt h X kvs (lookT ks) := fun k => by
  cases e : lookT ks k with
  | none =>
    cases q : valueAt kvs k with
    | none => trivial
    | some v =>
      exfalso
      have hm : k ∈ kvs.map (·.1) := by
        unfold valueAt at q
        cases f : kvs.find? (fun kv => kv.1 = k) with
        | none => rw [f] at q; cases q
        | some z =>
          have h1 := List.mem_of_find?_eq_some f
          have h2 := List.find?_some f
          simp at h2
          exact h2 ▸ List.mem_map_of_mem h1 (f := (·.1))
      rw [K.keys] at hm
      obtain ⟨z, hz, e2⟩ := List.mem_map.mp hm
      have := lookT_of (l := ks) (by rw [← K.keys]; exact K.nod) (i := k) (t := z.2) (by rw [← e2]; exact hz)
      rw [e] at this; cases this
  | some t =>
    have hm := lookT_mem e
    obtain ⟨i, hi⟩ := List.mem_iff_getElem?.mp hm
    have h1 : (kvs.map (·.1))[i]? = some k := by rw [K.keys, List.getElem?_map, hi]; rfl
    rw [List.getElem?_map] at h1
    cases q : kvs[i]? with
    | none => rw [q] at h1; cases h1
    | some z =>
      rw [q] at h1
      cases h1
      have q' : kvs[i]? = some (z.1, z.2) := q
      rw [valueAt_of_get K.nod q']
      exact K.tm i _ _ _ q' hi
/-- the pairs of `given` -/
abbrev gvs (kvs : List (Int × Value)) (xs : List Value) : List (Int × Value) := (kvs.map (·.1)).zip xs
theorem kv_of_xs {h : Heap} {X Y : List Addr} (K : KsAt h X 5 kvs ks) (hl : xs.length = kvs.length) {h' : Heap} (A : XsAt w h' Y nv kvs ks xs) : KvAt w h' Y nv (gvs kvs xs) (lookT ks) 2 := fun i i0 i5 => by
  have hg : ∀ v, (i, v) ∈ gvs kvs xs → ∃ j k t, kvs[j]? = some (i, k) ∧ ks[j]? = some (i, t) ∧ xs[j]? = some v := fun v hv => by
    obtain ⟨j, hj⟩ := List.mem_iff_getElem?.mp hv
    rw [List.getElem?_zip_eq_some] at hj
    obtain ⟨e1, e2⟩ := hj
    rw [List.getElem?_map] at e1
    cases q : kvs[j]? with
    | none => rw [q] at e1; cases e1
    | some z =>
      rw [q] at e1
      cases e1
      obtain ⟨t, ht⟩ := ks_at K (i := j) (k := z.1) (v := z.2) q
      exact ⟨j, z.2, t, q, ht, e2⟩
  have nod : (ks.map (·.1)).Nodup := by rw [← K.keys]; exact K.nod
  refine ⟨fun e v hv => ?_, fun t e => ⟨?_, fun v hv => ?_⟩⟩
  · obtain ⟨j, k, t, a1, a2, a3⟩ := hg v hv
    rw [lookT_of nod (List.mem_of_getElem? a2)] at e
    cases e
  · obtain ⟨j, hj⟩ := List.mem_iff_getElem?.mp (lookT_mem e)
    have hlk : kvs.length = ks.length := by have := congrArg List.length K.keys; simpa using this
    have hjl := (List.getElem?_eq_some_iff.mp hj).1
    obtain ⟨x, hx⟩ : ∃ x, xs[j]? = some x := ⟨_, List.getElem?_eq_getElem (by omega)⟩
    refine ⟨x, List.mem_of_getElem? (i := j) ?_⟩
    rw [List.getElem?_zip_eq_some]
    refine ⟨?_, hx⟩
    rw [K.keys, List.getElem?_map, hj]; rfl
  · obtain ⟨j, k, t', a1, a2, a3⟩ := hg v hv
    have : lookT ks i = some t' := lookT_of nod (List.mem_of_getElem? a2)
    rw [e] at this
    cases this
    have ok := K.ok _ _ (List.mem_of_getElem? a2)
    exact ⟨A _ _ _ _ _ a1 a2 a3, ok.1.mono (by omega), ok.2⟩
theorem gvs_nil {h : Heap} {X : List Addr} (K : KsAt h X 5 kvs ks) (hl : xs.length = kvs.length) (e : gvs kvs xs = []) : ∀ i, lookT ks i = none := fun i => by
  have h1 : (gvs kvs xs).length = 0 := by rw [e]; rfl
  have h2 : ks.length = kvs.length := by have := congrArg List.length K.keys; simpa using this.symm
  have h4 : (gvs kvs xs).length = kvs.length := by simp [hl]
  have h3 : ks = [] := List.length_eq_zero_iff.mp (by omega)
  rw [h3]; rfl
/-- what stands fast in the law's last part -/
structure LawB (w : World) (h₀ : Heap) (L scr dw nl kl sd d : Addr) (nv : Int → Addr) (hA : Heap) (vs : List Value) (ns : List Int) (kvs : List (Int × Value)) (ks : List (Int × Tm)) (xs : List Value) : Prop where
  a : LawA w h₀ L scr dw nl kl sd nv hA vs ns
  hs : hA.DictOf (intKind PySem.Challenge.rw_ez0159_01.row.prog w) sd kvs
  K : KsAt hA [sysModules, L, dw, sd] 5 kvs ks
  xl : xs.length = kvs.length
  nd : d ∉ [L, dw, sd]
  lo : (d == sysModules) = false
  G : GivAt hA nv d (gvs kvs xs)
  XA : XsAt w hA [sysModules, L, dw, sd] nv kvs ks xs
/-- the state in the law's last part -/
structure St (w : World) (h₀ : Heap) (L scr dw kl sd d : Addr) (hA : Heap) (O : List Addr) (h : Heap) (m : Str → Option Value) : Prop where
  x : LAt w h₀ L scr dw kl sd hA O h m
  mg : m (Str.ofString "given") = some (.ref d)
  kp : KeepX [L, dw] hA h
/-- the addresses that new things avoid -/
abbrev XO (L dw sd : Addr) (O : List Addr) : List Addr := sysModules :: L :: dw :: sd :: O
variable {O : List Addr} {h : Heap} {m : Str → Option Value}
theorem St.hsd (b : LawB w h₀ L scr dw nl kl sd d nv hA vs ns kvs ks xs) (y : St w h₀ L scr dw kl sd d hA O h m) : h.DictOf (intKind PySem.Challenge.rw_ez0159_01.row.prog w) sd kvs := b.hs.at fun o e => y.kp _ _ (by have := b.a.fix.d2; have := b.a.fix.d3; simp; exact ⟨by assumption, by assumption⟩) e
theorem St.has (b : LawB w h₀ L scr dw nl kl sd d nv hA vs ns kvs ks xs) (y : St w h₀ L scr dw kl sd d hA O h m) (hO : Has h O) : Has h (XO L dw sd O) :=
  has_cons (y.x.F.keep _ _ b.a.mod.choose_spec) (has_cons (has_frame y.x.F).choose_spec (has_cons y.x.wd.choose_spec.1 (has_cons (let ⟨o, _, _, e, _⟩ := y.hsd b; (⟨o, e⟩ : ∃ o, h.get? sd = some o)).choose_spec hO)))
theorem St.new_of (b : LawB w h₀ L scr dw nl kl sd d nv hA vs ns kvs ks xs) (y : St w h₀ L scr dw kl sd d hA O h m) : ∀ c o, c ∉ [sysModules, L, dw, sd] → hA.get? c = some o → c ∉ XO L dw sd O := fun c o n e q => by
  simp at n q
  rcases q with q | q | q | q | q
  · exact n.1 q
  · exact n.2.1 q
  · exact n.2.2.1 q
  · exact n.2.2.2 q
  · rw [y.x.new c q] at e; cases e
theorem St.up (b : LawB w h₀ L scr dw nl kl sd d nv hA vs ns kvs ks xs) (y : St w h₀ L scr dw kl sd d hA O h m) : KeepX (XO L dw sd O) hA h := y.kp.mono fun c hc => by simp at hc; rcases hc with q | q <;> simp [q]
theorem St.K (b : LawB w h₀ L scr dw nl kl sd d nv hA vs ns kvs ks xs) (y : St w h₀ L scr dw kl sd d hA O h m) : KsAt h (XO L dw sd O) 5 kvs ks := b.K.map fun t v ht => TmAt.keep (y.up b) t (TmAt.setX (y.new_of b) t ht)
theorem St.XA (b : LawB w h₀ L scr dw nl kl sd d nv hA vs ns kvs ks xs) (y : St w h₀ L scr dw kl sd d hA O h m) : XsAt w h (XO L dw sd O) nv kvs ks xs := fun i k v x t e1 e2 e3 => MdAt.keep (y.up b) t (MdAt.setX (y.new_of b) t (b.XA i k v x t e1 e2 e3))
theorem St.G (b : LawB w h₀ L scr dw nl kl sd d nv hA vs ns kvs ks xs) (y : St w h₀ L scr dw kl sd d hA O h m) : GivAt h nv d (gvs kvs xs) := b.G.keep fun o e => y.kp _ _ (by have := b.nd; simp at this; simp [this]) e
theorem St.nms (b : LawB w h₀ L scr dw nl kl sd d nv hA vs ns kvs ks xs) (y : St w h₀ L scr dw kl sd d hA O h m) : h.IsList nl #[.ref (nv 0), .ref (nv 1), .ref (nv 2), .ref (nv 3), .ref (nv 4)] := b.a.fix.nms.at fun o e => y.x.keep _ _ (b.a.fix.ap nl (by simp)) e
theorem St.var (b : LawB w h₀ L scr dw nl kl sd d nv hA vs ns kvs ks xs) (y : St w h₀ L scr dw kl sd d hA O h m) : VarAt w h nv := fun i i0 i5 => by
  obtain ⟨dv, t1, t2, n1, n2, I⟩ := b.a.fix.var i i0 i5
  exact ⟨dv, t1, t2, inst_keepX I y.x.keep n1 n2⟩
theorem St.next (b : LawB w h₀ L scr dw nl kl sd d nv hA vs ns kvs ks xs) (y : St w h₀ L scr dw kl sd d hA O h m) {h' : Heap} {m' : Str → Option Value} (F : Fr h₀ L h' m') (q1 : m' (Str.ofString "w") = some (.ref dw)) (q2 : m' (Str.ofString "kinds") = some (.ref kl)) (q3 : m' (Str.ofString "given") = some (.ref d)) (k : KeepX [L] h h') : St w h₀ L scr dw kl sd d hA O h' m' := by
  obtain ⟨ow, e, W⟩ := y.x.wd
  exact ⟨⟨F, q1, q2, ⟨ow, k _ _ (by simp; exact b.a.fix.d1) e, W⟩, fun c o n e => k c o (fun q => n (by simp at q; simp [q])) (y.x.keep c o n e), y.x.new⟩, q3, fun c o n e => k c o (fun q => n (by simp at q; simp [q])) (y.kp c o n e)⟩
theorem St.same (b : LawB w h₀ L scr dw nl kl sd d nv hA vs ns kvs ks xs) (y : St w h₀ L scr dw kl sd d hA O h m) {h' : Heap} (F : Fr h₀ L h' m) (k : KeepX [L] h h') : St w h₀ L scr dw kl sd d hA O h' m := y.next b F y.x.mw y.x.mki y.mg k
theorem St.turn (b : LawB w h₀ L scr dw nl kl sd d nv hA vs ns kvs ks xs) (y : St w h₀ L scr dw kl sd d hA O h m) {h' : Heap} {ow : Obj} (F : Fr h₀ L h' m) (k : KeepX [dw] h h') (e : h'.get? dw = some ow) (W : WDict w scr ow) : St w h₀ L scr dw kl sd d hA O h' m :=
  ⟨⟨F, y.x.mw, y.x.mki, ⟨ow, e, W⟩, fun c o n e => k c o (fun q => n (by simp at q; simp [q])) (y.x.keep c o n e), y.x.new⟩, y.mg, fun c o n e => k c o (fun q => n (by simp at q; simp [q])) (y.kp c o n e)⟩
end

end Mine
end
section -- N33
open PySem PySem.W PySem.Calls PyProof.Rows
set_option maxRecDepth 100000
set_option maxHeartbeats 8000000
set_option linter.unusedVariables false
namespace Mine
local macro_rules | `(tactic| walk_at "idle0") => `(tactic| fail)
local macro_rules | `(tactic| k_all) => `(tactic| assumption)
local macro_rules | `(tactic| ktr_enter) => `(tactic| first
  | (refine' code_defG ?k1 ?k2 ?k3 ?k4 ?k5 ?kA ?kF ?kK ?k6 ?k7 ?k8 ?k9 ?kB ?_ ?c2 ?c3 ?c4 ?c5; (case kA => exact rfl); (case kF => exact rfl); (case kK => first | assumption | exact rfl); (case k1 => k_asm); (case k2 => k_asm); (case k3 => k_asm); (case k4 => first | k_asm | exact News.nil); (case k5 => k_asm); (case k6 => k_is); (case k7 => k_is); (case k8 => ktr_room); (case k9 => exact BindsTo.of_eq rfl); (case c5 => decide); (case kB => exact locs rfl); (case c2 => exact rfl); (case c3 => exact rfl); (case c4 => exact rfl))
  | (refine' code_defCG ?k1 ?k2 ?k3 ?k4 ?k5 ?kA ?kF ?kK ?k6 ?k7 ?k8 ?k9 ?kB ?kD ?_ ?c2 ?c3 ?c4; (case kA => exact rfl); (case kF => exact rfl); (case kK => first | assumption | exact rfl); (case k1 => k_asm); (case k2 => k_asm); (case k3 => k_asm); (case k4 => first | k_asm | exact News.nil); (case k5 => k_asm); (case k6 => k_is); (case k7 => k_is); (case k8 => ktr_room); (case k9 => exact BindsTo.of_eq rfl); (case kB => exact rfl); (case kD => decide +kernel); (case c2 => exact rfl); (case c3 => exact rfl); (case c4 => exact rfl)))
section
variable {w : World} {p : Program} {loose : List Str} {mean : ExcName → Option Value} {mg mb : Str → Option Value} {h₀ hA : Heap} {L scr dw nl kl sd d fa : Addr} {nv : Int → Addr} {vs : List Value} {ns : List Int} {kvs : List (Int × Value)} {ks : List (Int × Tm)} {xs : List Value}
variable {O : List Addr} {m : Str → Option Value} {s : Shared} {sc : Scope} {cd : Value} {Q E : Value → Shared → Prop}
theorem st_term (B : Below callerA h₀ [] h₀) (X : (Mine.hd.heap_39 w.params).In h₀) (T : Top p loose mean mg mb h₀) (hk : sc.kind = .function)
    (b : LawB w h₀ L scr dw nl kl sd d nv hA vs ns kvs ks xs) (y : St w h₀ L scr dw kl sd d hA O s.heap m) (hO : Has s.heap O) {tk : Tok}
    (hret : ∀ t r h' tks, St w h₀ L scr dw kl sd d hA O h' m → KeepX [dw] s.heap h' → TmAt h' (XO L dw sd O) t r → t.depth ≤ 3 → Wf 0 5 t → Q r { s with heap := h', toks := tks }) :
    wpAny (model PySem.Challenge.rw_ez0159_01.row.prog w) (callerA.deeper (envOfC (Str.ofString "law") sc L fa cd)) (call (.ref 246) [.ref dw, .int 3 tk, .ref kl]) Q E s := by
  obtain ⟨ow, e, W⟩ := y.x.wd
  obtain ⟨w1, w2, w3, w4, hkl⟩ := b.a.fix.kds
  have nk : kl ∉ [L, dw, sd] := b.a.fix.ap kl (by simp)
  refine term_c w 3 (dp := callerA.depth + 1) (outer := []) (Xs := XO L dw sd O) B y.x.F X (news_cons e b.a.fix.d1 (b.a.fix.zz _ (by simp)) News.nil) T hk b.a.lst b.a.int b.a.len (hkl.at fun o e => y.x.keep kl o nk e) (fun q => nk (by simp [q])) W (y.has b hO) (by decide) (by exact Nat.le_of_ble_eq_true rfl) fun t r ow' h' tks F' N' W' k tm dt wf => ?_
  exact hret t r h' tks (y.turn b F' k (N' _ (List.Mem.head _)).1 W') k tm dt (wf.up (by omega))
theorem st_made (B : Below callerA h₀ [] h₀) (X : (Mine.hd.heap_39 w.params).In h₀) (T : Top p loose mean mg mb h₀) (hk : sc.kind = .function)
    (b : LawB w h₀ L scr dw nl kl sd d nv hA vs ns kvs ks xs) (y : St w h₀ L scr dw kl sd d hA O s.heap m) (hO : Has s.heap O) {v : Value} {t : Tm} (ht : TmAt s.heap (XO L dw sd O) t v) (hw : Wf 0 5 t) (hdt : t.depth ≤ 3)
    (hret : ∀ r h' tks, St w h₀ L scr dw kl sd d hA O h' m → KeepX [] s.heap h' → MdAt w h' (XO L dw sd O) nv t r → Q r { s with heap := h', toks := tks }) :
    wpAny (model PySem.Challenge.rw_ez0159_01.row.prog w) (callerA.deeper (envOfC (Str.ofString "law") sc L fa cd)) (call (.ref 251) [v, .ref nl]) Q E s :=
  made_c w 4 (dp := callerA.depth + 1) (outer := []) (Xs := XO L dw sd O) B y.x.F X T hk ht hw (by omega) (y.has b hO) (y.nms b) (by decide) (by exact Nat.le_of_ble_eq_true rfl) fun r h' tks F' k md => hret r h' tks (y.same b F' (k.mono fun _ h => nomatch h)) k md
theorem st_whole (B : Below callerA h₀ [] h₀) (X : (Mine.hd.heap_39 w.params).In h₀) (T : Top p loose mean mg mb h₀) (hk : sc.kind = .function)
    (b : LawB w h₀ L scr dw nl kl sd d nv hA vs ns kvs ks xs) (y : St w h₀ L scr dw kl sd d hA O s.heap m) (hO : Has s.heap O) {v : Value} {t u : Tm} (ht : TmAt s.heap (XO L dw sd O) t v) (hW : Wh (lookT ks) 18 t u) (hw : Wf 0 5 u)
    (hret : ∀ r h' tks, St w h₀ L scr dw kl sd d hA O h' m → KeepX [] s.heap h' → TmAt h' (XO L dw sd O) u r → Q r { s with heap := h', toks := tks }) :
    wpAny (model PySem.Challenge.rw_ez0159_01.row.prog w) (callerA.deeper (envOfC (Str.ofString "law") sc L fa cd)) (call (.ref 263) [v, .ref sd]) Q E s :=
  whole_c w 19 (dp := callerA.depth + 1) (outer := []) (Xs := XO L dw sd O) B y.x.F X T hk ht (y.hsd b) b.a.fix.lo (sub_ofKs (y.K b)) hW (y.has b hO) hw (by omega) (by decide) (by exact Nat.le_of_ble_eq_true rfl) fun r h' tks F' k md => hret r h' tks (y.same b F' (k.mono fun _ h => nomatch h)) k md
theorem st_alike (B : Below callerA h₀ [] h₀) (X : (Mine.hd.heap_39 w.params).In h₀) (T : Top p loose mean mg mb h₀) (hk : sc.kind = .function)
    (b : LawB w h₀ L scr dw nl kl sd d nv hA vs ns kvs ks xs) (y : St w h₀ L scr dw kl sd d hA O s.heap m) {v r : Value} {u : Tm} (hm : MdAt w s.heap (XO L dw sd O) nv u r) (ht : TmAt s.heap (XO L dw sd O) u v) (hw : Wf 0 5 u) (hdt : u.depth ≤ 13)
    (hret : ∀ h' tks, St w h₀ L scr dw kl sd d hA O h' m → KeepX [] s.heap h' → Q (.bool true) { s with heap := h', toks := tks }) :
    wpAny (model PySem.Challenge.rw_ez0159_01.row.prog w) (callerA.deeper (envOfC (Str.ofString "law") sc L fa cd)) (call (.ref 268) [r, v, .ref nl]) Q E s :=
  alike_c w 14 (dp := callerA.depth + 1) (outer := []) B y.x.F X T hk hm (List.Mem.head _) ht hw (by omega) (y.nms b) (y.var b) (by decide) (by exact Nat.le_of_ble_eq_true rfl) fun h' tks F' k => hret h' tks (y.same b F' (k.mono fun _ h => nomatch h)) k
theorem fr_ext {L : Addr} {s s' : Shared} {h₀ : Heap} {m : Str → Option Value} (F : Fr h₀ L s.heap m) (x : Ext [] [L] s s') : Fr h₀ L s'.heap m := by
  have x1 : L < s.heap.objs.size := F.ns.lt
  obtain ⟨⟨o, es, ep, e1, e2, e3⟩, st, ab⟩ := F
  obtain ⟨sl, e⟩ := x.chg.slots L o (by simp) e1
  refine ⟨⟨_, es, ep, e, e2, e3⟩, fun c oc ec => x.chg.keep c oc (by simp) (fun q => ?_) (st c oc ec), ab⟩
  rw [List.mem_singleton.mp q] at ec
  exact Nat.lt_irrefl _ (Nat.lt_of_lt_of_le (Heap.lt_size ec) ab)
/-- `reify` under any dict of the law's -/
theorem st_reifyG (B : Below callerA h₀ [] h₀) (X : (Mine.hd.heap_39 w.params).In h₀) (T : Top p loose mean mg mb h₀) (hk : sc.kind = .function)
    (b : LawB w h₀ L scr dw nl kl sd d nv hA vs ns kvs ks xs) (y : St w h₀ L scr dw kl sd d hA O s.heap m) (hO : Has s.heap O) {v : Value} {t u : Tm} {e : Addr} {kv2 : List (Int × Value)} {sg : Int → Option Tm} {n : Nat}
    (hm : MdAt w s.heap (XO L dw sd O) nv t v) (hw : Wf 0 5 t) (hW : Wh sg n t u) (hn : n ≤ 18) (ne : e ∉ XO L dw sd O) (G : GivAt s.heap nv e kv2) (KV : KvAt w s.heap (XO L dw sd O) nv kv2 sg 2) (hsg : kv2 = [] → ∀ i, sg i = none) (hkl : kv2.length ≤ 100)
    (hret : ∀ r s', St w h₀ L scr dw kl sd d hA O s'.heap m → KeepX [L] s.heap s'.heap → s'.drawn = s.drawn → s'.os = s.os → (AllBare s.gens → AllBare s'.gens) → MdAt w s'.heap (XO L dw sd O) nv u r → Q r s') :
    wpAny (model PySem.Challenge.rw_ez0159_01.row.prog w) (callerA.deeper (envOfC (Str.ofString "law") sc L fa cd)) (call (.ref 234) [v, .ref e]) Q E s := by
  have F := y.x.F
  have B1 := pushX (env := envOfC (Str.ofString "law") sc L fa cd) B F rfl hk
  have neO := b.a.ne y.x.new
  have kh : KeepX (L :: dw :: sd :: O) s.heap (hideAll s.heap (L :: dw :: sd :: O)) := fun c o n q => hideAll_get _ q n
  have kx : KeepX (XO L dw sd O) s.heap (hideAll s.heap (L :: dw :: sd :: O)) := kh.mono fun c hc => List.mem_cons_of_mem _ hc
  have nO : ∀ c, c ∉ [L, dw, sd] → (∃ o, hA.get? c = some o) → c ∉ L :: dw :: sd :: O := fun c n1 ⟨o, ec⟩ q => by
    simp at n1 q
    rcases q with q | q | q | q
    · exact n1.1 q
    · exact n1.2.1 q
    · exact n1.2.2 q
    · rw [y.x.new c q] at ec; cases ec
  have toS : ∀ t v, MdAt w s.heap (XO L dw sd O) nv t v → MdAt w (hideAll s.heap (L :: dw :: sd :: O)) [sysModules] nv t v := fun t v hm => MdAt.setX (fun c o n _ q => n (by rw [List.mem_singleton.mp q]; exact List.Mem.head _)) t (MdAt.keep kx t hm)
  have B2 : Below (callerA.deeper (envOfC (Str.ofString "law") sc L fa cd)) (hideAll s.heap (L :: dw :: sd :: O)) [envOfC (Str.ofString "law") sc L fa cd] s.heap :=
    ⟨B1.stack, fun c o q => of_hideAll _ q, funFrames_hide B1.frames fun env he a ha => by
      rw [List.mem_singleton.mp he] at ha
      injection ha with ha
      rw [← ha]; exact List.Mem.head _⟩
  have b0 : h₀.StaysIn (hideAll s.heap (L :: dw :: sd :: O)) := fun c o q => kh c o (fun z => by
    simp at z
    rcases z with z | z | z | z
    · subst z; exact Nat.lt_irrefl _ (Nat.lt_of_lt_of_le (Heap.lt_size q) F.above)
    · subst z; rw [b.a.fix.zz _ (by simp)] at q; cases q
    · subst z; rw [b.a.fix.zz _ (by simp)] at q; cases q
    · exact neO.2.2.2 c o q z) (F.keep c o q)
  refine reifyF_c w (dp := callerA.depth + 1) (fr := [envOfC (Str.ofString "law") sc L fa cd]) (base := hideAll s.heap (L :: dw :: sd :: O)) (base0 := h₀) (s := s) (D := 2) (n := n) B2 X T b0 (Nat.le_trans F.above (Nat.le_of_lt F.ns.lt)) ?hV (G.keep fun o q => kh _ o (fun z => ne (List.mem_cons_of_mem _ z)) q) ?hK ?hlo hsg hkl (toS t v hm) hw hW (by omega) (by decide) (by exact Nat.le_of_ble_eq_true rfl) ?hq
  case hV =>
    intro i i0 i5
    obtain ⟨dv, t1, t2, n1, n2, I⟩ := b.a.fix.var i i0 i5
    have I2 := inst_keepX I y.x.keep n1 n2
    exact ⟨dv, t1, t2, inst_keepX I2 kh (nO _ n1 ⟨_, I.at_⟩) (nO _ n2 ⟨_, I.dict⟩)⟩
  case hK =>
    intro i i0 i5
    obtain ⟨k1, k2⟩ := KV i i0 i5
    exact ⟨k1, fun t q => ⟨(k2 t q).1, fun v hv => ⟨toS t v ((k2 t q).2 v hv).1, ((k2 t q).2 v hv).2⟩⟩⟩
  case hlo => exact beq_eq_false_iff_ne.mpr fun q => ne (by rw [q]; exact List.Mem.head _)
  case hq =>
    intro r s' x hmd _
    have x' : Ext [] [L] s s' := x
    have k : KeepX [L] s.heap s'.heap := fun c o n q => x'.chg.keep c o (by simp) n q
    refine hret r s' (y.same b (fr_ext F x') k) k x'.drawn x'.os x'.bare (hmd _ (y.has b hO) fun c hc => ?_)
    rcases List.mem_cons.mp hc with q | q
    · exact .inr q
    · exact .inl (hideAll_none _ q)
theorem st_reify (B : Below callerA h₀ [] h₀) (X : (Mine.hd.heap_39 w.params).In h₀) (T : Top p loose mean mg mb h₀) (hk : sc.kind = .function)
    (b : LawB w h₀ L scr dw nl kl sd d nv hA vs ns kvs ks xs) (y : St w h₀ L scr dw kl sd d hA O s.heap m) (hO : Has s.heap O) {v : Value} {t u : Tm}
    (hm : MdAt w s.heap (XO L dw sd O) nv t v) (hw : Wf 0 5 t) (hW : Wh (lookT ks) 18 t u)
    (hret : ∀ r s', St w h₀ L scr dw kl sd d hA O s'.heap m → KeepX [L] s.heap s'.heap → s'.drawn = s.drawn → s'.os = s.os → (AllBare s.gens → AllBare s'.gens) → MdAt w s'.heap (XO L dw sd O) nv u r → Q r s') :
    wpAny (model PySem.Challenge.rw_ez0159_01.row.prog w) (callerA.deeper (envOfC (Str.ofString "law") sc L fa cd)) (call (.ref 234) [v, .ref d]) Q E s := by
  obtain ⟨o, ep, e, _⟩ := b.G.1
  have nd : d ∉ [sysModules, L, dw, sd] := by
    have h1 := b.nd
    have lo := b.lo
    simp at h1 ⊢
    exact ⟨fun q => by rw [q] at lo; simp at lo, h1⟩
  have h4 : (gvs kvs xs).length = kvs.length := by simp [b.xl]
  exact st_reifyG B X T hk b y hO hm hw hW (by omega) (y.new_of b d o nd e) (y.G b) (kv_of_xs (y.K b) b.xl (y.XA b) (h := s.heap)) (gvs_nil b.K b.xl) (by rw [h4]; exact Nat.le_trans b.K.cnt (by decide)) hret
end

end Mine
end
section -- M39
open PySem PySem.W PySem.Calls PyProof.Rows
set_option maxRecDepth 100000
namespace Mine
section
variable {prog : Program} {w : World} {A : Around} {E : Value → Shared → Prop} {s : Shared} {K : Frag} {x C f : Addr} {ox : Obj} {od : Option Obj}
theorem check_ne_own {rest : List Value} {Q : Unit → Shared → Prop} (X : K.In s.heap) (I : InstAt s.heap x ox C od) (hm : mroIn K C (.type "object") = some true) (ha : argsOk "object.__ne__" ⟨.ref x :: rest, []⟩) (hq : Q () s) :
    wpAny (model prog w) A (checkBuiltinCall "object.__ne__" ⟨.ref x :: rest, []⟩) Q E s := by
  simp only [checkBuiltinCall, F.cmpKind_ne, F.cmpSplit_ne]
  refine wpAny_bind ?_
  have S : Looks (model prog w) s.heap (isInstance (.ref x) (.type "object")) true := I.type.andThen (looks_mroIn X hm)
  refine S.here ?_
  simp only [Bool.not_true, Bool.false_eq_true, if_false]
  cases hsig : Manifest.signature? "object.__ne__" with
  | none => exact wpAny_pure hq
  | some sig =>
    simp only [argsOk, hsig] at ha
    have h2 : Bind.checkArgs "object.__ne__" sig ⟨.ref x :: rest, []⟩ = pure () := ha
    show wpAny _ A (Bind.checkArgs "object.__ne__" sig ⟨.ref x :: rest, []⟩) Q E _
    rw [h2]; exact wpAny_pure hq
/-- `x != x` of an object whose class has its own `__eq__` and the `__ne__` of object -/
theorem ne_own_same {Q : Value → Shared → Prop} (X : K.In s.heap) (I : InstAt s.heap x ox C od) (hs : findIn K (.ref C) "__eq__" = some (some (.ref f))) (hf : isFn K (.ref f) = true) (hne : findIn K (.ref C) "__ne__" = some (some (.builtin "object.__ne__"))) (hm : mroIn K C (.type "object") = some true) (hu : A.units + 1 < cLine)
    (h : wpAny (model prog w) A.in1 (call (.ref f) [.ref x, .ref x]) (fun v s' => ∃ b, v = .bool b ∧ Q (.bool (!b)) s') E s) :
    wpAny (model prog w) A (compareOp .NotEq (.ref x) (.ref x)) Q E s := by
  have one : wpAny (model prog w) A (tryCompare (.ref x) "__ne__" (.ref x)) (fun r s' => ∃ b, r = some (.bool (!b)) ∧ Q (.bool (!b)) s') E s := by
    simp only [tryCompare]
    refine wpAny_bind ?_
    simp only [callSpecialIfBound?, bindSpecialIfBound?]
    have fin : wpAny (model prog w) A (call (.builtin "object.__ne__") ([.ref x] ++ [.ref x]) >>= fun v => pure (some v)) (fun a s₁ => wpAny (model prog w) A (match a with
        | some .notImplemented | none => pure none
        | some r => pure (some r)) (fun r s' => ∃ b, r = some (.bool (!b)) ∧ Q (.bool (!b)) s') E s₁) E s := by
      refine wpAny_bind (wpAny_call (codeAny_call_builtin F.cmp_object.ne.plain F.cmpEntry_ne (check_ne_own X I hm (F.cmpArgs_ne _ _) ?_)))
      unfold Builtin.«object.__ne__»
      refine wpAny_bind (wpAny_pure ?_)
      refine wpAny_bind (wpAny_cRoomFor (by show A.units + 1 < cLine; exact hu) ?_)
      refine wpAny_bind (ifBound_K X I hs hf (wpAny_mono h (fun v s' hv => ?_) fun _ _ e => e))
      obtain ⟨b, rfl, hq⟩ := hv
      refine wpAny_bind (wpAny_truthy_bool ?_)
      exact wpAny_pure (wpAny_pure (wpAny_pure ⟨b, rfl, hq⟩))
    refine wpAny_holding (wpAny_bind (wpAny_bind (wpAny_bind (I.type.here ((looks_findIn X hne).here ?_)))))
    simp only [F.cmp_object.ne.bind]
    refine wpAny_bind (wpAny_askSetting (wpAny_ite ?_))
    split
    · exact wpAny_bind (wpAny_pure (wpAny_pure fin))
    · exact wpAny_tryCatch (wpAny_bind (wpAny_pure (wpAny_pure fin)))
  show wpAny _ A (richCompare .NotEq (.ref x) (.ref x)) Q E s
  unfold richCompare
  simp only [oneThing_ref]
  refine wpAny_holding (wpAny_bind (wpAny_cRoomFor (Nat.lt_of_succ_lt hu) ?_))
  rw [cmpInfo_NotEq]
  dsimp only
  refine wpAny_bind (I.type.here (wpAny_bind (I.type.here ?_)))
  rw [show (Value.ref C != Value.ref C) = false from by simp]
  simp only [Bool.false_eq_true, if_false]
  refine wpAny_bind (wpAny_pure ?_)
  simp only [Bool.false_eq_true, if_false]
  refine wpAny_bind (wpAny_mono one (fun r s' z => ?_) fun _ _ e => e)
  obtain ⟨b, rfl, hq⟩ := z
  exact wpAny_pure hq
end
end Mine
end
section -- N34
open PySem PySem.W PySem.Calls PyProof.Rows
set_option maxRecDepth 100000
set_option maxHeartbeats 8000000
set_option linter.unusedVariables false
namespace Mine
local macro_rules | `(tactic| walk_at "idle0") => `(tactic| fail)
local macro_rules | `(tactic| k_all) => `(tactic| assumption)
local macro_rules | `(tactic| ktr_enter) => `(tactic| first
  | (refine' code_defG ?k1 ?k2 ?k3 ?k4 ?k5 ?kA ?kF ?kK ?k6 ?k7 ?k8 ?k9 ?kB ?_ ?c2 ?c3 ?c4 ?c5; (case kA => exact rfl); (case kF => exact rfl); (case kK => first | assumption | exact rfl); (case k1 => k_asm); (case k2 => k_asm); (case k3 => k_asm); (case k4 => first | k_asm | exact News.nil); (case k5 => k_asm); (case k6 => k_is); (case k7 => k_is); (case k8 => ktr_room); (case k9 => exact BindsTo.of_eq rfl); (case c5 => decide); (case kB => exact locs rfl); (case c2 => exact rfl); (case c3 => exact rfl); (case c4 => exact rfl))
  | (refine' code_defCG ?k1 ?k2 ?k3 ?k4 ?k5 ?kA ?kF ?kK ?k6 ?k7 ?k8 ?k9 ?kB ?kD ?_ ?c2 ?c3 ?c4; (case kA => exact rfl); (case kF => exact rfl); (case kK => first | assumption | exact rfl); (case k1 => k_asm); (case k2 => k_asm); (case k3 => k_asm); (case k4 => first | k_asm | exact News.nil); (case k5 => k_asm); (case k6 => k_is); (case k7 => k_is); (case k8 => ktr_room); (case k9 => exact BindsTo.of_eq rfl); (case kB => exact rfl); (case kD => decide +kernel); (case c2 => exact rfl); (case c3 => exact rfl); (case c4 => exact rfl)))
local macro_rules | `(tactic| k_room) => `(tactic| (first | ((try simp only [depth_under_make, depth_under_kw, depth_in1, depth_deeper, depth_caller]); decide) | (dsimp only [ktrTop, Around.deeper, Around.in1, Around.mark]; omega)))
local macro_rules | `(tactic| k_units) => `(tactic| (first | exact Nat.le_of_ble_eq_true rfl | (dsimp only [ktrTop, Around.deeper, Around.in1, Around.mark]; omega)))
local macro_rules | `(tactic| k_inst) => `(tactic| first | (refine' inst_up1 ?F ?I; (case F => k_asm); (case I => assumption)) | (refine' inst_up2 ?F2 ?F ?I; (case F2 => k_asm); (case F => k_asm); (case I => assumption)))
local macro_rules | `(tactic| walk_at "compareOp Eq ref ref") => `(tactic| (k_here; (with_reducible show wpAny _ _ (compareOp CmpOp.Eq (Value.ref 185) (Value.ref 185)) _ _ _); k_dflt (refine' eq_class_same ?a ?b ?c ?_; (case a => refine' kto_K ?X ?l; (case X => k_in); (case l => k_is)); (case b => exact rfl); (case c => k_units))))
theorem varne_c (w : World) {p : Program} {loose : List Str} {mean : ExcName → Option Value} {mg mb : Str → Option Value}
    {dp un : Nat} {gd : Option (List Code)} {cn : Str} {cs : Scope} {a : Addr} {ccd : Value} {cl : List (Str × Addr)} {outer : List Env} {A₀ : Around} {base h₀ : Heap} {L : Addr} {m : Str → Option Value} {s : Shared}
    {x dv : Addr} {i : Int} {t1 t2 : Tok} {Q : Value → Shared → Prop} {E : Value → Shared → Prop}
    (B : Below A₀ base outer h₀) (F : Fr h₀ L s.heap m) (X : (Mine.hd.heap_39 w.params).In h₀) (T : Top p loose mean mg mb h₀) (hk : cs.kind = .function)
    (I : W.InstAt s.heap x (instObj 185 dv) 185 (some (dictOf [⟨PyData.keyHash w.params (Str.ofString "token"), .str (Str.ofString "token") t1, .int i t2⟩] 1))) (hd : dp + 4 < recursionLimit) (hu : un + 20 < cLine)
    (hret : ∀ h' tks, Fr h₀ L h' m → (∀ b o, s.heap.get? b = some o → h'.get? b = some o) → Q (.bool false) { s with heap := h', toks := tks }) :
    wpAny (model PySem.Challenge.rw_ez0159_01.row.prog w) (ktrTop dp un gd cn cs L a ccd cl outer) (compareOp .NotEq (.ref x) (.ref x)) Q E s := by
  refine ne_own_same (X.keeps F.keep) I (by k_is) (by k_is) (by k_is) (by k_is) (by k_units) ?_
  refine wpAny_call ?_
  k_dflt ktr_enter
  intro g L1 h1 FG F1 N1 B1 X1 T1 G1
  (try dsimp only)
  have I1 := inst_keep (h := g) I fun b o e => G1 b o e (by simp)
  have keep := fun h' m' (Fz : Fr g L1 h' m') => gkeep G1 Fz
  (try k_fold)
  k_steps
  rename Fr h₀ L _ _ => kFz
  rename Fr g L1 _ _ => Fz
  rw [show (!(i == i)) = false from by simp]
  exact hret _ _ kFz (fun b o e => keep _ _ Fz b o (by simp) e)
section
variable {w : World} {p : Program} {loose : List Str} {mean : ExcName → Option Value} {mg mb : Str → Option Value} {h₀ hA : Heap} {L scr dw nl kl sd d fa : Addr} {nv : Int → Addr} {vs : List Value} {ns : List Int} {kvs : List (Int × Value)} {ks : List (Int × Tm)} {xs : List Value}
variable {O : List Addr} {m : Str → Option Value} {s : Shared} {sc : Scope} {cd : Value} {Q E : Value → Shared → Prop}
/-- two made values of one term are not unequal -/
theorem st_ne (B : Below callerA h₀ [] h₀) (X : (Mine.hd.heap_39 w.params).In h₀) (T : Top p loose mean mg mb h₀) (hk : sc.kind = .function)
    (b : LawB w h₀ L scr dw nl kl sd d nv hA vs ns kvs ks xs) (y : St w h₀ L scr dw kl sd d hA O s.heap m) {v v' : Value} {t : Tm} (hm : MdAt w s.heap (XO L dw sd O) nv t v) (hm' : MdAt w s.heap (XO L dw sd O) nv t v') (hw : Wf 0 5 t) (hdt : t.depth ≤ 13)
    (hret : ∀ h' tks, St w h₀ L scr dw kl sd d hA O h' m → KeepX [] s.heap h' → Q (.bool false) { s with heap := h', toks := tks }) :
    wpAny (model PySem.Challenge.rw_ez0159_01.row.prog w) (callerA.deeper (envOfC (Str.ofString "law") sc L fa cd)) (compareOp .NotEq v v') Q E s := by
  cases t with
  | num n =>
    obtain ⟨t1, rfl⟩ := hm
    obtain ⟨t2, rfl⟩ := hm'
    have F := y.x.F
    k_steps
    rw [show (n != n) = false from by simp]
    exact hret s.heap s.toks y (fun _ _ _ e => e)
  | var i =>
    have e : _ = _ := hm
    have e' : _ = _ := hm'
    subst e e'
    obtain ⟨dv, t1, t2, I⟩ := y.var b i hw.1 hw.2
    refine varne_c w (dp := callerA.depth + 1) (outer := []) B y.x.F X T hk I (by decide) (by exact Nat.le_of_ble_eq_true rfl) fun h' tks F' k => hret h' tks (y.same b F' (KeepX.of k)) (KeepX.of k)
  | node kd ts =>
    obtain ⟨a, vs, rfl, na, hmk, hvs⟩ := hm
    obtain ⟨c, us, rfl, nc, hmk', hus⟩ := hm'
    simp only [Tm.depth] at hdt
    refine (rc_node hmk hmk' (by rw [hvs.length, hus.length]) (fun q => na (by simp [q])) (fun q => nc (by simp [q])) (by exact Nat.le_of_ble_eq_true rfl) (mds_eqAt ts hvs hus (List.Mem.head _) (List.Mem.head _) ?_)).2 _ _ _ _ ?_
    · show callerA.units + 3 + 1 + Tm.depths ts < cLine
      have : callerA.units + 3 + 1 + 13 < cLine := by decide
      omega
    · exact hret s.heap s.toks y (fun _ _ _ e => e)
end

end Mine
end
section -- N35
open PySem PySem.W PySem.Calls PyProof.Rows
set_option maxRecDepth 100000
set_option maxHeartbeats 8000000
set_option linter.unusedVariables false
namespace Mine
local macro_rules | `(tactic| k_all) => `(tactic| assumption)
local macro_rules | `(tactic| ktr_enter) => `(tactic| first
  | (refine' code_defG ?k1 ?k2 ?k3 ?k4 ?k5 ?kA ?kF ?kK ?k6 ?k7 ?k8 ?k9 ?kB ?_ ?c2 ?c3 ?c4 ?c5; (case kA => exact rfl); (case kF => exact rfl); (case kK => first | assumption | exact rfl); (case k1 => k_asm); (case k2 => k_asm); (case k3 => k_asm); (case k4 => first | k_asm | exact News.nil); (case k5 => k_asm); (case k6 => k_is); (case k7 => k_is); (case k8 => ktr_room); (case k9 => exact BindsTo.of_eq rfl); (case c5 => decide); (case kB => exact locs rfl); (case c2 => exact rfl); (case c3 => exact rfl); (case c4 => exact rfl))
  | (refine' code_defCG ?k1 ?k2 ?k3 ?k4 ?k5 ?kA ?kF ?kK ?k6 ?k7 ?k8 ?k9 ?kB ?kD ?_ ?c2 ?c3 ?c4; (case kA => exact rfl); (case kF => exact rfl); (case kK => first | assumption | exact rfl); (case k1 => k_asm); (case k2 => k_asm); (case k3 => k_asm); (case k4 => first | k_asm | exact News.nil); (case k5 => k_asm); (case k6 => k_is); (case k7 => k_is); (case k8 => ktr_room); (case k9 => exact BindsTo.of_eq rfl); (case kB => exact rfl); (case kD => decide +kernel); (case c2 => exact rfl); (case c3 => exact rfl); (case c4 => exact rfl)))
local macro_rules | `(tactic| k_room) => `(tactic| (first | ((try simp only [depth_under_make, depth_under_kw, depth_in1, depth_deeper, depth_caller]); decide) | (dsimp only [ktrTop, Around.deeper, Around.in1, Around.mark]; omega) | ((try simp only [depth_under_make, depth_under_kw, depth_in1, depth_deeper, depth_caller]); (try dsimp only [ktrTop, Around.deeper, Around.in1, Around.mark]); omega)))
local macro_rules | `(tactic| k_units) => `(tactic| (first | exact Nat.le_of_ble_eq_true rfl | (dsimp only [ktrTop, Around.deeper, Around.in1, Around.mark]; omega)))
local macro_rules | `(tactic| walk_at "call ref") => `(tactic| (k_here; (with_reducible show wpAny _ _ (call (Value.ref 246) _) _ _ _); refine of_here ?_))
local macro_rules | `(tactic| walk_at "call ref") => `(tactic| (k_here; (with_reducible show wpAny _ _ (call (Value.ref 251) _) _ _ _); refine of_here ?_))
local macro_rules | `(tactic| walk_at "call ref") => `(tactic| (k_here; (with_reducible show wpAny _ _ (call (Value.ref 234) _) _ _ _); refine of_here ?_))
local macro_rules | `(tactic| walk_at "call ref") => `(tactic| (k_here; (with_reducible show wpAny _ _ (call (Value.ref 263) _) _ _ _); refine of_here ?_))
local macro_rules | `(tactic| walk_at "call ref") => `(tactic| (k_here; (with_reducible show wpAny _ _ (call (Value.ref 268) _) _ _ _); refine of_here ?_))
local macro_rules | `(tactic| walk_at "compareOp NotEq") => `(tactic| (k_here; refine of_here ?_))
local macro_rules | `(tactic| walk_at "compareOp NotEq ref ref") => `(tactic| (k_here; refine of_here ?_))
local macro_rules | `(tactic| walk_at "compareOp NotEq ref") => `(tactic| (k_here; refine of_here ?_))
local macro_rules | `(tactic| walk_at "eval Name") => `(tactic| (k_here; k_dflt (refine' nameX_L ?F ?v ?_ ?a ?b; (case F => k_asm); (case a => rfl); (case b => rfl); (case v => assumption))))
section
variable {w : World} {h₀ hA : Heap} {L scr dw nl kl sd d : Addr} {nv : Int → Addr} {vs : List Value} {ns : List Int} {kvs : List (Int × Value)} {ks : List (Int × Tm)} {xs : List Value} {O : List Addr} {h h' : Heap} {m : Str → Option Value}
theorem St.open (b : LawB w h₀ L scr dw nl kl sd d nv hA vs ns kvs ks xs) (y : St w h₀ L scr dw kl sd d hA O h m) : ∃ ow oc1 oc2 rest, oc1.data = .cell (some (.ref nl)) ∧ oc2.data = .cell (some (.ref sd)) ∧ News h₀ L h ((dw, ow) :: (L + 1 + 1, oc2) :: (L + 1, oc1) :: rest) ∧ (∀ h'' m', Fr h₀ L h'' m' → News h₀ L h'' rest → KeepX [L] h h'') ∧ ∀ c o, h.get? c = some o → c ≠ L → h₀.get? c = none → (c, o) ∈ rest := by
  obtain ⟨ow, hw1, hw2⟩ := y.x.wd
  obtain ⟨oc1, oc2, dc1, dc2, Nc⟩ := y.x.news b.a hw1
  obtain ⟨rest, hr, hex, hcov⟩ := coverage h₀ h L []
  exact ⟨ow, oc1, oc2, rest, dc1, dc2, news_append Nc hr, fun h'' m' F' N' => keep_all (h' := h'') (l := []) y.x.F hcov hr F' N' rfl, fun c o e n z => hcov c o e n (by simp) z⟩
theorem allLt_mem {e : Addr} : ∀ {l : List (Addr × Obj)}, AllLt e l → ∀ q ∈ l, q.1 < e
  | [], _, q, hq => nomatch hq
  | z :: r, x, q, hq => by
    rcases List.mem_cons.mp hq with rfl | hq
    · exact x.1
    · exact allLt_mem x.2 q hq
theorem giv_nil {prog : Program} {e : Addr} (x : h.DictOf (intKind prog w) e []) : GivAt h nv e [] := by
  obtain ⟨o, es, ep, e1, e2, e3, e4, e5, e6⟩ := x
  refine ⟨⟨o, ep, e1, e2.1, ?_⟩, by simp, by simp⟩
  have : es = #[] := by
    cases es with
    | mk l =>
      cases l with
      | nil => rfl
      | cons a r => cases e5
  rw [e3, this]
  rfl
theorem fresh_XO {e : Addr} {o : Obj} {rest news : List (Addr × Obj)} (hX : Has h (XO L dw sd O)) (N : News h₀ L h' news) (hm : (e, o) ∈ news) (lt : AllLt e rest) (cov : ∀ c o, h.get? c = some o → c ≠ L → h₀.get? c = none → (c, o) ∈ rest) : e ∉ XO L dw sd O := fun q => by
  obtain ⟨o', e'⟩ := hX e q
  exact Nat.lt_irrefl _ (allLt_mem lt _ (cov e o' e' (N _ hm).2.1 (N _ hm).2.2))
theorem tmU {t : Tm} {v : Value} (k : KeepX [L] h h') (x : TmAt h (XO L dw sd O) t v) : TmAt h' (XO L dw sd O) t v := TmAt.keep (k.mono fun c hc => by simp at hc; simp [hc]) t x
theorem mdU {t : Tm} {v : Value} (k : KeepX [L] h h') (x : MdAt w h (XO L dw sd O) nv t v) : MdAt w h' (XO L dw sd O) nv t v := MdAt.keep (k.mono fun c hc => by simp at hc; simp [hc]) t x
theorem k0L (k : KeepX [] h h') : KeepX [L] h h' := k.mono fun _ q => nomatch q
theorem kLL (k : KeepX [L] h h') : KeepX [L, dw] h h' := k.mono fun c hc => by simp at hc; simp [hc]
theorem kdL (k : KeepX [dw] h h') : KeepX [L, dw] h h' := k.mono fun c hc => by simp at hc; simp [hc]
end
theorem law_turns (w : World) {p : Program} {loose : List Str} {mean : ExcName → Option Value} {mg mb : Str → Option Value} {h₀ : Heap} {L fa scr dw nl kl sd d : Addr} {nv : Int → Addr} {vs : List Value} {ns : List Int} {cd : Value} {s : Shared} {m : Str → Option Value} {kvs : List (Int × Value)} {ks : List (Int × Tm)} {xs : List Value} {Q : Flow → Shared → Prop} {E : Value → Shared → Prop}
    {oc : Value} {od : Option Addr} {fd : FuncData} {osl : Array (Option Value)} {body : List Stmt} (h1 : (Mine.hd.heap_39 w.params).lookup 278 = some ⟨oc, od, .func fd, osl⟩) (h2 : fd.body = .stmts body)
    (B : Below callerA h₀ [] h₀) (X : (Mine.hd.heap_39 w.params).In h₀) (T : Top p loose mean mg mb h₀) (b : LawB w h₀ L scr dw nl kl sd d nv s.heap vs ns kvs ks xs) (y : St w h₀ L scr dw kl sd d s.heap [] s.heap m)
    (hk : ∀ s' m, St w h₀ L scr dw kl sd d s.heap [] s'.heap m → s'.drawn = s.drawn → s'.os = s.os → (AllBare s.gens → AllBare s'.gens) →
      wpAny (model PySem.Challenge.rw_ez0159_01.row.prog w) (callerA.deeper (envOfC (Str.ofString "law") fd.scope L fa cd)) (execs (body.drop 7) (envOfC (Str.ofString "law") fd.scope L fa cd)) Q E s') :
    wpAny (model PySem.Challenge.rw_ez0159_01.row.prog w) (callerA.deeper (envOfC (Str.ofString "law") fd.scope L fa cd)) (execs (body.drop 6) (envOfC (Str.ofString "law") fd.scope L fa cd)) Q E s := by
  refine' with_fd h1 ?ho ?_
  case ho => k_is
  intro e
  subst e
  clear h1
  cases h2
  refine (?_ : wpAny _ (callerA.deeper (envOfC _ _ _ _ _)) (execs (_ :: _) (envOfC _ _ _ _ _)) _ _ _)
  refine wpAny_execs_cons ?_
  refine for_rangeT rfl ?_ (by intro _; with_unfolding_all rfl)
  have F0 := y.x.F
  obtain ⟨rest0, N0, hex0, hcov0⟩ := coverage h₀ s.heap L []
  refine wpAny_here ?_
  k_steps
  unfold Here
  rename_i hr tkr t1r u1r v1r Rz Fz Nz upz
  have y1 : St w h₀ L scr dw kl sd d s.heap [] hr m := y.same b Fz (KeepX.of upz)
  clear hex0 hcov0
  refine ⟨_, _, _, _, _, 4, fun O j z => z.drawn = s.drawn ∧ z.os = s.os ∧ (AllBare s.gens → AllBare z.gens) ∧ ∃ m', St w h₀ L scr dw kl sd d s.heap O z.heap m', rfl, Rz, (by rfl), (by decide), ?_, ?_, ?_, ?_⟩
  · rintro O j z h' tk' ⟨g1, g2, g3, m', y2⟩ k
    exact ⟨g1, g2, g3, m', y2.x.stab b.a k, y2.mg, fun c o n e => k c o (fun q => by rw [y2.x.new c q] at e; cases e) (y2.kp c o n e)⟩
  · intro O hO
    refine ⟨rfl, rfl, id, m, ⟨y1.x.F, y1.x.mw, y1.x.mki, y1.x.wd, y1.x.keep, fun c hc => ?_⟩, y1.mg, y1.kp⟩
    exact y1.x.low b.a (let ⟨o, _, _, e, _⟩ := y1.hsd b; ⟨o, e⟩) (hO c hc)
  · rintro O j t s₃ E' hO hHas hlt ⟨g1, g2, g3, m3, y3⟩
    have hO3 : ∀ h, KeepX [L, dw] s₃.heap h → Has h O := fun h k c hc => by
      obtain ⟨o, e⟩ := hHas c hc
      have ne := b.a.ne y3.x.new
      exact ⟨o, k c o (fun q => by simp at q; rcases q with q | q; exact ne.1 (q ▸ hc); exact ne.2.1 (q ▸ hc)) e⟩
    obtain ⟨ow, oc1, oc2, rest, dc1, dc2, Nn, FK, cov⟩ := y3.open b
    have Ff := y3.x.F
    have q1 := y3.x.mw
    have q2 := y3.x.mki
    have q3 := y3.mg
    refine (?_ : wpAny _ (callerA.deeper (envOfC _ _ _ _ _)) (storeName (envOfC _ _ _ _ _) _ _) _ _ _)
    refine wpAny_here ?_
    k_steps
    unfold Here
    rename Fr h₀ L _ _ => Fz
    rename News h₀ L _ _ => Nz
    obtain ⟨m4, F4, r1, r2, r3⟩ : ∃ m4, Fr h₀ L _ m4 ∧ m4 (Str.ofString "w") = some (.ref dw) ∧ m4 (Str.ofString "kinds") = some (.ref kl) ∧ m4 (Str.ofString "given") = some (.ref d) := ⟨_, Fz, (if_neg (by decide)).trans q1, (if_neg (by decide)).trans q2, (if_neg (by decide)).trans q3⟩
    have k4 := FK _ _ F4 (news_sub Nz fun q hq => by simp [hq])
    have y4 := y3.next b F4 r1 r2 r3 k4
    have K4 : KeepX [L, dw] s₃.heap _ := kLL k4
    clear Fz Nz F4 k4 FK cov q1 q2 q3 r1 r2 r3 dc1 dc2
    obtain ⟨ow, oc1, oc2, rest, dc1, dc2, Nn, FK, cov⟩ := y4.open b
    have Ff := y4.x.F
    have q1 := y4.x.mw
    have q2 := y4.x.mki
    have q3 := y4.mg
    refine wpAny_here ?_
    k_steps
    refine (?_ : wpAny _ (callerA.deeper (envOfC _ _ _ _ _)) (call _ _) _ _ _)
    refine' st_term B X T ?k b y4 (hO3 _ K4) (fun t1 v1 h5 tk5 y5 k5 tm5 d5 w5 => ?_)
    case k => exact rfl
    have K5 : KeepX [L, dw] s₃.heap h5 := K4.trans (kdL k5)
    clear Ff Nn FK cov q1 q2 q3 dc1 dc2 y4 K4 k5
    obtain ⟨u, hW, hwu, hdu⟩ := wh_all (b.K.sg (by omega)) t1 w5 d5
    obtain ⟨ow, oc1, oc2, rest, dc1, dc2, Nn, FK, cov⟩ := y5.open b
    have Ff := y5.x.F
    have q1 := y5.x.mw
    have q2 := y5.x.mki
    have q3 := y5.mg
    k_steps
    rename Fr h₀ L _ _ => Fz
    rename News h₀ L _ _ => Nz
    obtain ⟨m6, Fn, r1, r2, r3, f1⟩ : ∃ m6, Fr h₀ L _ m6 ∧ m6 (Str.ofString "w") = some (.ref dw) ∧ m6 (Str.ofString "kinds") = some (.ref kl) ∧ m6 (Str.ofString "given") = some (.ref d) ∧ m6 (Str.ofString "term") = some (v1) := ⟨_, Fz, (if_neg (by decide)).trans q1, (if_neg (by decide)).trans q2, (if_neg (by decide)).trans q3, if_pos rfl⟩
    have kn := FK _ _ Fn (news_sub Nz fun q hq => by simp [hq])
    have y6 := y5.next b Fn r1 r2 r3 kn
    have K6 := K5.trans (kLL kn)
    have tm6 := tmU kn tm5
    clear Fz Nz Fn kn FK cov q1 q2 q3 r1 r2 r3 dc1 dc2 y5 K5 tm5
    refine (?_ : wpAny _ (callerA.deeper (envOfC _ _ _ _ _)) (call _ _) _ _ _)
    refine' st_made B X T ?k b y6 (hO3 _ K6) tm6 w5 d5 (fun v2 h7 tk7 y7 k7 md7 => ?_)
    case k => exact rfl
    have K7 := K6.trans (kLL (k0L k7))
    have tm7 := tmU (k0L k7) tm6
    clear y6 K6 tm6 k7
    obtain ⟨ow, oc1, oc2, rest, dc1, dc2, Nn, FK, cov⟩ := y7.open b
    have Ff := y7.x.F
    have q1 := y7.x.mw
    have q2 := y7.x.mki
    have q3 := y7.mg
    k_steps
    rename Fr h₀ L _ _ => Fz
    rename News h₀ L _ _ => Nz
    obtain ⟨m8, Fn, r1, r2, r3, f1, f2⟩ : ∃ m8, Fr h₀ L _ m8 ∧ m8 (Str.ofString "w") = some (.ref dw) ∧ m8 (Str.ofString "kinds") = some (.ref kl) ∧ m8 (Str.ofString "given") = some (.ref d) ∧ m8 (Str.ofString "term") = some (v1) ∧ m8 (Str.ofString "made") = some (v2) := ⟨_, Fz, (if_neg (by decide)).trans q1, (if_neg (by decide)).trans q2, (if_neg (by decide)).trans q3, (if_neg (by decide)).trans f1, if_pos rfl⟩
    have kn := FK _ _ Fn (news_sub Nz fun q hq => by simp [hq])
    have y8 := y7.next b Fn r1 r2 r3 kn
    have K8 := K7.trans (kLL kn)
    have tm8 := tmU kn tm7
    have md8 := mdU kn md7
    clear Fz Nz Fn kn FK cov q1 q2 q3 r1 r2 r3 dc1 dc2 y7 K7 tm7 md7
    refine (?_ : wpAny _ (callerA.deeper (envOfC _ _ _ _ _)) (call _ _) _ _ _)
    refine' st_reify B X T ?k b y8 (hO3 _ K8) md8 w5 hW (fun v9 s9 y9 k9 gd9 go9 gb9 mr9 => ?_)
    case k => exact rfl
    have K9 := K8.trans (kLL k9)
    have tm9 := tmU k9 tm8
    have md9 := mdU k9 md8
    have gd9' := gd9.trans g1
    have go9' := go9.trans g2
    have gb9' := fun z => gb9 (g3 z)
    clear y8 K8 tm8 md8 k9 gd9 go9 gb9
    obtain ⟨ow, oc1, oc2, rest, dc1, dc2, Nn, FK, cov⟩ := y9.open b
    have Ff := y9.x.F
    have q1 := y9.x.mw
    have q2 := y9.x.mki
    have q3 := y9.mg
    k_steps
    rename Fr h₀ L _ _ => Fz
    rename News h₀ L _ _ => Nz
    obtain ⟨m10, Fn, r1, r2, r3, f1, f2, f3⟩ : ∃ m10, Fr h₀ L _ m10 ∧ m10 (Str.ofString "w") = some (.ref dw) ∧ m10 (Str.ofString "kinds") = some (.ref kl) ∧ m10 (Str.ofString "given") = some (.ref d) ∧ m10 (Str.ofString "term") = some (v1) ∧ m10 (Str.ofString "made") = some (v2) ∧ m10 (Str.ofString "told") = some (v9) := ⟨_, Fz, (if_neg (by decide)).trans q1, (if_neg (by decide)).trans q2, (if_neg (by decide)).trans q3, (if_neg (by decide)).trans f1, (if_neg (by decide)).trans f2, if_pos rfl⟩
    have kn := FK _ _ Fn (news_sub Nz fun q hq => by simp [hq])
    have y10 := y9.next b Fn r1 r2 r3 kn
    have K10 := K9.trans (kLL kn)
    have tm10 := tmU kn tm9
    have md10 := mdU kn md9
    have mr10 := mdU kn mr9
    clear Fz Nz Fn kn FK cov q1 q2 q3 r1 r2 r3 dc1 dc2 y9 K9 tm9 md9 mr9
    refine (?_ : wpAny _ (callerA.deeper (envOfC _ _ _ _ _)) (call _ _) _ _ _)
    refine' st_whole B X T ?k b y10 (hO3 _ K10) tm10 hW hwu (fun v11 h11 tk11 y11 k11 tu11 => ?_)
    case k => exact rfl
    have K11 := K10.trans (kLL (k0L k11))
    have tm11 := tmU (k0L k11) tm10
    have md11 := mdU (k0L k11) md10
    have mr11 := mdU (k0L k11) mr10
    clear y10 K10 tm10 md10 mr10 k11
    obtain ⟨ow, oc1, oc2, rest, dc1, dc2, Nn, FK, cov⟩ := y11.open b
    have Ff := y11.x.F
    have q1 := y11.x.mw
    have q2 := y11.x.mki
    have q3 := y11.mg
    k_steps
    refine (?_ : wpAny _ (callerA.deeper (envOfC _ _ _ _ _)) (call _ _) _ _ _)
    refine' st_alike B X T ?k b y11 mr11 tu11 hwu hdu (fun h12 tk12 y12 k12 => ?_)
    case k => exact rfl
    have K12 := K11.trans (kLL (k0L k12))
    have tm12 := tmU (k0L k12) tm11
    have md12 := mdU (k0L k12) md11
    have mr12 := mdU (k0L k12) mr11
    clear y11 K11 tm11 md11 mr11 k12 tu11 FK cov Nn Ff dc1 dc2 q1 q2 q3
    obtain ⟨ow, oc1, oc2, rest, dc1, dc2, Nn, FK, cov⟩ := y12.open b
    have Ff := y12.x.F
    have q1 := y12.x.mw
    have q2 := y12.x.mki
    have q3 := y12.mg
    k_steps
    refine (?_ : wpAny _ (callerA.deeper (envOfC _ _ _ _ _)) (call _ _) _ _ _)
    refine' st_reify B X T ?k b y12 (hO3 _ K12) mr12 hwu (wh_idem hW) (fun v13 s13 y13 k13 gd13 go13 gb13 mr13 => ?_)
    case k => exact rfl
    have K13 := K12.trans (kLL k13)
    have tm13 := tmU k13 tm12
    have md13 := mdU k13 md12
    have gd13' := gd13.trans gd9'
    have go13' := go13.trans go9'
    have gb13' := fun z => gb13 (gb9' z)
    clear y12 K12 tm12 md12 mr12 k13 gd13 go13 gb13 FK cov Nn Ff dc1 dc2 q1 q2 q3
    obtain ⟨ow, oc1, oc2, rest, dc1, dc2, Nn, FK, cov⟩ := y13.open b
    have Ff := y13.x.F
    have q1 := y13.x.mw
    have q2 := y13.x.mki
    have q3 := y13.mg
    k_steps
    refine (?_ : wpAny _ (callerA.deeper (envOfC _ _ _ _ _)) (call _ _) _ _ _)
    refine' st_whole B X T ?k b y13 (hO3 _ K13) tm13 hW hwu (fun v14 h14 tk14 y14 k14 tu14 => ?_)
    case k => exact rfl
    have K14 := K13.trans (kLL (k0L k14))
    have tm14 := tmU (k0L k14) tm13
    have md14 := mdU (k0L k14) md13
    have mr14 := mdU (k0L k14) mr13
    clear y13 K13 tm13 md13 mr13 k14 FK cov Nn Ff dc1 dc2 q1 q2 q3
    obtain ⟨ow, oc1, oc2, rest, dc1, dc2, Nn, FK, cov⟩ := y14.open b
    have Ff := y14.x.F
    have q1 := y14.x.mw
    have q2 := y14.x.mki
    have q3 := y14.mg
    k_steps
    refine (?_ : wpAny _ (callerA.deeper (envOfC _ _ _ _ _)) (call _ _) _ _ _)
    refine' st_alike B X T ?k b y14 mr14 tu14 hwu hdu (fun h15 tk15 y15 k15 => ?_)
    case k => exact rfl
    have K15 := K14.trans (kLL (k0L k15))
    have tm15 := tmU (k0L k15) tm14
    have md15 := mdU (k0L k15) md14
    clear y14 K14 tm14 md14 mr14 k15 tu14 FK cov Nn Ff dc1 dc2 q1 q2 q3
    obtain ⟨ow, oc1, oc2, rest, dc1, dc2, Nn, FK, cov⟩ := y15.open b
    have Ff := y15.x.F
    have q1 := y15.x.mw
    have q2 := y15.x.mki
    have q3 := y15.mg
    k_steps
    rename Fr h₀ L _ _ => Fz
    rename News h₀ L _ _ => Nz
    rename Obj.IsDictOf (intKind _ _) _ _ => hi16
    rename _ ∧ _ ∧ _ ∧ _ => l16
    have kn := FK _ _ Fz (news_sub Nz fun q hq => by simp [hq])
    have y16 := y15.same b Fz kn
    have K16 := K15.trans (kLL kn)
    have tm16 := tmU kn tm15
    have md16 := mdU kn md15
    have G16 := giv_nil (nv := nv) (Heap.dictOf_iff.mpr ⟨_, (Nz _ (List.Mem.head _)).1, hi16⟩)
    have n16 := fresh_XO (y15.has b (hO3 _ K15)) Nz (List.Mem.head _) l16.2.2.2 cov
    clear Fz Nz kn FK cov dc1 dc2 q1 q2 q3 y15 K15 tm15 md15
    refine (?_ : wpAny _ (callerA.deeper (envOfC _ _ _ _ _)) (call _ _) _ _ _)
    refine' st_reifyG B X T ?k b y16 (hO3 _ K16) md16 w5 (wh_none t1 (n := 18) (by omega)) (by omega) n16 G16 (fun i _ _ => ⟨fun _ v hv => (by simp at hv), fun t e => (by cases e)⟩) (fun _ _ => rfl) (by simp) (fun v17 s17 y17 k17 gd17 go17 gb17 mr17 => ?_)
    case k => exact rfl
    have K17 := K16.trans (kLL k17)
    have tm17 := tmU k17 tm16
    have md17 := mdU k17 md16
    have gd17' := gd17.trans gd13'
    have go17' := go17.trans go13'
    have gb17' := fun z => gb17 (gb13' z)
    clear y16 K16 tm16 md16 k17 gd17 go17 gb17 G16 n16 hi16 l16
    obtain ⟨ow, oc1, oc2, rest, dc1, dc2, Nn, FK, cov⟩ := y17.open b
    have Ff := y17.x.F
    have q1 := y17.x.mw
    have q2 := y17.x.mki
    have q3 := y17.mg
    k_steps
    refine (?_ : wpAny _ (callerA.deeper (envOfC _ _ _ _ _)) (compareOp _ _ _) _ _ _)
    refine' st_ne B X T ?k b y17 mr17 md17 w5 (by omega) (fun h18 tk18 y18 k18 => ?_)
    case k => exact rfl
    have K18 := K17.trans (kLL (k0L k18))
    have tm18 := tmU (k0L k18) tm17
    have md18 := mdU (k0L k18) md17
    clear y17 K17 tm17 md17 mr17 k18 FK cov Nn Ff dc1 dc2 q1 q2 q3
    obtain ⟨ow, oc1, oc2, rest, dc1, dc2, Nn, FK, cov⟩ := y18.open b
    have Ff := y18.x.F
    have q1 := y18.x.mw
    have q2 := y18.x.mki
    have q3 := y18.mg
    k_steps
    refine (?_ : wpAny _ (callerA.deeper (envOfC _ _ _ _ _)) (call _ _) _ _ _)
    refine' st_made B X T ?k b y18 (hO3 _ K18) tm18 w5 d5 (fun v19 h19 tk19 y19 k19 mr19 => ?_)
    case k => exact rfl
    have K19 := K18.trans (kLL (k0L k19))
    have md19 := mdU (k0L k19) md18
    clear y18 K18 tm18 md18 k19 FK cov Nn Ff dc1 dc2 q1 q2 q3
    obtain ⟨ow, oc1, oc2, rest, dc1, dc2, Nn, FK, cov⟩ := y19.open b
    have Ff := y19.x.F
    have q1 := y19.x.mw
    have q2 := y19.x.mki
    have q3 := y19.mg
    k_steps
    refine (?_ : wpAny _ (callerA.deeper (envOfC _ _ _ _ _)) (compareOp _ _ _) _ _ _)
    refine' st_ne B X T ?k b y19 md19 mr19 w5 (by omega) (fun h20 tk20 y20 k20 => ?_)
    case k => exact rfl
    have K20 := K19.trans (kLL (k0L k20))
    clear y19 K19 md19 mr19 k20 FK cov Nn Ff dc1 dc2 q1 q2 q3
    obtain ⟨ow, oc1, oc2, rest, dc1, dc2, Nn, FK, cov⟩ := y20.open b
    have Ff := y20.x.F
    have q1 := y20.x.mw
    have q2 := y20.x.mki
    have q3 := y20.mg
    k_steps
    have ne := b.a.ne y3.x.new
    exact ⟨⟨gd17', go17', gb17', m10, y20⟩, fun c hc o e => K20 c o (fun q => by simp at q; rcases q with q | q; exact ne.1 (q ▸ hc); exact ne.2.1 (q ▸ hc)) e⟩
  · rintro O s₃ hO ⟨g1, g2, g3, m3, y3⟩
    exact hk s₃ m3 ⟨⟨y3.x.F, y3.x.mw, y3.x.mki, y3.x.wd, y3.x.keep, fun c hc => nomatch hc⟩, y3.mg, y3.kp⟩ g1 g2 g3

end Mine
end
section -- N36
open PySem PySem.W PySem.Calls PyProof.Rows
set_option maxRecDepth 100000
set_option maxHeartbeats 8000000
set_option linter.unusedVariables false
namespace Mine
local macro_rules | `(tactic| walk_at "idle0") => `(tactic| fail)
local macro_rules | `(tactic| k_all) => `(tactic| assumption)
local macro_rules | `(tactic| ktr_enter) => `(tactic| first
  | (refine' code_defG ?k1 ?k2 ?k3 ?k4 ?k5 ?kA ?kF ?kK ?k6 ?k7 ?k8 ?k9 ?kB ?_ ?c2 ?c3 ?c4 ?c5; (case kA => exact rfl); (case kF => exact rfl); (case kK => first | assumption | exact rfl); (case k1 => k_asm); (case k2 => k_asm); (case k3 => k_asm); (case k4 => first | k_asm | exact News.nil); (case k5 => k_asm); (case k6 => k_is); (case k7 => k_is); (case k8 => ktr_room); (case k9 => exact BindsTo.of_eq rfl); (case c5 => decide); (case kB => exact locs rfl); (case c2 => exact rfl); (case c3 => exact rfl); (case c4 => exact rfl))
  | (refine' code_defCG ?k1 ?k2 ?k3 ?k4 ?k5 ?kA ?kF ?kK ?k6 ?k7 ?k8 ?k9 ?kB ?kD ?_ ?c2 ?c3 ?c4; (case kA => exact rfl); (case kF => exact rfl); (case kK => first | assumption | exact rfl); (case k1 => k_asm); (case k2 => k_asm); (case k3 => k_asm); (case k4 => first | k_asm | exact News.nil); (case k5 => k_asm); (case k6 => k_is); (case k7 => k_is); (case k8 => ktr_room); (case k9 => exact BindsTo.of_eq rfl); (case kB => exact rfl); (case kD => decide +kernel); (case c2 => exact rfl); (case c3 => exact rfl); (case c4 => exact rfl)))
local macro_rules | `(tactic| k_room) => `(tactic| (first | ((try simp only [depth_under_make, depth_under_kw, depth_in1, depth_deeper, depth_caller]); decide) | (dsimp only [ktrTop, Around.deeper, Around.in1, Around.mark]; omega) | ((try simp only [depth_under_make, depth_under_kw, depth_in1, depth_deeper, depth_caller]); (try dsimp only [ktrTop, Around.deeper, Around.in1, Around.mark]); omega)))
local macro_rules | `(tactic| k_units) => `(tactic| (first | exact Nat.le_of_ble_eq_true rfl | (dsimp only [ktrTop, Around.deeper, Around.in1, Around.mark]; omega)))
local macro_rules | `(tactic| walk_at "call ref") => `(tactic| (k_here; (with_reducible show wpAny _ _ (call (Value.ref 251) _) _ _ _); refine of_here ?_))
local macro_rules | `(tactic| walk_at "call type:dict") => `(tactic| (k_here; refine of_here ?_))
local macro_rules | `(tactic| walk_at "subscriptTail") => `(tactic| (k_here; refine of_here ?_))
local macro_rules | `(tactic| walk_at "eval ListComp") => `(tactic| (k_here; refine of_here ?_))
local macro_rules | `(tactic| walk_at "compareOp Eq ref ref") => `(tactic| (k_here; refine of_here ?_))
local macro_rules | `(tactic| walk_at "compareOp Eq ref") => `(tactic| (k_here; refine of_here ?_))
local macro_rules | `(tactic| walk_at "execs cons") => `(tactic| (k_here; (with_reducible show wpAny _ _ (execs (Stmt.For _ _ _ _ _ :: _) _) _ _ _); refine of_here ?_))
local macro_rules | `(tactic| walk_at "eval Name") => `(tactic| (k_here; k_inBlock; first | (with_unfolding_all refine ldVarK (by assumption) (by assumption) ?_) | (with_unfolding_all refine ldCellK rfl ⟨_, News.get (by k_asm) (by k_mem), by assumption⟩ ?_)))
local macro_rules | `(tactic| walk_at "eval Name") => `(tactic| (k_here; k_dflt (refine' nameX_L ?F ?v ?_ ?a ?b; (case F => k_asm); (case a => rfl); (case b => rfl); (case v => assumption))))
theorem law_last (w : World) {p : Program} {loose : List Str} {mean : ExcName → Option Value} {mg mb : Str → Option Value} {h₀ hA : Heap} {L fa scr dw nl kl sd d : Addr} {nv : Int → Addr} {vs : List Value} {ns : List Int} {cd : Value} {s : Shared} {m : Str → Option Value} {kvs : List (Int × Value)} {ks : List (Int × Tm)} {xs0 : List Value} {Q : Flow → Shared → Prop} {E : Value → Shared → Prop}
    {oc : Value} {od : Option Addr} {fd : FuncData} {osl : Array (Option Value)} {body : List Stmt} (h1 : (Mine.hd.heap_39 w.params).lookup 278 = some ⟨oc, od, .func fd, osl⟩) (h2 : fd.body = .stmts body)
    (B : Below callerA h₀ [] h₀) (X : (Mine.hd.heap_39 w.params).In h₀) (T : Top p loose mean mg mb h₀) (b : LawB w h₀ L scr dw nl kl sd d nv hA vs ns kvs ks xs0) (y : St w h₀ L scr dw kl sd d hA [] s.heap m)
    (hk : ∀ h tk, (∀ c o, h₀.get? c = some o → h.get? c = some o) → Q (.ret (.bool true)) { s with heap := h, toks := tk }) :
    wpAny (model PySem.Challenge.rw_ez0159_01.row.prog w) (callerA.deeper (envOfC (Str.ofString "law") fd.scope L fa cd)) (execs (body.drop 7) (envOfC (Str.ofString "law") fd.scope L fa cd)) Q E s := by
  refine' with_fd h1 ?ho ?_
  case ho => k_is
  intro e
  subst e
  clear h1
  cases h2
  refine (?_ : wpAny _ (callerA.deeper (envOfC _ _ _ _ _)) (execs (_ :: _) (envOfC _ _ _ _ _)) _ _ _)
  have a := b.a
  have x := y.x
  have q3 := y.mg
  have hs := y.hsd b
  have K : KsAt s.heap [sysModules, L, dw, sd] 5 kvs ks := y.K b
  obtain ⟨ow, hw1, hw2⟩ := x.wd
  obtain ⟨oc1, oc2, dc1, dc2, N0⟩ := x.news a hw1
  have F0 := x.F
  have q1 := x.mw
  have q2 := x.mki
  obtain ⟨rest0, hr0, hex0, hcov0⟩ := coverage h₀ s.heap L []
  have N1 := news_append N0 hr0
  simp only [List.cons_append, List.nil_append] at N1
  have FK0 := fun h'' m' (F' : Fr h₀ L h'' m') N' => keep_all (h' := h'') (l := []) F0 hcov0 hr0 F' N' rfl
  clear N0
  k_steps
  refine (?_ : wpAny _ _ (eval _ _) _ _ _)
  refine' comp_dictT ?hh ?hclos ?hcell ?hkind ?hnames ?hx ?h ?hs
  case hh => with_unfolding_all rfl
  case hclos => with_unfolding_all rfl
  case hcell => decide
  case hkind => with_unfolding_all rfl
  case hnames => decide
  case hx => with_unfolding_all rfl
  case hs => intro _; with_unfolding_all rfl
  refine wpAny_here ?_
  k_steps
  unfold Here
  have lL1 := F0.ns.lt
  have hsd : ∃ o, s.heap.get? sd = some o := let ⟨o, _, _, e, _⟩ := hs; ⟨o, e⟩
  refine ⟨_, kvs, [L], fun O ws ys h => L ∉ O ∧ h.Ns L m ∧ ∃ xs, xs.length = ws.length ∧ PairsAt h (sysModules :: L :: dw :: sd :: O) ys (prsOf nv kvs xs) ∧ XsAt w h (sysModules :: L :: dw :: sd :: O) nv kvs ks xs, rfl, a.fix.lo, hs, Nat.le_trans K.cnt (by decide), ?_, ?_, ?_, ?_, CTurn.toT ?_, ?_⟩
  · intro q; exact a.fix.d2 (List.mem_singleton.mp q)
  · intro b hb
    rw [List.mem_singleton.mp hb]; exact lL1
  · rintro O ws ys h h' ⟨n, b1, xs, b2, b3, b4⟩ k
    exact ⟨n, b1.at' fun o e => k L o n e, xs, b2, b3.keep (k.mono fun b hb => by simp [hb]), fun i k1 v x t e1 e2 e3 => MdAt.keep (k.mono fun b hb => by simp [hb]) _ (b4 i k1 v x t e1 e2 e3)⟩
  · intro O hO
    exact ⟨fun q => Nat.lt_irrefl _ (Nat.lt_of_lt_of_le lL1 (hO _ q)), F0.ns, [], rfl, (by rw [show prsOf nv kvs [] = [] from by simp [prsOf]]; exact .nil), fun i k v x t _ _ e => by simp at e⟩
  · intro O C v ws ys s₃ m₃ E' hO hHas hC hlt hP hn hm hj3 hk4 e1 e2 e3
    obtain ⟨nL, b1, xs, b2, b3, b4⟩ := hj3
    obtain ⟨k, tv, y, rfl, hky⟩ := hP
    have F3 := fr_from_ns F0 hk4 b1
    have N3 := news_kept N1 hk4
    clear N1 hr0
    refine wpAny_here ?_
    k_steps
    have hkr := K.rng _ (List.mem_of_getElem? hky)
    obtain ⟨tm, hkt⟩ := ks_at K hky
    have hok := K.ok _ _ (List.mem_of_getElem? hkt)
    have nnl : nl ∉ [L, dw, sd] := a.fix.ap nl (by simp)
    have hnl : s₃.heap.IsList nl _ := a.fix.nms.at fun o e => hk4 nl o (fun q => nnl (by simp at q; simp [q])) (x.keep nl o nnl e)
    refine (?_ : wpAny _ _ (subscriptTail _ _ _ _) _ _ _)
    with_unfolding_all refine' names_item5 hnl hkr.1 (by omega) ?_
    k_steps
    refine (?_ : wpAny _ _ (subscriptTail _ _ _ _) _ _ _)
    with_unfolding_all refine' item_sd (hs.at fun o e => hk4 sd o (by simp; exact a.fix.d2) e) (valueAt_of_get K.nod hky) ?_
    k_steps
    refine (?_ : wpAny _ (callerA.deeper (envOfC _ _ _ _ _)) (call _ _) _ _ _)
    have tm3 : TmAt s₃.heap (sysModules :: L :: dw :: sd :: O) tm y := TmAt.keep (h := s.heap) (fun b o n e => hk4 b o (fun q => n (by simp at q; simp [q])) e) _ (TmAt.setX (fun b o n e q => by
      simp at q n
      rcases q with q | q | q | q | q
      · exact n.1 q
      · exact n.2.1 q
      · exact n.2.2.1 q
      · exact n.2.2.2 q
      · exact Nat.lt_irrefl _ (Nat.lt_of_lt_of_le (Heap.lt_size e) (hO _ q))) _ (K.tm _ _ _ _ hky hkt))
    have hX3 : Has s₃.heap (sysModules :: L :: dw :: sd :: O) := has_cons (F3.keep _ _ a.mod.choose_spec) (has_cons (has_frame F3).choose_spec (has_cons (N3 _ (List.Mem.head _)).1 (has_cons (hk4 sd _ (by simp; exact a.fix.d2) hsd.choose_spec) hHas)))
    refine' made_c w 3 (dp := callerA.depth + 1) (outer := []) (Xs := sysModules :: L :: dw :: sd :: O) B F3 X T ?k tm3 ?hw ?hdt hX3 hnl ?d ?u (fun r h5 tks5 F5 k5 md5 => ?_)
    case k => exact rfl
    case hw => exact hok.1.mono (by omega)
    case hdt => omega
    case d => decide
    case u => decide
    obtain ⟨rest5, hr5, hex5, hcov5⟩ := coverage h₀ h5 L []
    have FK5 := fun h'' m' (F' : Fr h₀ L h'' m') N' => keep_all (h' := h'') (l := []) F5 hcov5 hr5 F' N' rfl
    clear N3 F3
    k_steps
    unfold Here
    rename_i D6 h6 F6 N6 l6
    have K6 : KeepX [L] h5 h6 := FK5 _ _ F6 (news_sub N6 fun q hq => List.mem_cons_of_mem _ hq)
    have K36 : KeepX [L] s₃.heap h6 := fun b o n e => K6 b o n (k5 b o (by simp) e)
    have z6 := N6 _ (List.Mem.head _)
    have nD : ∀ y o, h5.get? y = some o → D6 ≠ y := fun y o e q => by
      subst q
      exact Nat.lt_irrefl _ (l6 _ (hcov5 _ o e z6.2.1 (by simp) z6.2.2))
    have nDX : D6 ∉ sysModules :: L :: dw :: sd :: O := fun q => by
      obtain ⟨o, e⟩ := hX3 _ q
      exact nD _ o (k5 _ o (by simp) e) rfl
    refine ⟨⟨h6, _, rfl, K36⟩, nL, F6.ns, xs ++ [r], by simp [b2], ?_, ?_⟩
    · rw [prsOf_snoc (by rw [b2]; exact hky)]
      exact (b3.keep (K36.mono fun b hb => by simp at hb; simp [hb])).snoc nDX (News.isTup N6 (List.Mem.head _))
    · intro i k1 v1 x1 t1 e1 e2 e3
      rcases get_snoc e3 with ⟨h1, e3⟩ | ⟨h1, e3⟩
      · exact MdAt.keep (K36.mono fun b hb => by simp at hb; simp [hb]) _ (b4 _ _ _ _ _ e1 e2 e3)
      · subst e3 h1
        rw [b2, hky] at e1
        cases e1
        rw [b2, hkt] at e2
        cases e2
        exact MdAt.keep (K6.mono fun b hb => by simp at hb; simp [hb]) _ md5
  · intro O D h' tk ws ys hO hD hl' hlen' hP hj hk3
    obtain ⟨nL, b1, xs, b2, b3, b4⟩ := hj
    have F3 := fr_from_ns F0 hk3 b1
    have V3 : VarAt w h' nv := fun i i0 i5 => by
      obtain ⟨dv, t1, t2, n1, n2, I⟩ := a.fix.var i i0 i5
      exact ⟨dv, t1, t2, inst_keepX I (Z := [L, dw, sd]) (fun b o n e => hk3 b o (fun q => n (by simp at q; simp [q])) (x.keep b o n e)) n1 n2⟩
    have hd8 : h'.objs.size ≠ L := Nat.ne_of_gt F3.ns.lt
    have lo8 := F3.notModules (modules_low T.nolimit)
    have x3 : LAt w h₀ L scr dw kl sd hA [] h' m := ⟨F3, q1, q2, ⟨ow, hk3 _ _ (by simp; exact a.fix.d1) hw1, hw2⟩, fun b o n e => hk3 b o (fun q => n (by simp at q; simp [q])) (x.keep b o n e), fun b hb => nomatch hb⟩
    have zd8 : hA.get? h'.objs.size = none := x3.low a (let ⟨o, e⟩ := hsd; ⟨o, hk3 sd o (by simp; exact a.fix.d2) e⟩) (Nat.le_refl _)
    clear N1 hr0
    obtain ⟨rest3, hr3, hex3, hcov3⟩ := coverage h₀ h' L []
    k_steps
    refine (?_ : wpAny _ (callerA.deeper (envOfC _ _ _ _ _)) (call _ _) _ _ _)
    have hxl : xs.length = kvs.length := b2.trans hlen'
    have hkl : ((kvs.map (·.1)).zip xs).map (·.1) = kvs.map (·.1) := by rw [List.map_fst_zip]; simp [hxl]
    have hpl : (prsOf nv kvs xs).length = ((kvs.map (·.1)).zip xs).length := by unfold prsOf; simp
    have hzr : ∀ q ∈ (kvs.map (·.1)).zip xs, 0 ≤ q.1 ∧ q.1 < 5 := fun q hq => by
      have : q.1 ∈ kvs.map (·.1) := by rw [← hkl]; exact List.mem_map_of_mem hq (f := (·.1))
      obtain ⟨z, hz, e⟩ := List.mem_map.mp this
      rw [← e]; exact K.rng z hz
    refine' call_dict_pairs (pairs := prsOf nv kvs xs) (Pd := fun i o => GivOb nv (((kvs.map (·.1)).zip xs).take i) o) rfl hl' b3.1 (fun i v k1 x1 e1 e2 => let ⟨ad, r1, _, r3⟩ := b3.2 i v k1 x1 e1 e2; ⟨ad, r1, r3⟩) ⟨_, rfl, rfl⟩ (var_step w (dp := callerA.depth + 1) (outer := []) B F3 X T ?k V3 hpl ?hp ?hn hzr ?hz ?d ?u) (fun o7 h7 tk7 g7 e7 k7 => ?_)
    case k => exact rfl
    case hp =>
      intro i k1 x1 e1
      obtain ⟨k2, v2, r1, r2, r3⟩ := prsOf_get e1
      refine ⟨k2, r2, ?_⟩
      rw [List.getElem?_zip_eq_some]
      exact ⟨by rw [List.getElem?_map, r1]; rfl, r3⟩
    case hn => rw [hkl]; exact K.nod
    case hz => rw [← List.length_map (f := (·.1)), hkl, List.length_map]; exact Nat.le_trans K.cnt (by decide)
    case d => decide
    case u => exact Nat.le_of_ble_eq_true rfl
    rw [List.take_of_length_le (by omega)] at g7
    have F7 := fr_up F3 k7
    obtain ⟨rest7, hr7, hex7, hcov7⟩ := coverage h₀ h7 L []
    have FK7 := fun h'' m' (F' : Fr h₀ L h'' m') N' => keep_all (h' := h'') (l := []) F7 hcov7 hr7 F' N' rfl
    clear hr3 F3 x3
    k_steps
    obtain ⟨ep, gc, gd⟩ := g7
    have k07 : KeepX [L] s.heap h7 := fun c o n e => k7 _ _ (hk3 c o n e)
    have G : GivAt h7 nv d (gvs kvs xs0) := (y.G b).keep fun o e => k07 d o (by have := b.nd; simp at this; simp [this]) e
    have G7 : GivAt h7 nv h'.objs.size (gvs kvs xs) := ⟨⟨o7, ep, e7, gc, gd⟩, by rw [hkl]; exact K.nod, hzr⟩
    refine (?_ : wpAny _ (callerA.deeper (envOfC _ _ _ _ _)) (compareOp _ _ _) _ _ _)
    refine' given_eq (nv := nv) (V3.keep k7) b.lo lo8 G G7 ?keys (by exact Nat.le_of_ble_eq_true rfl) ?he (hk h7 _ (fun c o e => F7.keep c o e))
    case keys =>
      rw [hkl, List.map_fst_zip]
      simp [b.xl]
    case he =>
      intro j z z' r1 r2
      rw [List.getElem?_zip_eq_some] at r1 r2
      obtain ⟨r1, r3⟩ := r1
      obtain ⟨r2, r4⟩ := r2
      rw [List.getElem?_map] at r1
      cases q : kvs[j]? with
      | none => rw [q] at r1; cases r1
      | some kv =>
        have q' : kvs[j]? = some (kv.1, kv.2) := q
        obtain ⟨t, ht⟩ := ks_at K q'
        have hok := K.ok _ _ (List.mem_of_getElem? ht)
        have m1 := mdU k07 (y.XA b _ _ _ _ _ q' ht r3)
        have m2 := MdAt.keep (KeepX.of k7) t (b4 _ _ _ _ _ q' ht r4)
        refine md_eqAt t m1 m2 (List.Mem.head _) (List.Mem.head _) ?_
        show callerA.units + 3 + 1 + t.depth < cLine
        have : callerA.units + 3 + 1 + 2 < cLine := by decide
        omega

end Mine
end
section -- N37
open PySem PySem.W PySem.Calls PyProof.Rows
set_option maxRecDepth 100000
set_option maxHeartbeats 8000000
set_option linter.unusedVariables false
namespace Mine
local macro_rules | `(tactic| k_all) => `(tactic| assumption)
local macro_rules | `(tactic| ktr_enter) => `(tactic| first
  | (refine' code_defG ?k1 ?k2 ?k3 ?k4 ?k5 ?kA ?kF ?kK ?k6 ?k7 ?k8 ?k9 ?kB ?_ ?c2 ?c3 ?c4 ?c5; (case kA => exact rfl); (case kF => exact rfl); (case kK => first | assumption | exact rfl); (case k1 => k_asm); (case k2 => k_asm); (case k3 => k_asm); (case k4 => first | k_asm | exact News.nil); (case k5 => k_asm); (case k6 => k_is); (case k7 => k_is); (case k8 => ktr_room); (case k9 => exact BindsTo.of_eq rfl); (case c5 => decide); (case kB => exact locs rfl); (case c2 => exact rfl); (case c3 => exact rfl); (case c4 => exact rfl))
  | (refine' code_defCG ?k1 ?k2 ?k3 ?k4 ?k5 ?kA ?kF ?kK ?k6 ?k7 ?k8 ?k9 ?kB ?kD ?_ ?c2 ?c3 ?c4; (case kA => exact rfl); (case kF => exact rfl); (case kK => first | assumption | exact rfl); (case k1 => k_asm); (case k2 => k_asm); (case k3 => k_asm); (case k4 => first | k_asm | exact News.nil); (case k5 => k_asm); (case k6 => k_is); (case k7 => k_is); (case k8 => ktr_room); (case k9 => exact BindsTo.of_eq rfl); (case kB => exact rfl); (case kD => decide +kernel); (case c2 => exact rfl); (case c3 => exact rfl); (case c4 => exact rfl)))
theorem LawA.to {w : World} {h₀ hA h : Heap} {L scr dw nl kl sd : Addr} {nv : Int → Addr} {vs : List Value} {ns : List Int} {m : Str → Option Value} (a : LawA w h₀ L scr dw nl kl sd nv hA vs ns) (x : LAt w h₀ L scr dw kl sd hA [] h m) (hsd : ∃ o, h.get? sd = some o) : LawA w h₀ L scr dw nl kl sd nv h vs ns := by
  obtain ⟨o1, e1, d1⟩ := a.fix.c1
  obtain ⟨o2, e2, d2⟩ := a.fix.c2
  obtain ⟨u1, u2, u3, u4, hk⟩ := a.fix.kds
  obtain ⟨ow, ew, _⟩ := x.wd
  refine ⟨⟨⟨o1, x.keep _ _ (a.fix.ap _ (by simp)) e1, d1⟩, ⟨o2, x.keep _ _ (a.fix.ap _ (by simp)) e2, d2⟩, a.fix.nms.at fun o e => x.keep _ _ (a.fix.ap nl (by simp)) e, ⟨u1, u2, u3, u4, hk.at fun o e => x.keep _ _ (a.fix.ap kl (by simp)) e⟩, fun i i0 i5 => ?_, a.fix.ap, a.fix.zz, a.fix.d1, a.fix.d2, a.fix.d3, a.fix.lo⟩, x.F.keep, a.mod, has_frame x.F, ⟨ow, ew⟩, hsd, a.lst, a.int, a.len⟩
  obtain ⟨dv, t1, t2, n1, n2, I⟩ := a.fix.var i i0 i5
  exact ⟨dv, t1, t2, n1, n2, inst_keepX I x.keep n1 n2⟩
theorem law_all (w : World) {p : Program} {loose : List Str} {mean : ExcName → Option Value} {mg mb : Str → Option Value} {h₀ : Heap} {L fa scr : Addr} {cd : Value} {s : Shared} {m0 : Str → Option Value} {oc1 oc2 : Obj} {vs : List Value} {ns : List Int} {Q : Flow → Shared → Prop} {E : Value → Shared → Prop} {A : Around} {tr : Sem Flow}
    {oc : Value} {od : Option Addr} {fd : FuncData} {osl : Array (Option Value)} {body : List Stmt} (h1 : (Mine.hd.heap_39 w.params).lookup 278 = some ⟨oc, od, .func fd, osl⟩) (h2 : fd.body = .stmts body)
    (hA : A = callerA.deeper (envOfC (Str.ofString "law") fd.scope L fa cd)) (ht : tr = execs body (envOfC (Str.ofString "law") fd.scope L fa cd))
    (B : Below callerA h₀ [] h₀) (F : Fr h₀ L s.heap m0) (hm : m0 = fun y => if y = Str.ofString "script" then some (.ref scr) else none) (N : News h₀ L s.heap [(L + 1 + 1, oc2), (L + 1, oc1)]) (d1 : oc1.data = .cell none) (d2 : oc2.data = .cell none) (X : (Mine.hd.heap_39 w.params).In h₀) (T : Top p loose mean mg mb h₀)
    (mod : ∃ o, h₀.get? sysModules = some o) (lst : h₀.IsList scr vs.toArray) (int : IntsAre vs ns) (len : ns.length ≤ 63)
    (hk : ∀ s', (∀ c o, h₀.get? c = some o → s'.heap.get? c = some o) → s'.os = s.os → (AllBare s.gens → AllBare s'.gens) → Q (.ret (.bool true)) s') :
    wpAny (model PySem.Challenge.rw_ez0159_01.row.prog w) A tr Q E s := by
  subst hA ht hm
  refine law_head w h1 h2 B F N d1 d2 X T fun h tk m dw nl kl sd nv ow F1 mw mk LF hdw W hs => ?_
  have a : LawA w h₀ L scr dw nl kl sd nv h vs ns := ⟨LF, F1.keep, mod, has_frame F1, ⟨ow, hdw⟩, (let ⟨o, _, _, e, _⟩ := hs; ⟨o, e⟩), lst, int, len⟩
  have x : LAt w h₀ L scr dw kl sd h [] h m := ⟨F1, mw, mk, ⟨ow, hdw, W⟩, KeepX.refl, by simp⟩
  refine law_fill w h1 h2 B X T a x hs fun h2' tk2 m2 kvs ks x2 hs2 K2 => ?_
  refine law_given w h1 h2 B X T a x2 hs2 K2 fun h3 tk3 m3 d xs x3 mg3 k3 xl zd lo G XA => ?_
  have dsL : sd ∉ [L] := by simp; exact a.fix.d2
  have hs3 : h3.DictOf (intKind PySem.Challenge.rw_ez0159_01.row.prog w) sd kvs := hs2.at fun o e => k3 sd o dsL e
  have K3 : KsAt h3 [sysModules, L, dw, sd] 5 kvs ks := K2.map fun t v z => TmAt.keep (k3.mono fun c hc => by simp at hc; simp [hc]) t z
  have nd : d ∉ [L, dw, sd] := fun q => by
    simp at q
    rcases q with q | q | q
    · obtain ⟨o, e⟩ := a.hL; rw [← q, zd] at e; cases e
    · obtain ⟨o, e⟩ := a.hdw; rw [← q, zd] at e; cases e
    · obtain ⟨o, e⟩ := a.hsd; rw [← q, zd] at e; cases e
  have b : LawB w h₀ L scr dw nl kl sd d nv h3 vs ns kvs ks xs := ⟨a.to x3 (let ⟨o, _, _, e, _⟩ := hs3; ⟨o, e⟩), hs3, K3, xl, nd, lo, G, XA⟩
  have y : St w h₀ L scr dw kl sd d h3 [] h3 m3 := ⟨⟨x3.F, x3.mw, x3.mki, x3.wd, KeepX.refl, by simp⟩, mg3, KeepX.refl⟩
  refine law_turns w h1 h2 B X T b y fun s' m' y' g1 g2 g3 => ?_
  exact law_last w h1 h2 B X T b y' fun h4 tk4 k4 => hk _ k4 g2 g3

end Mine
end
section -- N38
open PySem PySem.W PySem.Calls PyProof.Rows
set_option maxRecDepth 100000
set_option maxHeartbeats 8000000
set_option linter.unusedVariables false
namespace Mine
local macro_rules | `(tactic| walk_at "idle0") => `(tactic| fail)
local macro_rules | `(tactic| k_all) => `(tactic| assumption)
local macro_rules | `(tactic| ktr_enter) => `(tactic| first
  | (refine' code_defG ?k1 ?k2 ?k3 ?k4 ?k5 ?kA ?kF ?kK ?k6 ?k7 ?k8 ?k9 ?kB ?_ ?c2 ?c3 ?c4 ?c5; (case kA => exact rfl); (case kF => exact rfl); (case kK => first | assumption | exact rfl); (case k1 => k_asm); (case k2 => k_asm); (case k3 => k_asm); (case k4 => first | k_asm | exact News.nil); (case k5 => k_asm); (case k6 => k_is); (case k7 => k_is); (case k8 => ktr_room); (case k9 => exact BindsTo.of_eq rfl); (case c5 => decide); (case kB => exact locs rfl); (case c2 => exact rfl); (case c3 => exact rfl); (case c4 => exact rfl))
  | (refine' code_defCG ?k1 ?k2 ?k3 ?k4 ?k5 ?kA ?kF ?kK ?k6 ?k7 ?k8 ?k9 ?kB ?kD ?_ ?c2 ?c3 ?c4; (case kA => exact rfl); (case kF => exact rfl); (case kK => first | assumption | exact rfl); (case k1 => k_asm); (case k2 => k_asm); (case k3 => k_asm); (case k4 => first | k_asm | exact News.nil); (case k5 => k_asm); (case k6 => k_is); (case k7 => k_is); (case k8 => ktr_room); (case k9 => exact BindsTo.of_eq rfl); (case kB => exact rfl); (case kD => decide +kernel); (case c2 => exact rfl); (case c3 => exact rfl); (case c4 => exact rfl)))
set_option maxHeartbeats 0 in
theorem fin : PySem.Challenge.rw_ez0159_01.Holds := Mine.hd (by
  k_fill
  intro w s₀ s₁ mg mb G Y fa o pm cd doc dV kV ho hd hcd hD hmg hg args vals as hpre hlay hrd hwl hlo
  have KX := kIn_of Y
  have X := (Ground.X G).1
  have V := (Ground.X G).2
  try w_nolog (first | (have GL := glob_more (Ground.glob G (by first | k_qdec | decide +kernel) (by first | k_qdec | decide +kernel)) V) | (have GL := glob_more (Ground.glob G (by decide +kernel)) V))
  refine Ground.open G ?_
  intro T B D TE TW
  try (refine guard_noD D (by decide +kernel) ?_; clear D)
  obtain ⟨_, _, M⟩ := bmod_of_top T
  have TA := at_of_top T
  try (obtain ⟨_, _, he, B0⟩ := based_of_top T rfl hmg ho hd; have he' : cd = _ := he; subst he'; clear he)
  clear hmg
  wrow_args hpre hlay hrd hwl hlo
  all_goals (
    first | refine callC_kw (enter_call ?_) | refine enter_call ?_ | refine callC_kw (enter_callW ?_) | refine enter_callW ?_ | w_how
    w_top on
    have K0 := below_caller (Top.heap T)
    w_call any ho hd hcd hD T F
    clear hd TA
    k_drop
    skip)
  refine' law_all w ?h1 ?h2 ?hA ?ht K0 F ?hm ?hN ?d1 ?d2 KX T ?mod ?lst ?int ?len ?hk
  case h1 => k_is
  case h2 => rfl
  case hA => rfl
  case ht => rfl
  case hm => with_unfolding_all rfl
  case hN => assumption
  case d1 => exact Eq.trans (by assumption) (by with_unfolding_all rfl)
  case d2 => exact Eq.trans (by assumption) (by with_unfolding_all rfl)
  case mod =>
    obtain ⟨mm, ⟨o, _, _, e, _⟩, _⟩ := (T.seer (by decide +kernel)).mods
    exact ⟨o, e⟩
  case lst => assumption
  case int => assumption
  case len => omega
  case hk =>
    intro s' k os gb
    exact ⟨.inl ⟨.bool true, .bool true, [], rfl, fun _ => rfl, .bool true, (by wrow_post), unshared_nil⟩, .of_keep k, os, gb (.of_eq hg)⟩)

end Mine
end
set_option maxRecDepth 100000 in
set_option maxHeartbeats 8000000 in
theorem PySem.Challenge.cw_ez0159_01_holds : PySem.Challenge.rw_ez0159_01.Holds := by
  exact Mine.fin
