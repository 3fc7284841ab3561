/- A region that draws its order, by an invariant: each operation is looked at once, whatever ran before it. No program here. -/
import Derived.WalkKit
import Derived.Orders
namespace Go.Proofs.Qxb6614822aFmt
open Go.RowKit

section
variable {P : Program} {ops : Array Oper} {Q : Exit → Act → World → Prop}

theorem wpAny_inv (J : Array Bool → Act → World → Prop)
    (step : ∀ listed a w, J listed a w → ∀ i ∈ Region.ready .any ops listed, wpOp P ops Q i (fun a' w' => J (listed.setIfInBounds i true) a' w') a w)
    (fin : ∀ listed a w, J listed a w → Region.ready .any ops listed = [] → Q .normal a w) :
    ∀ (fuel : Nat) (listed : Array Bool) (a : Act) (w : World), (∃ L : List Nat, L.length ≤ fuel ∧ ∀ j, listed.getD j true = false → j ∈ L) → J listed a w → wpAny P .any ops Q fuel listed a w := by
  intro fuel
  induction fuel with
  | zero =>
    rintro listed a w ⟨L, hL, hm⟩ hJ
    have hr : Region.ready .any ops listed = [] := by
      rw [List.eq_nil_iff_forall_not_mem]
      intro j hj
      have := hm j (mem_ready.1 hj).1
      rw [List.length_eq_zero_iff.1 (Nat.le_zero.1 hL)] at this
      cases this
    exact ⟨hr, fin listed a w hJ hr⟩
  | succ fuel ih =>
    rintro listed a w ⟨L, hL, hm⟩ hJ
    refine ⟨fun hr => fin listed a w hJ hr, fun i hi => ?_⟩
    have h0 := (mem_ready.1 hi).1
    refine wpOp_mono (fun a' w' hJ' => ih _ a' w' ⟨L.erase i, ?_, fun j hj => ?_⟩ hJ') (step listed a w hJ i hi)
    · rw [List.length_erase_of_mem (hm i h0)]; omega
    · by_cases hji : i = j
      · subst hji
        have hlt : i < listed.size := by
          rcases Nat.lt_or_ge i listed.size with h' | h'
          · exact h'
          · simp [Array.getElem?_eq_none h'] at h0
        simp [hlt] at hj
      · rw [getD_set_ne true hji] at hj
        exact (List.mem_erase_of_ne (Ne.symm hji)).2 (hm j hj)

/-- all have come up where none may come up any more -/
theorem all_listed {listed : Array Bool} (hsz : listed.size = ops.size) (hac : ∀ (i : Nat) (o : Oper), ops[i]? = some o → ∀ e ∈ o.after, e.on < i) (hr : Region.ready .any ops listed = []) :
    ∀ i, i < ops.size → listed.getD i false = true := by
  intro i
  induction i using Nat.strongRecOn with
  | _ i ih =>
    intro hi
    cases hl : listed.getD i false with
    | true => rfl
    | false =>
      exfalso
      have : i ∈ Region.ready .any ops listed := by
        refine mem_ready.2 ⟨?_, ops[i], Array.getElem?_eq_getElem hi, fun e he _ => ?_⟩
        · have hi' : i < listed.size := by omega
          simp [hi'] at hl ⊢; exact hl
        · have hlt := hac i _ (Array.getElem?_eq_getElem hi) e he
          exact ih e.on hlt (by omega)
      rw [hr] at this; cases this

/-- what is known in the midst of a region: which operations have come up (listed), what each of them left -/
structure RegJ (ops : Array Oper) (a0 : Act) (pr : Nat → Value → World → Prop) (G : World → Prop) (listed : Array Bool) (a : Act) (w : World) : Prop where
  size : listed.size = ops.size
  glob : G w
  defers : a.defers = a0.defers
  tmps : a.tmps.size = a0.tmps.size
  frame : ∀ t, (∀ (i : Nat) o, ops[i]? = some o → o.dst ≠ some t) → a.tmps.getD t undef = a0.tmps.getD t undef
  vals : ∀ (i : Nat) o d, ops[i]? = some o → o.dst = some d → listed.getD i false = true → pr i (a.tmps.getD d undef) w

theorem wp_region_inv {id : Nat} {a0 : Act} {w0 : World} (hm : P.follows .mixedOrders = true) (pr : Nat → Value → World → Prop) (G : World → Prop)
    (hG : G w0.drew) (hguard : ∀ (i : Nat) o, ops[i]? = some o → o.guard = none)
    (hdst : ∀ (i j : Nat) o o' d, ops[i]? = some o → ops[j]? = some o' → o.dst = some d → o'.dst = some d → i = j)
    (hin : ∀ (i : Nat) o d, ops[i]? = some o → o.dst = some d → d < a0.tmps.size)
    (hac : ∀ (i : Nat) o, ops[i]? = some o → ∀ e ∈ o.after, e.on < i)
    (hbind : ∀ (i : Nat) o, ops[i]? = some o → ∀ e ∈ o.after, e.ground ≠ .phase → Region.binds .any e = true)
    (step : ∀ (i : Nat) o a w, ops[i]? = some o → G w →
      (∀ t, (∀ (i : Nat) o, ops[i]? = some o → o.dst ≠ some t) → a.tmps.getD t undef = a0.tmps.getD t undef) →
      (∀ e ∈ o.after, e.ground ≠ .phase → ∀ o' d, ops[e.on]? = some o' → o'.dst = some d → pr e.on (a.tmps.getD d undef) w) →
      o.wp P a w (fun a' w' => ∃ v, a' = a.put o.dst v ∧ pr i v w' ∧ G w' ∧ ∀ j u, pr j u w → pr j u w') Q)
    (fin : ∀ a w, G w → a.defers = a0.defers → a.tmps.size = a0.tmps.size →
      (∀ t, (∀ (i : Nat) o, ops[i]? = some o → o.dst ≠ some t) → a.tmps.getD t undef = a0.tmps.getD t undef) →
      (∀ (i : Nat) o d, ops[i]? = some o → o.dst = some d → pr i (a.tmps.getD d undef) w) → Q .normal a w) :
    (Code.region id ops true).wp P Q a0 w0 := by
  refine wp_region_any hm (wpAny_inv (RegJ ops a0 pr G) ?_ ?_ _ _ _ _ ⟨List.range ops.size, by simp, ?_⟩ ?_)
  · intro listed a w hJ i hi
    obtain ⟨h0, o, ho, hafter⟩ := mem_ready.1 hi
    have hw : Region.wanted o (yielded ops a.tmps) = true := by simp [Region.wanted, hguard i o ho]
    unfold wpOp
    simp only [ho, hw, if_true]
    refine .inl (Oper.wp_mono ?_ (step i o a w ho hJ.glob hJ.frame fun e he hg o' d ho' hd => hJ.vals e.on o' d ho' hd (hafter e he (hbind i o ho e he hg))))
    rintro a' w' ⟨v, rfl, hv, hG', hmono⟩
    have hil : i < listed.size := by
      rcases Nat.lt_or_ge i listed.size with h' | h'
      · exact h'
      · simp [Array.getElem?_eq_none h'] at h0
    cases hod : o.dst with
    | none =>
      refine ⟨by simpa using hJ.size, hG', hJ.defers, hJ.tmps, hJ.frame, fun j o' d ho' hd hl => ?_⟩
      have hne : i ≠ j := fun e => by subst e; rw [ho] at ho'; cases ho'; rw [hod] at hd; cases hd
      rw [getD_set_ne false hne] at hl
      exact hmono j _ (hJ.vals j o' d ho' hd hl)
    | some d0 =>
      have hd0 : d0 < a.tmps.size := by rw [hJ.tmps]; exact hin i o d0 ho hod
      refine ⟨by simpa using hJ.size, hG', hJ.defers, by simpa [Act.put] using hJ.tmps, fun t ht => ?_, fun j o' d ho' hd hl => ?_⟩
      · have hne : d0 ≠ t := fun e => ht i o ho (by rw [hod, e])
        show (a.tmps.setIfInBounds d0 v).getD t undef = _
        rw [← hJ.frame t ht]
        simp [Array.getD_eq_getD_getElem?, Array.getElem?_setIfInBounds_ne hne]
      · show pr j ((a.tmps.setIfInBounds d0 v).getD d undef) w'
        by_cases hij : i = j
        · subst hij
          rw [ho] at ho'; cases ho'
          rw [hod] at hd; cases hd
          simpa [Array.getD_eq_getD_getElem?, hd0] using hv
        · have hne : d0 ≠ d := fun e => hij (hdst i j o o' d0 ho ho' hod (by rw [hd, e]))
          rw [getD_set_ne false hij] at hl
          have := hmono j _ (hJ.vals j o' d ho' hd hl)
          simpa [Array.getD_eq_getD_getElem?, Array.getElem?_setIfInBounds_ne hne] using this
  · intro listed a w hJ hr
    exact fin a w hJ.glob hJ.defers hJ.tmps hJ.frame fun i o d ho hd => hJ.vals i o d ho hd (all_listed hJ.size hac hr i (Array.getElem?_eq_some_iff.1 ho).1)
  · intro j hj
    rw [List.mem_range]
    rcases Nat.lt_or_ge j ops.size with h | h
    · exact h
    · simp [Nat.not_lt.2 h] at hj
  · refine ⟨by simp, hG, rfl, rfl, fun t _ => rfl, fun i o d ho hd hl => ?_⟩
    have hi := (Array.getElem?_eq_some_iff.1 ho).1
    simp [hi] at hl

/-- a frame written out from one that it is like but for some slots -/
theorem act_of {a a0 : Act} (D : List Nat) (hd : a.defers = a0.defers) (hs : a.tmps.size = a0.tmps.size) (hf : ∀ t, t ∉ D → a.tmps.getD t undef = a0.tmps.getD t undef) :
    a = { tmps := D.foldl (fun r d => r.setIfInBounds d (a.tmps.getD d undef)) a0.tmps, defers := a0.defers } := by
  have key : ∀ (D : List Nat) (r : Array Value), r.size = a.tmps.size → (∀ t, t ∉ D → r.getD t undef = a.tmps.getD t undef) → D.foldl (fun r d => r.setIfInBounds d (a.tmps.getD d undef)) r = a.tmps := by
    intro D
    induction D with
    | nil =>
      intro r hr h
      apply Array.ext
      · exact hr
      · intro i h1 h2
        have h1' : i < r.size := h1
        have := h i (by simp)
        simpa [Array.getD_eq_getD_getElem?, h1', h2] using this
    | cons d D ih =>
      intro r hr h
      refine ih _ (by simpa using hr) fun t ht => ?_
      by_cases e : d = t
      · subst e
        rcases Nat.lt_or_ge d r.size with h' | h'
        · simp [Array.getD_eq_getD_getElem?, h']
        · have h2 : a.tmps.size ≤ d := by omega
          simp [Array.getD_eq_getD_getElem?, Array.getElem?_eq_none h2, Nat.not_lt.2 h']
      · have := h t (by simp [ht, Ne.symm e])
        rw [← this]
        simp [Array.getD_eq_getD_getElem?, Array.getElem?_setIfInBounds_ne e]
  have := key D a0.tmps hs.symm fun t ht => (hf t ht).symm
  cases a
  simp only at this hd ⊢
  rw [this, hd]
/-- the closed facts that 'wp_region_inv' asks of a region's text, as one Bool -/
def regOk (ops : Array Oper) (size : Nat) : Bool :=
  (List.range ops.size).all fun i => match ops[i]? with
    | some o => o.guard.isNone && (match o.dst with | some d => decide (d < size) | none => true) && o.after.all (fun e => decide (e.on < i) && (e.ground == .phase || Region.binds .any e)) &&
        (List.range ops.size).all fun j => match ops[j]? with
          | some o' => (i == j) || o.dst.isNone || o.dst != o'.dst
          | none => true
    | none => true

theorem regOk_all {ops : Array Oper} {size : Nat} (h : regOk ops size = true) (i : Nat) (o : Oper) (ho : ops[i]? = some o) :
    o.guard = none ∧ (∀ d, o.dst = some d → d < size) ∧ (∀ e ∈ o.after, e.on < i) ∧ (∀ e ∈ o.after, e.ground ≠ .phase → Region.binds .any e = true) ∧ (∀ (j : Nat) (o' : Oper) d, ops[j]? = some o' → o.dst = some d → o'.dst = some d → i = j) := by
  have hi := (Array.getElem?_eq_some_iff.1 ho).1
  unfold regOk at h
  rw [List.all_eq_true] at h
  have h1 := h i (List.mem_range.2 hi)
  simp only [ho, Bool.and_eq_true] at h1
  obtain ⟨⟨⟨g1, g2⟩, g3⟩, g4⟩ := h1
  refine ⟨by simpa using g1, fun d hd => ?_, fun e he => ?_, fun e he hg => ?_, fun j o' d ho' hd hd' => ?_⟩
  · rw [hd] at g2; simpa using g2
  · rw [Array.all_eq_true_iff_forall_mem] at g3
    have := g3 e he
    simp only [Bool.and_eq_true, decide_eq_true_eq] at this
    exact this.1
  · rw [Array.all_eq_true_iff_forall_mem] at g3
    have := g3 e he
    simp only [Bool.and_eq_true, Bool.or_eq_true, beq_iff_eq] at this
    exact this.2.resolve_left hg
  · rw [List.all_eq_true] at g4
    have hj := (Array.getElem?_eq_some_iff.1 ho').1
    have := g4 j (List.mem_range.2 hj)
    simp only [ho', hd, hd'] at this
    simpa using this

theorem wp_region_inv' {id : Nat} {a0 : Act} {w0 : World} (hm : P.follows .mixedOrders = true) (pr : Nat → Value → World → Prop) (G : World → Prop)
    (hG : G w0.drew) (hok : regOk ops a0.tmps.size = true)
    (step : ∀ (i : Nat) o a w, ops[i]? = some o → G w →
      (∀ t, (∀ (i : Nat) o, ops[i]? = some o → o.dst ≠ some t) → a.tmps.getD t undef = a0.tmps.getD t undef) →
      (∀ e ∈ o.after, e.ground ≠ .phase → ∀ o' d, ops[e.on]? = some o' → o'.dst = some d → pr e.on (a.tmps.getD d undef) w) →
      o.wp P a w (fun a' w' => ∃ v, a' = a.put o.dst v ∧ pr i v w' ∧ G w' ∧ ∀ j u, pr j u w → pr j u w') Q)
    (fin : ∀ a w, G w → a.defers = a0.defers → a.tmps.size = a0.tmps.size →
      (∀ t, (∀ (i : Nat) o, ops[i]? = some o → o.dst ≠ some t) → a.tmps.getD t undef = a0.tmps.getD t undef) →
      (∀ (i : Nat) o d, ops[i]? = some o → o.dst = some d → pr i (a.tmps.getD d undef) w) → Q .normal a w) :
    (Code.region id ops true).wp P Q a0 w0 :=
  wp_region_inv hm pr G hG (fun i o ho => (regOk_all hok i o ho).1) (fun i j o o' d ho ho' hd hd' => (regOk_all hok i o ho).2.2.2.2 j o' d ho' hd hd')
    (fun i o d ho hd => (regOk_all hok i o ho).2.1 d hd) (fun i o ho => (regOk_all hok i o ho).2.2.1) (fun i o ho => (regOk_all hok i o ho).2.2.2.1) step fin

theorem wp_value {o : Oper} {a : Act} {w w' : World} {v : Value} {K : Act → World → Prop} (h : (execOp a.eval o).run P w = .ok (.value v) w') (hK : K (a.put o.dst v) w') : o.wp P a w K Q := by
  unfold Oper.wp; rw [h]; exact hK
theorem wp_enters {o : Oper} {a : Act} {w w' : World} {f : FuncId} {args : Array Value} {K : Act → World → Prop} (h : (execOp a.eval o).run P w = .ok (.enter f args) w')
    (hc : Calls P f args w' fun e w'' => ∃ v, e = .returned v ∧ K (a.put o.dst v) w'') : o.wp P a w K Q := by
  unfold Oper.wp; rw [h]
  refine Calls.mono hc ?_
  rintro e w'' ⟨v, rfl, hk⟩
  exact hk
end
end Go.Proofs.Qxb6614822aFmt
