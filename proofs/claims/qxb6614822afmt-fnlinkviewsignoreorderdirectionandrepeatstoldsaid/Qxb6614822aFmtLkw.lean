import Derived.Test.Qxb6614822aFmtLkp
namespace Go.Proofs.Qxb6614822aFmt
open Go.RowKit Go.Sort Pcg

section
variable {w wr wr' : World} {row : Option Nat} {aI aL : Option Addr} {n cI nl cl : Nat} {how view heal swap sel prop : Int} {rm bs bv bt : Nat}
/-- a change of a new block that is none of the sampler's -/
theorem Base.other {j : Nat} (h : Base w wr row aI aL n cI nl cl how view heal swap sel prop rm bs bv bt) (hg : wr.grownBy wr' (some j)) (hj : w.heap.size + 2 ≤ j) (h1 : j ≠ bs) (h2 : j ≠ bv) (h3 : j ≠ bt) :
    Base w wr' row aI aL n cI nl cl how view heal swap sel prop rm bs bv bt := by
  have hne : ∀ b, j ≠ b → (some j : Option Nat) ≠ some b := fun b hb e => hb (Option.some.inj e)
  obtain ⟨cv, hv, hv2⟩ := h.vs
  obtain ⟨ct, ht, ht2⟩ := h.st
  exact ⟨grown_then h.grown hg fun i e => .inl (by cases e; omega), h.box3.grown hg (hne _ (by omega)), h.box4.grown hg (hne _ (by omega)), h.sat.grown hg (hne _ h1), ⟨cv, hv.grown hg (hne _ h2), hv2⟩,
    ⟨ct, ht.grown hg (hne _ h3), ht2⟩, h.lbs, h.lbv, h.lbt, h.n1, h.n2, h.n3⟩
end

/-- what stands through linkViews's fourth loop -/
structure LW (W wr : World) (aI aL : Option Addr) (n cI nl cl : Nat) (how view heal swap sel prop : Int) (rm bs bv bt r g bst bgv : Nat) (ls : List (Nat × Nat)) (L : Nat → List Int) (S : Nat) (h : Nat → Int) : Prop where
  base : Base W wr (some g) aI aL n cI nl cl how view heal swap sel prop rm bs bv bt
  vs : VS wr bv bt rm n L
  rng : RngAt wr r g S
  st : Blk wr bst (iA (f2 ls nl n) (n + 1)) 3
  gv : Blk wr bgv (uA h (2 * nl)) 23
  lr : r < W.heap.size
  lg : g < W.heap.size
  l1 : W.heap.size + 2 ≤ bst
  l2 : W.heap.size + 2 ≤ bgv
  n0 : bst ≠ bgv
  a1 : bst ≠ bs
  a2 : bst ≠ bv
  a3 : bst ≠ bt
  b1 : bgv ≠ bs
  b2 : bgv ≠ bv
  b3 : bgv ≠ bt

section
variable {W wr wr' : World} {aI aL : Option Addr} {n cI nl cl : Nat} {how view heal swap sel prop : Int} {rm bs bv bt r g bst bgv : Nat} {ls : List (Nat × Nat)} {L : Nat → List Int} {S : Nat} {h : Nat → Int}
theorem LW.grows (H : LW W wr aI aL n cI nl cl how view heal swap sel prop rm bs bv bt r g bst bgv ls L S h) (hg : wr.grownBy wr' none) : LW W wr' aI aL n cI nl cl how view heal swap sel prop rm bs bv bt r g bst bgv ls L S h :=
  ⟨H.base.grows hg (by simp), H.vs.grows hg (by simp) (by simp), H.rng.grows hg (by simp) (by simp), H.st.grown hg (by simp), H.gv.grown hg (by simp), H.lr, H.lg, H.l1, H.l2, H.n0, H.a1, H.a2, H.a3, H.b1, H.b2, H.b3⟩
theorem LW.drew (H : LW W wr aI aL n cI nl cl how view heal swap sel prop rm bs bv bt r g bst bgv ls L S h) (q : Nat) : LW W (wr.drewN q) aI aL n cI nl cl how view heal swap sel prop rm bs bv bt r g bst bgv ls L S h :=
  H.grows ⟨rfl, rfl, rfl, Nat.le_refl _, fun _ _ _ => rfl⟩
/-- the row of the given nodes is turned -/
theorem LW.turned (H : LW W wr aI aL n cI nl cl how view heal swap sel prop rm bs bv bt r g bst bgv ls L S h) {h' : Nat → Int} (hg : wr.grownBy wr' (some bgv)) (hb : Blk wr' bgv (uA h' (2 * nl)) 23) :
    LW W wr' aI aL n cI nl cl how view heal swap sel prop rm bs bv bt r g bst bgv ls L S h' := by
  have hne : ∀ b, bgv ≠ b → (some bgv : Option Nat) ≠ some b := fun b hb e => hb (Option.some.inj e)
  have lr := H.lr; have lg := H.lg; have l2 := H.l2
  exact ⟨H.base.other hg l2 H.b1 H.b2 H.b3, H.vs.grows hg (hne _ H.b2) (hne _ H.b3), H.rng.grows hg (hne _ (by omega)) (hne _ (by omega)), H.st.grown hg (hne _ (Ne.symm H.n0)), hb, lr, lg, H.l1, l2, H.n0, H.a1, H.a2, H.a3, H.b1, H.b2, H.b3⟩
theorem LW.setG (H : LW W wr aI aL n cI nl cl how view heal swap sel prop rm bs bv bt r g bst bgv ls L S h) (i : Nat) (v : Int) : LW W (wr.setCell ⟨bgv, i, none⟩ (.int .u64 v)) aI aL n cI nl cl how view heal swap sel prop rm bs bv bt r g bst bgv ls L S (fset h i v) :=
  H.turned (grown_set _ _ _) (blk_uset H.gv i v)
/-- the generator has drawn -/
theorem LW.drawn (H : LW W wr aI aL n cI nl cl how view heal swap sel prop rm bs bv bt r g bst bgv ls L S h) {S' : Nat} (hg : wr.grownBy wr' (some g)) (hr : RngAt wr' r g S') :
    LW W wr' aI aL n cI nl cl how view heal swap sel prop rm bs bv bt r g bst bgv ls L S' h := by
  have lr := H.lr; have lg := H.lg; have l1 := H.l1; have l2 := H.l2
  have x1 := H.base.lbv; have x2 := H.base.lbt
  have hne : ∀ b, W.heap.size ≤ b → (some g : Option Nat) ≠ some b := fun b hb e => by cases e; omega
  exact ⟨H.base.grows hg (fun j e => by cases e; exact ⟨lg, rfl⟩), H.vs.grows hg (hne _ (by omega)) (hne _ (by omega)), hr, H.st.grown hg (hne _ (by omega)), H.gv.grown hg (hne _ (by omega)), lr, lg, l1, l2, H.n0, H.a1, H.a2, H.a3, H.b1, H.b2, H.b3⟩
/-- one entry more in view k -/
theorem LW.append {k : Nat} {es : List Int} (x : Int) (H : LW W wr aI aL n cI nl cl how view heal swap sel prop rm bs bv bt r g bst bgv ls (upd L k es) S h) (hk : k < n) (hl : es.length < rm) :
    LW W (((wr.setCell ⟨bt, k * rm * 2 + es.length * 2, none⟩ (.int .u64 x)).setCell ⟨bt, k * rm * 2 + es.length * 2 + 1, none⟩ (.int .i64 0)).setCell ⟨bv, k * 2 + 1, none⟩ (.slice (some ⟨bt, k * rm * 2, none⟩) (es.length + 1) rm)) aI aL n cI nl cl how view heal swap sel prop rm bs bv bt r g bst bgv ls (upd L k (es ++ [x])) S h := by
  have lr := H.lr; have lg := H.lg; have l1 := H.l1; have l2 := H.l2
  have x1 := H.base.lbv; have x2 := H.base.lbt
  have a2 := H.a2; have a3 := H.a3; have b2 := H.b2; have b3 := H.b3
  refine ⟨((H.base.setT _ _).setT _ _).setV _ _, vs_append x H.base H.vs hk hl, ?_, ?_, ?_, lr, lg, l1, l2, H.n0, H.a1, H.a2, H.a3, H.b1, H.b2, H.b3⟩
  · refine RngAt.grows (RngAt.grows (RngAt.grows H.rng (grown_set _ _ _) ?_ ?_) (grown_set _ _ _) ?_ ?_) (grown_set _ _ _) ?_ ?_
    all_goals (intro e; have := Option.some.inj e; simp only at this; omega)
  · refine Blk.grown (Blk.grown (Blk.grown H.st (grown_set _ _ _) ?_) (grown_set _ _ _) ?_) (grown_set _ _ _) ?_
    all_goals (intro e; have := Option.some.inj e; simp only at this; omega)
  · refine Blk.grown (Blk.grown (Blk.grown H.gv (grown_set _ _ _) ?_) (grown_set _ _ _) ?_) (grown_set _ _ _) ?_
    all_goals (intro e; have := Option.some.inj e; simp only at this; omega)
theorem LW.relist {L' : Nat → List Int} (H : LW W wr aI aL n cI nl cl how view heal swap sel prop rm bs bv bt r g bst bgv ls L S h) (e : ∀ j, j < n → L j = L' j) : LW W wr aI aL n cI nl cl how view heal swap sel prop rm bs bv bt r g bst bgv ls L' S h :=
  ⟨H.base, fun j hj => by rw [← e j hj]; exact H.vs j hj, H.rng, H.st, H.gv, H.lr, H.lg, H.l1, H.l2, H.n0, H.a1, H.a2, H.a3, H.b1, H.b2, H.b3⟩
end

/-- the row h with the window [off, off + d.size) laid over by d -/
def hwin (h : Nat → Int) (off : Nat) (d : Array Int) : Nat → Int := fun i => if off ≤ i ∧ i < off + d.size then d[i - off]! else h i
theorem win_uA (h : Nat → Int) (M off : Nat) (d : Array Int) : win (uA h M) off d = uA (hwin h off d) M := by
  apply Array.ext_getElem?
  intro i
  by_cases hi : i < M
  · rw [uA_get hi]
    unfold win hwin
    simp only [uA_size, Array.getElem?_map, Array.getElem?_range, hi, if_true, Option.map_some]
    by_cases hw : off ≤ i ∧ i < off + d.size
    · rw [if_pos hw, if_pos hw]; rfl
    · rw [if_neg hw, if_neg hw]
      rw [getElem!_def, uA_get hi]
  · have e1 : (uA (hwin h off d) M)[i]? = none := by rw [Array.getElem?_eq_none_iff, uA_size]; omega
    rw [e1, Array.getElem?_eq_none_iff, win_size, uA_size]; omega
/-- the window of h -/
def cutA (h : Nat → Int) (off N : Nat) : Array Int := (Array.range N).map fun t => h (off + t)
theorem cutA_size (h : Nat → Int) (off N : Nat) : (cutA h off N).size = N := by simp [cutA]
theorem cutA_get {h : Nat → Int} {off N t : Nat} (ht : t < N) : (cutA h off N)[t]! = h (off + t) := by
  rw [getElem!_def]; simp [cutA, ht]
theorem hwin_cut (h : Nat → Int) (off N : Nat) : hwin h off (cutA h off N) = h := by
  funext i
  unfold hwin
  rw [cutA_size]
  split
  · rename_i hw
    rw [cutA_get (by omega), Nat.add_sub_cancel' hw.1]
  · rfl
theorem hwin_in {h : Nat → Int} {off : Nat} {d : Array Int} {t : Nat} (ht : t < d.size) : hwin h off d (off + t) = d[t]! := by
  unfold hwin; rw [if_pos ⟨by omega, by omega⟩, Nat.add_sub_cancel_left]
theorem hwin_out {h : Nat → Int} {off : Nat} {d : Array Int} {i : Nat} (hi : ¬ (off ≤ i ∧ i < off + d.size)) : hwin h off d i = h i := by
  unfold hwin; rw [if_neg hi]
/-- the row as the sort takes it -/
theorem R.of_gv {w : World} {bgv M off N : Nat} {h : Nat → Int} (hb : Blk w bgv (uA h M) 23) (hf : off + N ≤ M) : R w (uA h M) bgv off N w (cutA h off N) :=
  ⟨grown_refl _ _, by rw [win_uA, hwin_cut]; exact hb, cutA_size _ _ _, by rw [uA_size]; exact hf⟩

theorem permIn_symm {a b : Nat} {d d' : Array Int} (h : PermIn a b d d') : PermIn a b d' d := ⟨h.1.symm, fun i hi => (h.2.1 i hi).symm, h.2.2.symm⟩
theorem perm_mem {N : Nat} {d d' : Array Int} (h : PermIn 0 N d d') (hN : N ≤ d.size) : ∀ i, i < N → ∃ j, j < N ∧ d'[i]! = d[j]! := fun i hi =>
  permIn_all d d' 0 N (fun x => ∃ j, j < N ∧ x = d[j]!) hN h (fun j _ hj => ⟨j, hj, rfl⟩) i (Nat.zero_le _) hi

/-- sort and compact make node i's linked nodes of its share -/
theorem nb_of {ls : List (Nat × Nat)} {nl i off N K : Nat} {h : Nat → Int} {d1 d2 : Array Int} (hsub : ∀ t, t < N → ∃ j, nbr ls nl i j ∧ h (off + t) = (j : Int)) (hall : ∀ j, nbr ls nl i j → ∃ t, t < N ∧ h (off + t) = (j : Int))
    (hP : PermIn 0 N (cutA h off N) d1) (hD : Ded d1 N d2 K) : NbF ls nl i (fun t => d2[t]!) K := by
  have z := cutA_size h off N
  have z1 : d1.size = N := by rw [hP.1, z]
  refine ⟨hD.asc, fun t ht => ?_, fun j hj => ?_⟩
  · obtain ⟨u, u1, u2⟩ := hD.sub t ht
    obtain ⟨v, v1, v2⟩ := perm_mem hP (by omega) u u1
    obtain ⟨j, j1, j2⟩ := hsub v v1
    exact ⟨j, j1, by rw [u2, v2, cutA_get v1, j2]⟩
  · obtain ⟨t, t1, t2⟩ := hall j hj
    obtain ⟨u, u1, u2⟩ := perm_mem (permIn_symm hP) (by omega) t t1
    obtain ⟨v, v1, v2⟩ := hD.all u u1
    refine ⟨v, v1, ?_⟩

    rw [v2, ← u2, cutA_get t1, t2]
end Go.Proofs.Qxb6614822aFmt
