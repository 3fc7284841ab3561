import Derived.Test.Qxb6614822aFmtLkw
namespace Go.Proofs.Qxb6614822aFmt
open Go.RowKit Go.Sort Pcg

/-- the links as they lie in memory: two ids each -/
def LksIn (w : World) (p : Option Addr) (nl : Nat) (xs : List Int) (ls : List (Nat × Nat)) : Prop :=
  0 < nl → ∃ b o, p = some ⟨b, o, none⟩ ∧ ∀ t, t < nl → w.cell? ⟨b, o + t * 2, none⟩ = some (.int .u64 (xs.getD (ls.getD t (0, 0)).1 0)) ∧ w.cell? ⟨b, o + t * 2 + 1, none⟩ = some (.int .u64 (xs.getD (ls.getD t (0, 0)).2 0))

/-- each link joins two of the n nodes -/
def Lks (ls : List (Nat × Nat)) (nl n : Nat) : Prop := ∀ t, t < nl → (ls.getD t (0, 0)).1 < n ∧ (ls.getD t (0, 0)).2 < n ∧ (ls.getD t (0, 0)).1 ≠ (ls.getD t (0, 0)).2

theorem izA_eq (m : Nat) : izA m = iA (fun _ => 0) m := by
  unfold izA iA madeCells
  apply Array.ext
  · simp
  · intro i h1 h2
    simp [Nat.mod_one]

theorem f1_zero (ls : List (Nat × Nat)) : f1 ls 0 = fun _ => 0 := by
  funext i; unfold f1; split <;> rfl

theorem f1_bd (ls : List (Nat × Nat)) (k i : Nat) : 0 ≤ f1 ls k i ∧ f1 ls k i ≤ 2 * k := by
  unfold f1
  have := deg_le ls (i - 1) k
  split <;> omega

theorem blk_iset {w : World} {g m : Nat} {f : Nat → Int} (h : Blk w g (iA f m) 3) (i : Nat) (v : Int) : Blk (w.setCell ⟨g, i, none⟩ (.int .i64 v)) g (iA (fset f i v) m) 3 := by
  rw [← iA_set]; exact h.set _ _
theorem blk_icell {w : World} {g m : Nat} {f : Nat → Int} (h : Blk w g (iA f m) 3) : ∀ i, i < m → w.cell? ⟨g, 0 + i, none⟩ = some (.int .i64 (f i)) := fun i hi => by
  rw [Nat.zero_add, h.cell i, iA_get hi]

theorem f2_bd (ls : List (Nat × Nat)) (K m i n : Nat) (hLs : Lks ls K n) (hi : i ≤ n) : 0 ≤ f2 ls K m i ∧ f2 ls K m i ≤ 2 * K := by
  unfold f2
  have h1 := pre_total ls n K fun t ht => ⟨(hLs t ht).1, (hLs t ht).2.1⟩
  have h2 := pre_mono ls K hi
  have h3 := deg_le ls (i - 1) K
  split <;> omega

theorem RowI.congr {w : World} {g n : Nat} {f f' : Nat → Int} (h : RowI w g f n) (e : ∀ i, i < n → f i = f' i) : RowI w g f' n := by
  obtain ⟨cs, hb, h1, h2⟩ := h
  exact ⟨cs, hb, h1, fun i hi => by rw [← e i hi]; exact h2 i hi⟩

/-- the third loop's state -/
structure G3 (w1 wr : World) (bst bgv bnx n nl : Nat) (ls : List (Nat × Nat)) (fx h : Nat → Int) : Prop where
  grown : w1.grownBy wr none
  st : Blk wr bst (iA (f2 ls nl n) (n + 1)) 3
  gv : Blk wr bgv (uA h (2 * nl)) 23
  nx : RowI wr bnx fx n
  s1 : w1.heap.size ≤ bst
  s2 : w1.heap.size ≤ bgv
  s3 : w1.heap.size ≤ bnx
  d1 : bst ≠ bgv
  d2 : bst ≠ bnx
  d3 : bgv ≠ bnx
section
variable {w1 wr wr' : World} {bst bgv bnx n nl : Nat} {ls : List (Nat × Nat)} {fx h : Nat → Int}
theorem G3.grows (H : G3 w1 wr bst bgv bnx n nl ls fx h) (hg : wr.grownBy wr' none) : G3 w1 wr' bst bgv bnx n nl ls fx h :=
  ⟨grown_trans H.grown hg, H.st.grown hg (by simp), H.gv.grown hg (by simp), H.nx.grown hg (by simp), H.s1, H.s2, H.s3, H.d1, H.d2, H.d3⟩
theorem G3.drew (H : G3 w1 wr bst bgv bnx n nl ls fx h) (q : Nat) : G3 w1 (wr.drewN q) bst bgv bnx n nl ls fx h :=
  H.grows ⟨rfl, rfl, rfl, Nat.le_refl _, fun _ _ _ => rfl⟩
theorem G3.setG (H : G3 w1 wr bst bgv bnx n nl ls fx h) (i : Nat) (v : Int) : G3 w1 (wr.setCell ⟨bgv, i, none⟩ (.int .u64 v)) bst bgv bnx n nl ls fx (fset h i v) := by
  have hg : wr.grownBy (wr.setCell ⟨bgv, i, none⟩ (.int .u64 v)) (some bgv) := grown_set _ _ _
  have hne : ∀ b, bgv ≠ b → (some bgv : Option Nat) ≠ some b := fun b hb e => hb (Option.some.inj e)
  exact ⟨grown_then H.grown hg (fun j e => by cases e; exact .inl H.s2), H.st.grown hg (hne _ (Ne.symm H.d1)), blk_uset H.gv i v, H.nx.grown hg (hne _ H.d3), H.s1, H.s2, H.s3, H.d1, H.d2, H.d3⟩
theorem G3.setN (H : G3 w1 wr bst bgv bnx n nl ls fx h) {i : Nat} (hi : i < n) (v : Int) : G3 w1 (wr.setCell ⟨bnx, i, none⟩ (.int .i64 v)) bst bgv bnx n nl ls (fset fx i v) h := by
  have hg : wr.grownBy (wr.setCell ⟨bnx, i, none⟩ (.int .i64 v)) (some bnx) := grown_set _ _ _
  have hne : ∀ b, bnx ≠ b → (some bnx : Option Nat) ≠ some b := fun b hb e => hb (Option.some.inj e)
  exact ⟨grown_then H.grown hg (fun j e => by cases e; exact .inl H.s3), H.st.grown hg (hne _ (Ne.symm H.d2)), H.gv.grown hg (hne _ (Ne.symm H.d3)), H.nx.set hi v, H.s1, H.s2, H.s3, H.d1, H.d2, H.d3⟩
end

theorem f23 (ls : List (Nat × Nat)) (nl n i : Nat) (hi : i ≤ n) : f2 ls nl n i = f3 ls nl 0 i := by
  unfold f2 f3
  rw [if_pos hi]; rfl

end Go.Proofs.Qxb6614822aFmt
