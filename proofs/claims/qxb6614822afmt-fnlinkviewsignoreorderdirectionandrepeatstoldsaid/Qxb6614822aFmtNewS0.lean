import Derived.Test.Qxb6614822aFmtSmall
import Derived.Test.Qxb6614822aFmtReg
import Derived.Deep.DeepCutAuto
import Derived.BigRegion
import Derived.BigQuiet
import Derived.Deep.QuietTactic
namespace Go.Proofs.Qxb6614822aFmt
open Go.RowKit Pcg

def vzA (n : Nat) : Array Value := madeCells #[.int .u64 0, .slice none 0 0] (n * 2)
def izA (n : Nat) : Array Value := madeCells #[.int .i64 0] n

theorem mk29 (n : Nat) (hn : n ≤ 1000000) (w : World) : (Instr.makeSlice 29 (.int .i64 (n : Int)) (.int .i64 (n : Int))).run Tryf.prog w = .ok (.slice (some ⟨w.heap.size, 0, none⟩) n n) (w.alloc (.cells (vzA n) 33)) := by
  obtain ⟨i0, hi, hz0, hz1, hz2⟩ := info_parts info33
  have := run_make (P := Tryf.prog) w 29 33 i0 _ Tryf.underlying29 hi hz0 .i64 .i64 n n (by omega) (by omega) (by rw [hz2]; omega) (by omega)
  rw [hz1] at this
  simp only [Int.toNat_natCast] at this
  exact this
theorem mk38 (n : Nat) (hn : n ≤ 1000000) (w : World) : (Instr.makeSlice 38 (.int .i64 (n : Int)) (.int .i64 (n : Int))).run Tryf.prog w = .ok (.slice (some ⟨w.heap.size, 0, none⟩) n n) (w.alloc (.cells (izA n) 3)) := by
  obtain ⟨i0, hi, hz0, hz1, hz2⟩ := info_parts info3
  have := run_make (P := Tryf.prog) w 38 3 i0 _ Tryf.underlying38 hi hz0 .i64 .i64 n n (by omega) (by omega) (by rw [hz2]; omega) (by omega)
  rw [hz1, Nat.mul_one] at this
  simp only [Int.toNat_natCast] at this
  exact this

def dzA (n : Nat) : Array Value := madeCells #[.int .u64 0, .int .i64 0] (n * 2)
theorem mk31 (n rm : Nat) (hn : n * rm ≤ 1000000) (w : World) : (Instr.makeSlice 31 (.int .i64 ((n : Int) * (rm : Int))) (.int .i64 ((n : Int) * (rm : Int)))).run Tryf.prog w = .ok (.slice (some ⟨w.heap.size, 0, none⟩) (n * rm) (n * rm)) (w.alloc (.cells (dzA (n * rm)) 35)) := by
  obtain ⟨i0, hi, hz0, hz1, hz2⟩ := info_parts info35
  rw [← Int.natCast_mul]
  have := run_make (P := Tryf.prog) w 31 35 i0 _ Tryf.underlying31 hi hz0 .i64 .i64 ((n * rm : Nat) : Int) ((n * rm : Nat) : Int) (by omega) (by omega) (by rw [hz2]; omega) (by omega)
  rw [hz1] at this
  simp only [Int.toNat_natCast] at this
  exact this

theorem ca {W : World} {a : Addr} {v : Value} (h : W.cell? a = some v) (o : Obj) : (W.alloc o).cell? a = some v := (World.grownBy_alloc W o none).cell h (by simp)

/-- the sampler as newSampler has just made it: at bs; its views at bv -/
def SAt (w : World) (aI : Option Addr) (n : Nat) (view : Int) (bs bv : Nat) : Prop :=
  ∃ cs : Array Value, Blk w bs cs 74 ∧ cs[0]? = some (Value.int .i64 view) ∧ cs[5]? = some (Value.slice aI n n) ∧ cs[6]? = some (Value.slice (some ⟨bv, 0, none⟩) n n) ∧ cs[8]? = some (Value.int .i64 (vroom view n))
theorem SAt.grown {w w' : World} {aI : Option Addr} {n : Nat} {view : Int} {bs bv : Nat} {row : Option Nat} (h : SAt w aI n view bs bv) (hg : w.grownBy w' row) (hne : row ≠ some bs) : SAt w' aI n view bs bv := by
  obtain ⟨cs, hb, h⟩ := h
  exact ⟨cs, hb.grown hg hne, h⟩
def SNew (W w : World) (aI : Option Addr) (n : Nat) (view : Int) (bs bv : Nat) : Prop :=
  SAt w aI n view bs bv ∧ Blk w bv (vzA n) 33 ∧ bs ≠ bv ∧ W.heap.size ≤ bs ∧ W.heap.size ≤ bv
def NewRel (W : World) (aI : Option Addr) (n : Nat) (view : Int) (s : Value) (wc : World) : Prop :=
  ∃ bs bv, s = .pointer (some ⟨bs, 0, none⟩) ∧ SNew W wc aI n view bs bv ∧ W.grownBy wc none


/-- what each operation of newSampler's second region leaves -/
def r2pr (W : World) (b3 b4 : Nat) (aI : Option Addr) (n cI : Nat) (view heal swap sel prop : Int) : Nat → Value → World → Prop
  | 0, v, _ => v = .agg #[.int .i64 view, .int .i64 heal, .int .i64 swap, .int .i64 sel, .int .i64 prop]
  | 1, v, _ => v = .pointer (some ⟨b3, 0, none⟩)
  | 2, v, _ => v = .slice aI n cI
  | 3, v, _ => v = .slice aI n n
  | 4, v, _ => v = .int .i64 n
  | 5, v, w => ∃ bv, v = .slice (some ⟨bv, 0, none⟩) n n ∧ Blk w bv (vzA n) 33 ∧ W.heap.size ≤ bv
  | 6, v, _ => v = .int .i64 n
  | 7, v, _ => ∃ b, v = .slice b n n
  | 8, v, _ => v = .int .i64 n
  | 9, v, _ => ∃ b, v = .slice b n n
  | 10, v, _ => v = .pointer (some ⟨b4, 0, none⟩)
  | 11, v, _ => v = .int .i64 view
  | 12, v, _ => v = .int .i64 n
  | 13, v, _ => v = .int .i64 (vroom view n)
  | 14, v, w => ∃ bv x y, v = .agg #[.int .i64 view, .int .i64 heal, .int .i64 swap, .int .i64 sel, .int .i64 prop, .slice aI n n, .slice (some ⟨bv, 0, none⟩) n n, .slice none 0 0, .int .i64 (vroom view n), .slice none 0 0, .slice none 0 0, .slice none 0 0, .slice x n n, .slice y n n, .map none, .pointer none, .int .i64 0] ∧ Blk w bv (vzA n) 33 ∧ W.heap.size ≤ bv
  | _, v, w => ∃ bs bv, v = .pointer (some ⟨bs, 0, none⟩) ∧ SNew W w aI n view bs bv

theorem r2_mono {W : World} {b3 b4 : Nat} {aI : Option Addr} {n cI : Nat} {view heal swap sel prop : Int} {w w' : World} (hg : w.grownBy w' none) (j : Nat) (u : Value)
    (h : r2pr W b3 b4 aI n cI view heal swap sel prop j u w) : r2pr W b3 b4 aI n cI view heal swap sel prop j u w' := by
  unfold r2pr at h ⊢
  split at h
  all_goals first | exact h | skip
  · obtain ⟨bv, e, hb, hl⟩ := h; exact ⟨bv, e, hb.grown hg (by simp), hl⟩
  · obtain ⟨bv, x, y, e, hb, hl⟩ := h; exact ⟨bv, x, y, e, hb.grown hg (by simp), hl⟩
  · obtain ⟨bs, bv, e, hb, hb2, hne, hl1, hl2⟩ := h
    exact ⟨bs, bv, e, hb.grown hg (by simp), hb2.grown hg (by simp), hne, hl1, hl2⟩

theorem notDst {ops : Array Oper} {t : Nat} (h : (ops.all fun o => o.dst != some t) = true) : ∀ (i : Nat) (o : Oper), ops[i]? = some o → o.dst ≠ some t := by
  intro i o ho e
  rw [Array.all_eq_true_iff_forall_mem] at h
  have := h o (Array.mem_of_getElem? ho)
  rw [e] at this
  simp at this

theorem notDst' {ops : Array Oper} {D : List Nat} {t : Nat} (h : (ops.all fun o => match o.dst with | some d => D.contains d | none => true) = true) (ht : t ∉ D) : ∀ (i : Nat) (o : Oper), ops[i]? = some o → o.dst ≠ some t := by
  intro i o ho e
  rw [Array.all_eq_true_iff_forall_mem] at h
  have := h o (Array.mem_of_getElem? ho)
  rw [e] at this
  simp at this
  exact ht this

theorem grown_then {a b c : World} {row row' : Option Nat} (h : a.grownBy b row) (k : b.grownBy c row') (hr : ∀ j, row' = some j → a.heap.size ≤ j ∨ row = some j) : a.grownBy c row :=
  ⟨k.os.trans h.os, k.tape.trans h.tape, k.output.trans h.output, Nat.le_trans h.size k.size, fun j hj hne => (k.block j (Nat.lt_of_lt_of_le hj h.size) (fun e => by
    rcases hr j e.symm with h1 | h1
    · omega
    · exact hne h1.symm)).trans (h.block j hj hne)⟩

/-- view i: node i, its len entries from offset (i * rm) * 2 of bt on, room for rm -/
def VCell (w : World) (bv bt rm i len : Nat) : Prop :=
  w.cell? ⟨bv, i * 2, none⟩ = some (.int .u64 (i : Int)) ∧ w.cell? ⟨bv, i * 2 + 1, none⟩ = some (.slice (some ⟨bt, i * rm * 2, none⟩) len rm)

def stA (aI aL : Option Addr) (n cI nl cl : Nat) (how : Int) : Array Value := #[.slice aI n cI, .int .i64 how, .slice aL nl cl]
def paA (view heal swap sel prop : Int) : Array Value := #[.int .i64 view, .int .i64 heal, .int .i64 swap, .int .i64 sel, .int .i64 prop]

/-- what stands all through newSampler behind its making of the sampler -/
structure Base (w wr : World) (row : Option Nat) (aI aL : Option Addr) (n cI nl cl : Nat) (how view heal swap sel prop : Int) (rm bs bv bt : Nat) : Prop where
  grown : w.grownBy wr row
  box3 : Blk wr w.heap.size (stA aI aL n cI nl cl how) 62
  box4 : Blk wr (w.heap.size + 1) (paA view heal swap sel prop) 66
  sat : SAt wr aI n view bs bv
  vs : ∃ cv, Blk wr bv cv 33 ∧ cv.size = n * 2
  st : ∃ ct, Blk wr bt ct 35 ∧ ct.size = n * rm * 2
  lbs : w.heap.size + 2 ≤ bs
  lbv : w.heap.size + 2 ≤ bv
  lbt : w.heap.size + 2 ≤ bt
  n1 : bs ≠ bv
  n2 : bs ≠ bt
  n3 : bv ≠ bt

section
variable {w wr wr' : World} {row : Option Nat} {aI aL : Option Addr} {n cI nl cl : Nat} {how view heal swap sel prop : Int} {rm bs bv bt : Nat}
/-- what grows, or turns a block that is none of these, leaves them -/
theorem Base.grows {row' : Option Nat} (h : Base w wr row aI aL n cI nl cl how view heal swap sel prop rm bs bv bt) (hg : wr.grownBy wr' row') (hr : ∀ j, row' = some j → j < w.heap.size ∧ row = some j) :
    Base w wr' row aI aL n cI nl cl how view heal swap sel prop rm bs bv bt := by
  have hne : ∀ b, w.heap.size ≤ b → row' ≠ some b := fun b hb e => by have := (hr b e).1; omega
  obtain ⟨cv, hv, hv2⟩ := h.vs
  obtain ⟨ct, ht, ht2⟩ := h.st
  exact ⟨grown_then h.grown hg fun j e => .inr (hr j e).2, h.box3.grown hg (hne _ (Nat.le_refl _)), h.box4.grown hg (hne _ (by omega)), h.sat.grown hg (hne _ (by have := h.lbs; omega)), ⟨cv, hv.grown hg (hne _ (by have := h.lbv; omega)), hv2⟩,
    ⟨ct, ht.grown hg (hne _ (by have := h.lbt; omega)), ht2⟩, h.lbs, h.lbv, h.lbt, h.n1, h.n2, h.n3⟩
theorem Base.drew (h : Base w wr row aI aL n cI nl cl how view heal swap sel prop rm bs bv bt) : Base w wr.drew row aI aL n cI nl cl how view heal swap sel prop rm bs bv bt :=
  ⟨grown_drew h.grown, h.box3, h.box4, h.sat, h.vs, h.st, h.lbs, h.lbv, h.lbt, h.n1, h.n2, h.n3⟩
theorem Base.setV (h : Base w wr row aI aL n cI nl cl how view heal swap sel prop rm bs bv bt) (o : Nat) (v : Value) : Base w (wr.setCell ⟨bv, o, none⟩ v) row aI aL n cI nl cl how view heal swap sel prop rm bs bv bt := by
  have hg : wr.grownBy (wr.setCell ⟨bv, o, none⟩ v) (some bv) := grown_set _ _ _
  have l1 := h.lbs; have l2 := h.lbv; have l3 := h.lbt; have n1 := h.n1; have n3 := h.n3
  have hne : ∀ b, b ≠ bv → (some bv : Option Nat) ≠ some b := fun b hb e => hb (Option.some.inj e).symm
  obtain ⟨cv, hv, hv2⟩ := h.vs
  obtain ⟨ct, ht, ht2⟩ := h.st
  exact ⟨grown_then h.grown hg fun j e => .inl (by cases e; omega), h.box3.grown hg (hne _ (by omega)), h.box4.grown hg (hne _ (by omega)), h.sat.grown hg (hne _ n1), ⟨_, hv.set o v, by simpa using hv2⟩,
    ⟨ct, ht.grown hg (hne _ (Ne.symm n3)), ht2⟩, l1, l2, l3, n1, h.n2, n3⟩
theorem Base.setT (h : Base w wr row aI aL n cI nl cl how view heal swap sel prop rm bs bv bt) (o : Nat) (v : Value) : Base w (wr.setCell ⟨bt, o, none⟩ v) row aI aL n cI nl cl how view heal swap sel prop rm bs bv bt := by
  have hg : wr.grownBy (wr.setCell ⟨bt, o, none⟩ v) (some bt) := grown_set _ _ _
  have l1 := h.lbs; have l2 := h.lbv; have l3 := h.lbt; have n2 := h.n2; have n3 := h.n3
  have hne : ∀ b, b ≠ bt → (some bt : Option Nat) ≠ some b := fun b hb e => hb (Option.some.inj e).symm
  obtain ⟨cv, hv, hv2⟩ := h.vs
  obtain ⟨ct, ht, ht2⟩ := h.st
  exact ⟨grown_then h.grown hg fun j e => .inl (by cases e; omega), h.box3.grown hg (hne _ (by omega)), h.box4.grown hg (hne _ (by omega)), h.sat.grown hg (hne _ n2), ⟨cv, hv.grown hg (hne _ n3), hv2⟩,
    ⟨_, ht.set o v, by simpa using ht2⟩, l1, l2, l3, h.n1, n2, n3⟩
theorem Base.toRow (h : Base w wr none aI aL n cI nl cl how view heal swap sel prop rm bs bv bt) (g : Option Nat) : Base w wr g aI aL n cI nl cl how view heal swap sel prop rm bs bv bt :=
  ⟨⟨h.grown.os, h.grown.tape, h.grown.output, h.grown.size, fun k hk _ => h.grown.block k hk (by simp)⟩, h.box3, h.box4, h.sat, h.vs, h.st, h.lbs, h.lbv, h.lbt, h.n1, h.n2, h.n3⟩
end

theorem cell_set_ne {w : World} {a b : Addr} (v : Value) (h : a ≠ b) : (w.setCell a v).cell? b = w.cell? b := World.cell?_setCell_other _ _ _ _ h
theorem cell_set_same {w : World} {b o : Nat} {cs : Array Value} {t : TypeId} (h : Blk w b cs t) (ho : o < cs.size) (v : Value) : (w.setCell ⟨b, o, none⟩ v).cell? ⟨b, o, none⟩ = some v := by
  rw [(h.set o v).cell o]; simp [ho]
theorem addr_off_ne {b o o' : Nat} (h : o ≠ o') : (⟨b, o, none⟩ : Addr) ≠ ⟨b, o', none⟩ := fun e => h (by cases e; rfl)
theorem addr_blk_ne {b b' o o' : Nat} (h : b ≠ b') : (⟨b, o, none⟩ : Addr) ≠ ⟨b', o', none⟩ := fun e => h (by cases e; rfl)

/-- the slice that loop 1 lays into view k -/
theorem cut_slice (bt k rm : Nat) : Value.slice (if (k + 1) * rm = k * rm then some ⟨bt, 0, none⟩ else some ⟨bt, k * rm * 2, none⟩) 0 ((k + 1) * rm - k * rm) = .slice (some ⟨bt, k * rm * 2, none⟩) 0 rm := by
  have e : (k + 1) * rm = k * rm + rm := Nat.succ_mul _ _
  rw [e, Nat.add_sub_cancel_left]
  by_cases h : rm = 0
  · subst h; simp
  · rw [if_neg (by omega)]

theorem vcells_step {w wr : World} {row : Option Nat} {aI aL : Option Addr} {n cI nl cl : Nat} {how view heal swap sel prop : Int} {rm bs bv bt k : Nat}
    (hB : Base w wr row aI aL n cI nl cl how view heal swap sel prop rm bs bv bt) (hk : k < n) (hV : ∀ j, j < k → VCell wr bv bt rm j 0) :
    ∀ j, j < k + 1 → VCell ((wr.setCell ⟨bv, k * 2, none⟩ (.int .u64 (k : Int))).setCell ⟨bv, k * 2 + 1, none⟩ (.slice (some ⟨bt, k * rm * 2, none⟩) 0 rm)).drew bv bt rm j 0 := by
  intro j hj
  obtain ⟨cv, hv, hv2⟩ := hB.vs
  unfold VCell
  simp only [World.cell?_drew]
  by_cases e : j = k
  · subst e
    refine ⟨?_, ?_⟩
    · rw [cell_set_ne _ (addr_off_ne (by omega)), cell_set_same hv (by omega)]
    · rw [cell_set_same (hv.set _ _) (by simp; omega)]
  · obtain ⟨h1, h2⟩ := hV j (by omega)
    exact ⟨by rw [cell_set_ne _ (addr_off_ne (by omega)), cell_set_ne _ (addr_off_ne (by omega)), h1], by rw [cell_set_ne _ (addr_off_ne (by omega)), cell_set_ne _ (addr_off_ne (by omega)), h2]⟩

/-- the views: node j's entries are L j -/
def VS (w : World) (bv bt rm n : Nat) (L : Nat → List Int) : Prop :=
  ∀ j, j < n → VCell w bv bt rm j (L j).length ∧ Entries w bt (j * rm * 2) (L j) ∧ (L j).length ≤ rm

def upd (L : Nat → List Int) (k : Nat) (es : List Int) : Nat → List Int := fun j => if j = k then es else L j
theorem upd_same (L : Nat → List Int) (k : Nat) (es : List Int) : upd L k es k = es := by unfold upd; rw [if_pos rfl]
theorem upd_ne (L : Nat → List Int) {k j : Nat} (es : List Int) (h : j ≠ k) : upd L k es j = L j := by unfold upd; rw [if_neg h]

theorem VS.grows {w w' : World} {bv bt rm n : Nat} {L : Nat → List Int} {row : Option Nat} (h : VS w bv bt rm n L) (hg : w.grownBy w' row) (h1 : row ≠ some bv) (h2 : row ≠ some bt) : VS w' bv bt rm n L := by
  intro j hj
  obtain ⟨⟨a, b⟩, c, d⟩ := h j hj
  refine ⟨⟨hg.cell a (fun e => h1 e.symm), hg.cell b (fun e => h1 e.symm)⟩, fun k hk => ?_, d⟩
  exact ⟨hg.cell (c k hk).1 (fun e => h2 e.symm), hg.cell (c k hk).2 (fun e => h2 e.symm)⟩

theorem RngAt.grows {w w' : World} {r g S : Nat} {row : Option Nat} (h : RngAt w r g S) (hg : w.grownBy w' row) (h1 : row ≠ some r) (h2 : row ≠ some g) : RngAt w' r g S :=
  ⟨h.1.grown hg h1, h.2.1.grown hg h2, h.2.2.1, h.2.2.2⟩

theorem row_apart {j k rm i m : Nat} (hjk : j ≠ k) (hi : i < rm) (hm : m < rm) : j * rm + i ≠ k * rm + m := by
  intro e
  rcases Nat.lt_or_gt_of_ne hjk with h | h
  · have h1 : (j + 1) * rm ≤ k * rm := Nat.mul_le_mul_right _ h
    rw [Nat.succ_mul] at h1
    omega
  · have h1 : (k + 1) * rm ≤ j * rm := Nat.mul_le_mul_right _ h
    rw [Nat.succ_mul] at h1
    omega

/-- one entry more in view k -/
theorem vs_append {w wr : World} {row : Option Nat} {aI aL : Option Addr} {n cI nl cl : Nat} {how view heal swap sel prop : Int} {rm bs bv bt k : Nat} {L : Nat → List Int} {es : List Int} (x : Int)
    (hB : Base w wr row aI aL n cI nl cl how view heal swap sel prop rm bs bv bt) (hV : VS wr bv bt rm n (upd L k es)) (hk : k < n) (hl : es.length < rm) :
    VS (((wr.setCell ⟨bt, k * rm * 2 + es.length * 2, none⟩ (.int .u64 x)).setCell ⟨bt, k * rm * 2 + es.length * 2 + 1, none⟩ (.int .i64 0)).setCell ⟨bv, k * 2 + 1, none⟩ (.slice (some ⟨bt, k * rm * 2, none⟩) (es.length + 1) rm)) bv bt rm n (upd L k (es ++ [x])) := by
  obtain ⟨cv, hv, hv2⟩ := hB.vs
  obtain ⟨ct, ht, ht2⟩ := hB.st
  have n3 := hB.n3
  have hle : (k + 1) * rm ≤ n * rm := Nat.mul_le_mul_right _ hk
  rw [Nat.succ_mul] at hle
  intro j hj
  obtain ⟨⟨a, b⟩, c, d⟩ := hV j hj
  by_cases e : j = k
  · subst e
    rw [upd_same] at b c d ⊢
    refine ⟨⟨?_, ?_⟩, fun i hi => ?_, by simp; omega⟩
    · rw [cell_set_ne _ (addr_off_ne (by omega)), cell_set_ne _ (addr_blk_ne (Ne.symm n3)), cell_set_ne _ (addr_blk_ne (Ne.symm n3)), a]
    · have hg1 := hv.grown (grown_set wr ⟨bt, j * rm * 2 + es.length * 2, none⟩ (.int .u64 x)) (fun e => n3 (Option.some.inj e).symm)
      have hg2 := hg1.grown (grown_set _ ⟨bt, j * rm * 2 + es.length * 2 + 1, none⟩ (.int .i64 0)) (fun e => n3 (Option.some.inj e).symm)
      rw [cell_set_same hg2 (by omega)]
      simp
    · rw [List.length_append, List.length_singleton] at hi
      by_cases e2 : i < es.length
      · obtain ⟨c1, c2⟩ := c i e2
        have eg : (es ++ [x]).getD i 0 = es.getD i 0 := by simp [List.getD, List.getElem?_append_left e2]
        rw [eg]
        refine ⟨?_, ?_⟩
        · rw [cell_set_ne _ (addr_blk_ne n3), cell_set_ne _ (addr_off_ne (by omega)), cell_set_ne _ (addr_off_ne (by omega)), c1]
        · rw [cell_set_ne _ (addr_blk_ne n3), cell_set_ne _ (addr_off_ne (by omega)), cell_set_ne _ (addr_off_ne (by omega)), c2]
      · obtain rfl : i = es.length := by omega
        have eg : (es ++ [x]).getD es.length 0 = x := by simp [List.getD]
        rw [eg]
        refine ⟨?_, ?_⟩
        · rw [cell_set_ne _ (addr_blk_ne n3), cell_set_ne _ (addr_off_ne (by omega)), cell_set_same ht (by omega)]
        · rw [cell_set_ne _ (addr_blk_ne n3), cell_set_same (ht.set _ _) (by simp; omega)]
  · rw [upd_ne L _ e] at b c d ⊢
    refine ⟨⟨?_, ?_⟩, fun i hi => ?_, d⟩
    · rw [cell_set_ne _ (addr_off_ne (by omega)), cell_set_ne _ (addr_blk_ne (Ne.symm n3)), cell_set_ne _ (addr_blk_ne (Ne.symm n3)), a]
    · rw [cell_set_ne _ (addr_off_ne (by omega)), cell_set_ne _ (addr_blk_ne (Ne.symm n3)), cell_set_ne _ (addr_blk_ne (Ne.symm n3)), b]
    · obtain ⟨c1, c2⟩ := c i hi
      have ap := row_apart (i := i) (m := es.length) e (by omega) hl
      refine ⟨?_, ?_⟩
      · rw [cell_set_ne _ (addr_blk_ne n3), cell_set_ne _ (addr_off_ne (by omega)), cell_set_ne _ (addr_off_ne (by omega)), c1]
      · rw [cell_set_ne _ (addr_blk_ne n3), cell_set_ne _ (addr_off_ne (by omega)), cell_set_ne _ (addr_off_ne (by omega)), c2]
end Go.Proofs.Qxb6614822aFmt
