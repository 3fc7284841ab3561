import Derived.Test.Qxb6614822aFmtNewS0
import Derived.Laws.Cover3
import Derived.Lib.SliceRun
import Derived.Laws.CopyOwn
import Derived.RegionTactic
namespace Go.Proofs.Qxb6614822aFmt
open Go.RowKit Pcg

/-- a slice value of n integers xs: nil, or of no element at whatever address, or at an address with its cells -/
def IntsIn (k : IntKind) (w : World) (p : Option Addr) (n : Nat) (xs : List Int) : Prop :=
  0 < n → ∃ b o, p = some ⟨b, o, none⟩ ∧ ∀ i, i < n → w.cell? ⟨b, o + i, none⟩ = some (.int k (xs.getD i 0))

theorem IntsIn.grown {k : IntKind} {w w' : World} {p : Option Addr} {n : Nat} {xs : List Int} (h : IntsIn k w p n xs) (hg : w.grownBy w' none) : IntsIn k w' p n xs := by
  intro h0
  obtain ⟨b, o, rfl, hc⟩ := h h0
  exact ⟨b, o, rfl, fun i hi => hg.cell (hc i hi) (by simp)⟩

def ascB (xs : List Int) (n : Nat) : Bool := (List.range n).all fun i => i == 0 || decide (xs.getD (i - 1) 0 < xs.getD i 0)

theorem ascB_true {xs : List Int} {n : Nat} (h : ∀ i, 1 ≤ i → i < n → xs.getD (i - 1) 0 < xs.getD i 0) : ascB xs n = true := by
  unfold ascB
  rw [List.all_eq_true]
  intro i hi
  rw [List.mem_range] at hi
  by_cases e : i = 0
  · simp [e]
  · simp only [Bool.or_eq_true, decide_eq_true_eq]; exact .inr (h i (by omega) hi)
theorem ascB_false {xs : List Int} {n i : Nat} (h1 : 1 ≤ i) (h2 : i < n) (h : xs.getD i 0 ≤ xs.getD (i - 1) 0) : ascB xs n = false := by
  rw [← Bool.not_eq_true]
  intro e
  unfold ascB at e
  rw [List.all_eq_true] at e
  have := e i (List.mem_range.2 h2)
  simp only [Bool.or_eq_true, beq_iff_eq, decide_eq_true_eq] at this
  omega

set_option maxRecDepth 20000 in
set_option maxHeartbeats 1000000 in
theorem asc_any (p : Option Addr) (n c : Nat) (xs : List Int) (w : World) (hn : n ≤ 1000000) (hx : IntsIn .u64 w p n xs) :
    Calls Tryf.prog 9 #[.slice p n c] w fun e w' => e = .returned (.bool (ascB xs n)) ∧ ∃ q, w' = w.drewN q := by
  go_enter Tryf.func9, Tryf.ntmps9
  go_wp2
  go_loopg [3] n (fun t i wr => ∃ k q : Nat, 1 ≤ k ∧ k + t = n + 1 ∧ i = .int .i64 k ∧ (∀ j, 1 ≤ j → j < k → xs.getD (j - 1) 0 < xs.getD j 0) ∧ wr = w.drewN q)
  case atStart => exact ⟨1, 0, by omega, by omega, rfl, fun j h1 h2 => by omega, rfl⟩
  case round =>
    obtain ⟨k, q, hk1, hk, rfl, hasc, rfl⟩ := hrel
    have HA : Hid (∀ j, 1 ≤ j → j < k → xs.getD (j - 1) 0 < xs.getD j 0) := hasc
    have HK : Hid (k + gk = n + 1) := hk
    clear hasc hk
    by_cases hlt : k < n
    · obtain ⟨b, o, rfl, hc⟩ := hx (by omega)
      obtain ⟨j, rfl⟩ : ∃ j, k = j + 1 := ⟨k - 1, by omega⟩
      have c0 := hc j (by omega)
      have c1 := hc (j + 1) (by omega)
      clear hc hx
      generalize hx0 : xs.getD j 0 = x0 at c0
      generalize hx1 : xs.getD (j + 1) 0 = x1 at c1
      have HX0 : Hid (xs.getD j 0 = x0) := hx0
      have HX1 : Hid (xs.getD (j + 1) 0 = x1) := hx1
      clear hx0 hx1
      go_wp2
      go_region
      go_wp2
      · go_ret
        have h9 : x1 ≤ x0 := by assumption
        refine ⟨?_, q + 1, rfl⟩
        rw [ascB_false (i := j + 1) (by omega) hlt (by rw [HX1.out, Nat.add_sub_cancel, HX0.out]; exact h9)]
        rfl
      · have h9 : x0 < x1 := by assumption
        go_roundg (gk - 1)
        case measure => have := HK.out; omega
        case rel =>
          refine ⟨j + 1 + 1, q + 1, by omega, by have := HK.out; omega, by go_num, fun i h1 h2 => ?_, rfl⟩
          by_cases e : i < j + 1
          · exact HA.out i h1 e
          · obtain rfl : i = j + 1 := by omega
            rw [HX1.out, Nat.add_sub_cancel, HX0.out]; exact h9
    · go_wp2
      go_ret
      refine ⟨?_, q, rfl⟩
      rw [ascB_true (fun i h1 h2 => HA.out i h1 (by omega))]
      rfl

theorem addr_add (b o j : Nat) : (⟨b, o, none⟩ : Addr).add j = ⟨b, o + j, none⟩ := by
  unfold Addr.add
  by_cases h : j = 0
  · subst h; simp
  · simp [h]

theorem spot_none {w : World} {a : Addr} {v : Value} (h : w.cell? a = some v) : a.spot = none := by
  unfold World.cell? at h
  split at h
  · cases hs : a.spot with
    | none => rfl
    | some x => rw [hs] at h; simp at h
  · cases h

theorem IntsIn.of_cells {k : IntKind} {w : World} {a : Addr} {n : Nat} {xs : List Int} (hc : ∀ i, i < n → w.cell? (a.add i) = some (.int k (xs.getD i 0))) : IntsIn k w (some a) n xs := by
  intro h0
  obtain ⟨b, o, s⟩ := a
  have h := hc 0 h0
  have e0 : (⟨b, o, s⟩ : Addr).add 0 = ⟨b, o, s⟩ := by unfold Addr.add; simp
  rw [e0] at h
  have hs := spot_none h
  simp only at hs
  subst hs
  exact ⟨b, o, rfl, fun i hi => by rw [← addr_add]; exact hc i hi⟩

def uv (x : Int) : Value := .int .u64 x

theorem row_ints {w : World} {g : Nat} {xs : List Int} {cur : List Value} (hl : cur = xs.map uv) (h : w.heap[g]? = some (.cells cur.toArray 23 (0, 0))) : IntsIn .u64 w (some ⟨g, 0, none⟩) xs.length xs := by
  subst hl
  refine fun h0 => ⟨g, 0, rfl, fun i hi => ?_⟩
  simp only [World.cell?, h, Nat.zero_add]
  simp [uv, List.getD, hi]

set_option maxRecDepth 20000 in
set_option maxHeartbeats 1000000 in
theorem clone_any (p : Option Addr) (n c : Nat) (xs : List Int) (w : World) (hn : n ≤ 1000000) (hx : IntsIn .u64 w p n xs) (hl : xs.length = n) (hp : p = none → n = 0 ∧ c = 0) :
    Calls Tryf.prog 10 #[.slice p n c] w fun e w' => ∃ p', e = .returned (.slice p' n n) ∧ IntsIn .u64 w' p' n xs ∧ w.grownBy w' none := by
  obtain ⟨i0, hi, hz0, hz1, hz2⟩ := info_parts info23
  have q22 : ∀ (w : World) (a : Option Addr) (n c n' c' : Nat), (binOp .eql 22 (.slice a n c) (.slice none n' c')).run Tryf.prog w = .ok (.bool a.isNone) w := fun w a n c n' c' => Lib.run_eql_slice_nil w _ _ a n c n' c' Tryf.underlying22
  cases p with
  | none =>
    obtain ⟨rfl, rfl⟩ := hp rfl
    go_enter Tryf.func10, Tryf.ntmps10
    go_wp2
    go_ret
    exact ⟨none, rfl, fun h => absurd h (Nat.lt_irrefl _), grown_refl _ _⟩
  | some a =>
    have hsz : (Tryf.prog.info? 23).map (·.size) = some 1 := by rw [hi]; simp [hz1]
    have hsrc : 0 < (xs.map uv).length → ∀ (o : Obj) j v, (xs.map uv)[j]? = some v → (w.alloc o).cell? (a.add j) = some v := by
      intro h0 o j v hv
      have hj : j < xs.length := by
        have := (List.getElem?_eq_some_iff.1 hv).1; simpa using this
      obtain ⟨b, ofs, e, hc⟩ := hx (by omega)
      cases e
      have hcj : w.cell? ((⟨b, ofs, none⟩ : Addr).add j) = some (.int .u64 (xs.getD j 0)) := by rw [addr_add]; exact hc j (by omega)
      rw [ca hcj]
      simp only [List.getD, List.getElem?_map, List.getElem?_eq_getElem hj, Option.map_some, Option.getD_some] at hv ⊢
      simpa [uv] using hv
    have hmade : (madeCells #[Value.int .u64 0] n).toList.length = n := by simp [madeCells]
    clear hx hp
    go_enter Tryf.func10, Tryf.ntmps10
    go_wp2_with (first
      | (at_make; refine wpList_make_row _ rfl _ _ 22 rfl 23 i0 (.int .u64 0) Tryf.underlying22 hi hz0 hz1 rfl .i64 .i64 n rfl rfl (by rw [hz2]; omega) (by omega) ?_)
      | (refine wpList_copy_splice rfl (.tmp 9) (.tmp 10) 22 22 rfl 23 Tryf.underlying22 hsz _ _ n n n c rfl rfl w.heap.size 0 (madeCells #[Value.int .u64 0] n).toList 23 (by rw [Array.toArray_toList]; exact heap_alloc_new w _) (xs.map uv) (by simp [hl]) (fun h0 => ⟨rfl, _, rfl, hsrc h0 _⟩) (by rw [hmade]; simp [hl]) (by simp [uv, Value.oneCell']) w.heap.size w ((Below.refl _ _).alloc (Nat.le_refl _) _) (Nat.le_refl _) ?_; intro w0 HG b0)
      | fail)
    go_ret
    have hsp : splice (madeCells #[Value.int .u64 0] n).toList 0 (xs.map uv) = xs.map uv := by
      have : (madeCells #[Value.int .u64 0] n).toList.drop (0 + (xs.map uv).length) = [] := List.drop_of_length_le (by rw [hmade]; simp [hl])
      unfold splice; rw [this]; simp
    have hin := row_ints hsp HG.out
    rw [hl] at hin
    exact ⟨_, rfl, hin, ⟨b0.os, b0.tape, b0.output, b0.size, fun k hk _ => b0.block k hk⟩⟩

set_option maxRecDepth 20000 in
set_option maxHeartbeats 1000000 in
theorem views_any (aI : Option Addr) (n : Nat) (view : Int) (bs bv : Nat) (w : World) (h : SAt w aI n view bs bv) :
    Calls Tryf.prog 12 #[.pointer (some ⟨bs, 0, none⟩)] w fun e w' => e = .returned (.slice (some ⟨bv, 0, none⟩) n n) ∧ w' = w := by
  obtain ⟨cs, hb, _, _, h6, _⟩ := h
  have q6 : w.cell? ⟨bs, 6, none⟩ = some (.slice (some ⟨bv, 0, none⟩) n n) := (hb.cell 6).trans h6
  clear hb h6
  go_enter Tryf.func12, Tryf.ntmps12
  go_wp2
  go_ret
  exact ⟨rfl, rfl⟩
end Go.Proofs.Qxb6614822aFmt
