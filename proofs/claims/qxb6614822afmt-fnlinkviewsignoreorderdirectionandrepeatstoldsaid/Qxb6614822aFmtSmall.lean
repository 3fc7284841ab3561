import Derived.Test.Qxb6614822aFmtIntN
import Derived.Test.Qxb6614822aFmtRows
import Derived.Deep.OwnRows
namespace Go.Proofs.Qxb6614822aFmt
open Go.RowKit Pcg

theorem info33 : (Tryf.prog.info? 33).map (fun i => (i.zero, i.size, i.bytes)) = some (some (.agg #[.int .u64 0, .slice none 0 0]), 2, 32) := by kernel_rfl
theorem info35 : (Tryf.prog.info? 35).map (fun i => (i.zero, i.size, i.bytes)) = some (some (.agg #[.int .u64 0, .int .i64 0]), 2, 16) := by kernel_rfl
theorem info3 : (Tryf.prog.info? 3).map (fun i => (i.zero, i.size, i.bytes)) = some (some (.int .i64 0), 1, 8) := by kernel_rfl
theorem info23 : (Tryf.prog.info? 23).map (fun i => (i.zero, i.size, i.bytes)) = some (some (.int .u64 0), 1, 8) := by kernel_rfl

def vroom (view n : Int) : Int := min view (n - 1) + min (view / 2) (n - 1 - min view (n - 1))

theorem ret_i64 {a b : Int} (h : a = b) : Ending.returned (.int .i64 a) = .returned (.int .i64 b) := by rw [h]

set_option maxRecDepth 20000 in
set_option maxHeartbeats 1000000 in
theorem room_any (view n : Int) (w : World) (h0 : 2 ≤ view) (h1 : view ≤ 9223372036854775807) (hn0 : 0 ≤ n) (hn1 : n ≤ 1000000) :
    Calls Tryf.prog 33 #[.int .i64 view, .int .i64 n] w fun e w' => e = .returned (.int .i64 (vroom view n)) ∧ w' = w := by
  go_enter Tryf.func33, Tryf.ntmps33
  go_wp2
  all_goals
    go_ret
    exact ⟨ret_i64 (by unfold vroom; omega), rfl⟩

set_option maxRecDepth 20000 in
set_option maxHeartbeats 1000000 in
theorem clip_any (a : Option Addr) (n c : Nat) (w : World) (hnc : n ≤ c) (_hc : c ≤ 9223372036854775807) :
    Calls Tryf.prog 32 #[.slice a n c] w fun e w' => e = .returned (.slice a n n) ∧ w' = w := by
  go_enter Tryf.func32, Tryf.ntmps32
  go_wp2
  go_ret
  exact ⟨rfl, rfl⟩

def other (i k : Int) : Int := if i ≤ k then k + 1 else k

set_option maxRecDepth 20000 in
set_option maxHeartbeats 1000000 in
theorem other_any (b : Nat) (i k : Int) (w : World) (hc : w.cell? ⟨b, 0, none⟩ = some (.int .i64 i)) (hk0 : 0 ≤ k) (hk1 : k ≤ 1000000) :
    Calls Tryf.prog 34 #[.int .i64 k, .pointer (some ⟨b, 0, none⟩)] w fun e w' => e = .returned (.int .u64 (other i k)) ∧ w' = w := by
  by_cases h : i ≤ k
  · have e : other i k = k + 1 := by unfold other; rw [if_pos h]
    rw [e]
    go_enter Tryf.func34, Tryf.ntmps34
    go_wp2
    go_ret
    exact ⟨rfl, rfl⟩
  · have e : other i k = k := by unfold other; rw [if_neg h]
    rw [e]
    clear e
    go_enter Tryf.func34, Tryf.ntmps34
    go_wp2
    go_ret
    exact ⟨rfl, rfl⟩

/-- the entries of a view: nodes es, of age 0, from offset off on in block bt -/
def Entries (w : World) (bt off : Nat) (es : List Int) : Prop :=
  ∀ k, k < es.length → w.cell? ⟨bt, off + k * 2, none⟩ = some (.int .u64 (es.getD k 0)) ∧ w.cell? ⟨bt, off + k * 2 + 1, none⟩ = some (.int .i64 0)

set_option maxRecDepth 20000 in
set_option maxHeartbeats 1000000 in
theorem index_any (bv o bt off cap : Nat) (es : List Int) (node : Int) (w : World) (hl : es.length ≤ 1000000)
    (hv : w.cell? ⟨bv, o + 1, none⟩ = some (.slice (some ⟨bt, off, none⟩) es.length cap)) (hE : Entries w bt off es) :
    Calls Tryf.prog 45 #[.pointer (some ⟨bv, o, none⟩), .int .u64 node] w fun e w' => ∃ k : Int, e = .returned (.int .i64 k) ∧ (0 ≤ k ↔ es.contains node = true) ∧ w.grownBy w' none := by
  go_enter Tryf.func45, Tryf.ntmps45
  go_wp2
  go_loopg [12] es.length (fun t i wr => ∃ k : Nat, k + t = es.length ∧ i = .int .i64 k ∧ (∀ j, j < k → es.getD j 0 ≠ node) ∧ w.grownBy wr none)
  case atStart => exact ⟨0, by omega, rfl, (fun j hj => absurd hj (Nat.not_lt_zero _)), grown_refl _ _⟩
  case round =>
    obtain ⟨k, hk, rfl, hno, hg⟩ := hrel
    have HN : Hid (∀ j, j < k → es.getD j 0 ≠ node) := hno
    clear hno hv
    by_cases hlt : k < es.length
    · have c0 : wr.cell? ⟨bt, off + k * 2, none⟩ = some (.int .u64 (es.getD k 0)) := hg.cell (hE k hlt).1 (by simp)
      have c1 : wr.cell? ⟨bt, off + k * 2 + 1, none⟩ = some (.int .i64 0) := hg.cell (hE k hlt).2 (by simp)
      have HE : Hid (Entries w bt off es) := hE
      have HG : Hid (w.grownBy wr none) := hg
      have HK : Hid (k + gk = es.length) := hk
      clear hE hg hk
      generalize hx : es.getD k 0 = x at c0
      have HX : Hid (es.getD k 0 = x) := hx
      clear hx
      go_wp2
      · go_ret
        have h9 : (x == node) = true := by assumption
        refine ⟨_, rfl, ⟨fun _ => ?_, fun _ => ?_⟩, (grown_trans HG.out (World.grownBy_alloc _ _ _))⟩
        · rw [List.contains_iff_mem]
          have e := HX.out
          rw [beq_iff_eq] at h9
          rw [← h9, ← e]
          simp only [List.getD, List.getElem?_eq_getElem hlt, Option.getD_some]
          exact List.getElem_mem hlt
        · show (0 : Int) ≤ (k : Int)
          omega
      · have h9 : (x == node) = false := by assumption
        go_roundg (gk - 1)
        case measure => have := HK.out; omega
        case rel =>
          refine ⟨k + 1, by have := HK.out; omega, by go_num, fun j hj => ?_, grown_trans HG.out (World.grownBy_alloc _ _ _)⟩
          by_cases e : j < k
          · exact HN.out j e
          · obtain rfl : j = k := by omega
            rw [HX.out]
            simpa using h9
    · go_wp2
      go_ret
      refine ⟨_, rfl, ⟨fun h => absurd h (by decide), fun h => ?_⟩, hg⟩
      rw [List.contains_iff_mem, List.mem_iff_getElem] at h
      obtain ⟨j, hj, e⟩ := h
      exact absurd (by simp [List.getD, hj, e]) (HN.out j (by omega))

set_option maxRecDepth 20000 in
set_option maxHeartbeats 1000000 in
theorem holds_any (bv o bt off cap : Nat) (es : List Int) (node : Int) (w : World) (hl : es.length ≤ 1000000)
    (hv : w.cell? ⟨bv, o + 1, none⟩ = some (.slice (some ⟨bt, off, none⟩) es.length cap)) (hE : Entries w bt off es) :
    Calls Tryf.prog 36 #[.pointer (some ⟨bv, o, none⟩), .int .u64 node] w fun e w' => e = .returned (.bool (es.contains node)) ∧ w.grownBy w' none := by
  have h := index_any bv o bt off cap es node w hl hv hE
  clear hv hE
  cases hb : es.contains node with
  | true =>
    rw [hb] at h
    go_enter Tryf.func36, Tryf.ntmps36
    go_wp2_with (go_at_call 45; refine h.mono ?_; rintro e w' ⟨k, rfl, hk, hg⟩; have hk0 : 0 ≤ k := hk.2 rfl; clear hk)
    go_ret
    exact ⟨rfl, hg⟩
  | false =>
    rw [hb] at h
    go_enter Tryf.func36, Tryf.ntmps36
    go_wp2_with (go_at_call 45; refine h.mono ?_; rintro e w' ⟨k, rfl, hk, hg⟩; have hk0 : decide (0 ≤ k) = false := (by rw [decide_eq_false_iff_not]; intro h9; have := hk.1 h9; cases this); clear hk)
    go_ret
    exact ⟨rfl, hg⟩
end Go.Proofs.Qxb6614822aFmt
