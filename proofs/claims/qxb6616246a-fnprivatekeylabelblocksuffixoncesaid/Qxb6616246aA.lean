import Derived.Test.Qxb6616246aRows
import Derived.Test.Qxb6616246aShelf
import Derived.WalkKit
import Derived.ProofKit
namespace Go.Proofs.Qxb6616246a
open Go.RowKit

theorem info5 : (Try.prog.info? 5).map (fun i => (i.zero, i.size, i.bytes)) = some (some (.int .u8 0), 1, 1) := by kernel_rfl

theorem take_snocI (xs : List Int) (k : Nat) (h : k < xs.length) : xs.take (k + 1) = xs.take k ++ [xs.getD k 0] := by
  rw [List.take_succ_eq_append_getElem h]; simp [List.getD, h]

def bv (c : UInt8) : Value := .int .u8 (c.toNat : Int)

theorem take_snocB (s : ByteArray) (k : Nat) (h : k < s.size) : s.data.toList.take (k + 1) = s.data.toList.take k ++ [s[k]] := by
  rw [List.take_succ_eq_append_getElem (by simpa using h)]; rfl

set_option maxRecDepth 20000 in
set_option maxHeartbeats 1000000 in
theorem ab_any (p : Option Addr) (n c : Nat) (xs : List Int) (w : World) (hx : xs.length = n) (hn : n ≤ 1048576) (hb : Lib.BytesIn w p n xs) :
    Calls Try.prog 21 #[.slice none 0 0, .slice p n c] w fun e w' =>
      ∃ v, e = .returned v ∧ w'.ownsRow w.heap.size 5 1 v n (xs.map (Value.int .u8)) ∧ Below w.heap.size w w' := by
  obtain ⟨i0, hi, hz0, hz1, hz2⟩ := info_parts info5
  go_enter Try.func21, Try.ntmps21
  go_wp2
  go_loopw [0, 5] (fun v i wr => ∃ k : Nat, k ≤ n ∧ i = .int .i64 k ∧ wr.ownsRow w.heap.size 5 1 v k ((xs.take k).map (Value.int .u8)) ∧ Below w.heap.size w wr) (fun _ i _ => n - (intOf i).toNat)
  case atStart => exact ⟨0, Nat.zero_le _, rfl, World.ownsRow_nil _ _ _ _, Below.refl _ _⟩
  case round =>
    obtain ⟨k, hk, rfl, hown, hnx⟩ := hrel
    by_cases hlt : k < n
    · obtain ⟨b, o, rfl, hc⟩ := hb.at (by omega)
      have hbB : b < w.heap.size := World.block_lt_of_cell? w _ (hc 0 (by omega))
      have hcx : wr.cell? ⟨b, o + k, none⟩ = some (.int .u8 (xs.getD k 0)) := (hnx.cell (by exact hbB)).trans (hc k hlt)
      clear hb hc
      go_wp2_with (at_builtin; refine wpList_append_own _ rfl _ _ 35 rfl w.heap.size 5 i0 (.int .u8 0) 1 1 Try.underlying35 hi hz0 hz1 hz2 rfl (by decide) _ _ _ rfl (hown.alloc _) ⟨wr.heap.size, 0, none⟩ 1 1 [.int .u8 (xs.getD k 0)] rfl rfl ?c1 ?c2 ?c3 ?c4 ?c5 ?_)
      case c1 =>
        intro j u hj
        match j, hj with
        | 0, hj => simp at hj; subst hj; have hl : k < xs.length := (by omega); simp [Addr.add, hl]
      case c2 => intro u hu; simp at hu; subst hu; rfl
      case c3 => unfold maxLen; omega
      case c4 => omega
      case c5 => have := hnx.size; simp; omega
      intro v' w1 hown' hgrow _
      have R1 : Hid (w1.ownsRow w.heap.size 5 1 v' (k + 1) ((xs.take (k + 1)).map (Value.int .u8))) := by
        have hl : k < xs.length := by omega
        refine cast (congrArg (World.ownsRow w1 w.heap.size 5 1 v' (k + 1)) ?_) hown'
        rw [take_snocI xs k hl, List.map_append, ← List.map_take]
        congr 1
        simp [hl]
      have R2 : Below w.heap.size w w1 := (hnx.alloc hnx.size _).grown hgrow (by have := hnx.size; simp; omega) (fun j hj => (hown.lt j hj).1)
      clear hown' hgrow hown hcx
      go_wp2
      go_roundw
      case rel => exact ⟨k + 1, by omega, by go_num, R1.out, R2⟩
      case measure => simp [intOf]; omega
    · obtain rfl : k = n := by omega
      go_wp2
      go_ret
      rw [List.take_of_length_le (by omega)] at hown
      exact ⟨_, rfl, hown, hnx⟩

set_option maxRecDepth 20000 in
set_option maxHeartbeats 1000000 in
theorem as_any (B : Nat) (v : Value) (n : Nat) (cs : List Value) (s : ByteArray) (w : World) (hn : n ≤ 1048600) (hs : s.size ≤ 100) (hB : B ≤ w.heap.size) (hown0 : w.ownsRow B 5 1 v n cs) :
    Calls Try.prog 20 #[v, .string s] w fun e w' =>
      ∃ v', e = .returned v' ∧ w'.ownsRow B 5 1 v' (n + s.size) (cs ++ s.data.toList.map bv) ∧ Below B w w' := by
  obtain ⟨i0, hi, hz0, hz1, hz2⟩ := info_parts info5
  go_enter Try.func20, Try.ntmps20
  go_wp2
  go_loopw [0, 5] (fun v i wr => ∃ k : Nat, k ≤ s.size ∧ i = .int .i64 k ∧ wr.ownsRow B 5 1 v (n + k) (cs ++ (s.data.toList.take k).map bv) ∧ Below B w wr) (fun _ i _ => s.size - (intOf i).toNat)
  case atStart => exact ⟨0, Nat.zero_le _, rfl, by simpa using hown0, Below.refl _ _⟩
  case round =>
    obtain ⟨k, hk, rfl, hown, hnx⟩ := hrel
    clear hown0
    by_cases hlt : k < s.size
    · go_wp2_with (at_builtin; refine wpList_append_own _ rfl _ _ 35 rfl B 5 i0 (.int .u8 0) 1 1 Try.underlying35 hi hz0 hz1 hz2 rfl (by decide) _ _ _ rfl (hown.alloc _) ⟨wr.heap.size, 0, none⟩ 1 1 [.int .u8 (s[k].toNat : Int)] rfl rfl ?c1 ?c2 ?c3 ?c4 ?c5 ?_)
      case c1 =>
        intro j u hj
        match j, hj with
        | 0, hj => simp at hj; subst hj; simp [Addr.add]
      case c2 => intro u hu; simp at hu; subst hu; rfl
      case c3 => unfold maxLen; omega
      case c4 => omega
      case c5 => have := hnx.size; simp; omega
      intro v' w1 hown' hgrow _
      have R1 : Hid (w1.ownsRow B 5 1 v' (n + (k + 1)) (cs ++ (s.data.toList.take (k + 1)).map bv)) := by
        rw [← Nat.add_assoc]
        refine cast (congrArg (World.ownsRow w1 B 5 1 v' (n + k + 1)) ?_) hown'
        rw [take_snocB s k hlt]; simp [List.map_take, bv]
      have R2 : Below B w w1 := (hnx.alloc (by have := hnx.size; omega) _).grown hgrow (by have := hnx.size; simp; omega) (fun j hj => (hown.lt j hj).1)
      clear hown' hgrow hown
      go_wp2
      go_roundw
      case rel => exact ⟨k + 1, by omega, by go_num, R1.out, R2⟩
      case measure => simp [intOf]; omega
    · obtain rfl : k = s.size := by omega
      go_wp2
      go_ret
      rw [List.take_of_length_le (by simp)] at hown
      exact ⟨_, rfl, hown, hnx⟩
end Go.Proofs.Qxb6616246a
