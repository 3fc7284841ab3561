import Derived.Test.Qxb6614822aFmtNewR
import Derived.Test.Qxb6614822aFmtIds
namespace Go.Proofs.Qxb6614822aFmt
open Go.RowKit Pcg

/-- the state that NewPCG(s1, s2) begins with -/
def stOf (s1 s2 : Int) : Nat := s1.toNat * 18446744073709551616 + s2.toNat
theorem stOf_ok {s1 s2 : Int} (h1 : Word s1) (h2 : Word s2) : hiOf (stOf s1 s2) = s1 ∧ loOf (stOf s1 s2) = s2 ∧ stOf s1 s2 < M128 := by
  obtain ⟨a1, b1⟩ := h1
  obtain ⟨a2, b2⟩ := h2
  unfold hiOf loOf stOf M128
  refine ⟨?_, ?_, ?_⟩ <;> omega

theorem vroom_bd {view n : Int} (h0 : 2 ≤ view) (hn : 1 ≤ n) : 0 ≤ vroom view n ∧ vroom view n ≤ n - 1 ∧ (view ≤ n - 1 → view ≤ vroom view n) := by
  unfold vroom
  refine ⟨?_, ?_, ?_⟩ <;> omega

/-- what both callers of ZZnewSampler learn: a sampler of their own, its views L -/
def Made (w w' : World) (aI : Option Addr) (n : Nat) (view : Int) (rm bs bv bt : Nat) (L : Nat → List Int) : Prop :=
  SAt w' aI n view bs bv ∧ w.heap.size ≤ bs ∧ w.heap.size ≤ bv ∧ w.heap.size ≤ bt ∧ VS w' bv bt rm n L ∧ w.grownBy w' none

set_option maxRecDepth 20000 in
set_option maxHeartbeats 1000000 in
theorem zz_random (aI : Option Addr) (n cI c : Nat) (heal swap sel prop s1 s2 : Int) (w : World) (hn2 : n ≤ 1000) (hnc : n ≤ cI) (hcI : cI ≤ 9223372036854775807) (hc2 : 2 ≤ c) (j0 : Nat) (hj0 : j0 + c + 1 = n)
    (h1 : Word s1) (h2 : Word s2) :
    Calls Tryf.prog 11 #[.slice aI n cI, .int .i64 0, .slice none 0 0, .int .i64 c, .int .i64 heal, .int .i64 swap, .int .i64 sel, .int .i64 prop, .int .u64 s1, .int .u64 s2] w
      fun e w' => ∃ bs bv bt S Es, e = .returned (.pointer (some ⟨bs, 0, none⟩)) ∧ Made w w' aI n c (vroom c n).toNat bs bv bt (fun j => Es.getD j []) ∧ ORun j0 c (stOf s1 s2) n S Es := by
  obtain ⟨r0, r1, r2⟩ := vroom_bd (view := (c : Int)) (n := (n : Int)) (by omega) (by omega)
  obtain ⟨e1, e2, e3⟩ := stOf_ok h1 h2
  have hN := new_random aI none n cI 0 0 c heal swap sel prop (w.heap.size + 1) w.heap.size (stOf s1 s2) ((w.alloc (.cells #[.int .u64 s1, .int .u64 s2] 92)).alloc (.cells #[.iface 69 (.pointer (some ⟨w.heap.size, 0, none⟩))] 90)) hn2 hnc hcI hc2 j0 hj0 (vroom c n).toNat (by omega) (by omega) (by omega)
    ⟨by
      have := heap_alloc_new (w.alloc (.cells #[.int .u64 s1, .int .u64 s2] 92)) (.cells #[.iface 69 (.pointer (some ⟨w.heap.size, 0, none⟩))] 90)
      rw [show (w.alloc (.cells #[.int .u64 s1, .int .u64 s2] 92)).heap.size = w.heap.size + 1 by simp] at this
      exact this, by
      rw [e1, e2]
      exact Blk.grown (heap_alloc_new w _) (World.grownBy_alloc _ _ none) (by simp), e3, by omega⟩
  clear e1 e2 e3 r0 r1 r2
  go_enter Tryf.func11, Tryf.ntmps11
  go_wp2_with (first | (go_at_call 25; refine hN.mono ?_; rintro e w' ⟨bs, bv, bt, S, Es, rfl, hS, l1, l2, l3, hV, hO, hg⟩) | (go_at_call 26; go_in) | (go_at_call 27; go_in) | fail)
  go_ret
  have hg0 : w.grownBy ((w.alloc (.cells #[.int .u64 s1, .int .u64 s2] 92)).alloc (.cells #[.iface 69 (.pointer (some ⟨w.heap.size, 0, none⟩))] 90)) none := grown_trans (World.grownBy_alloc _ _ _) (World.grownBy_alloc _ _ _)
  have hz := hg0.size
  exact ⟨bs, bv, bt, S, Es, rfl, ⟨hS, by omega, by omega, by omega, hV, grown_then hg0 hg (fun j e => .inl (by cases e; exact Nat.le_refl _))⟩, hO⟩
end Go.Proofs.Qxb6614822aFmt
