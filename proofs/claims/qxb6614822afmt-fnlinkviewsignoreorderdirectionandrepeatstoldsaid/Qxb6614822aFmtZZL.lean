import Derived.Test.Qxb6614822aFmtNewL
import Derived.Test.Qxb6614822aFmtZZR
namespace Go.Proofs.Qxb6614822aFmt
open Go.RowKit Pcg

theorem vroom_min {c n : Nat} (h : 2 ≤ c) : ∀ m, m ≤ c → m ≤ n - 1 → m ≤ (vroom (c : Int) n).toNat := by
  intro m h1 h2
  unfold vroom
  omega

set_option maxRecDepth 20000 in
set_option maxHeartbeats 1000000 in
theorem zz_links (aI aL : Option Addr) (n cI nl cl c : Nat) (s1 s2 : Int) (xs : List Int) (ls : List (Nat × Nat)) (w : World) (hn2 : n ≤ 1000) (hnl : nl ≤ 10000) (hnc : n ≤ cI) (hcI : cI ≤ 9223372036854775807) (hc2 : 2 ≤ c) (hcm : c ≤ 9223372036854775807)
    (h1 : Word s1) (h2 : Word s2) (hIx : IntsIn .u64 w aI n xs) (hasc : ∀ i j, i < j → j < n → xs.getD i 0 < xs.getD j 0) (hL : LksIn w aL nl xs ls) (hLs : Lks ls nl n) :
    Calls Tryf.prog 11 #[.slice aI n cI, .int .i64 2, .slice aL nl cl, .int .i64 c, .int .i64 0, .int .i64 0, .int .i64 0, .int .i64 0, .int .u64 s1, .int .u64 s2] w
      fun e w' => ∃ bs bv bt S Es, e = .returned (.pointer (some ⟨bs, 0, none⟩)) ∧ Made w w' aI n c (vroom c n).toNat bs bv bt (fun j => Es.getD j []) ∧ LRun ls nl c (stOf s1 s2) n S Es := by
  obtain ⟨e1, e2, e3⟩ := stOf_ok h1 h2
  have hg0 : w.grownBy ((w.alloc (.cells #[.int .u64 s1, .int .u64 s2] 92)).alloc (.cells #[.iface 69 (.pointer (some ⟨w.heap.size, 0, none⟩))] 90)) none := grown_trans (World.grownBy_alloc _ _ _) (World.grownBy_alloc _ _ _)
  have hN := new_links aI aL n cI nl cl c 0 0 0 0 (w.heap.size + 1) w.heap.size (stOf s1 s2) xs ls ((w.alloc (.cells #[.int .u64 s1, .int .u64 s2] 92)).alloc (.cells #[.iface 69 (.pointer (some ⟨w.heap.size, 0, none⟩))] 90)) hn2 hnl hnc hcI hc2 hcm (vroom c n).toNat
    (fun h => by have := (vroom_bd (view := (c : Int)) (n := (n : Int)) (by omega) (by omega)).1; omega) (by unfold vroom; omega) (vroom_min hc2)
    ⟨by
      have := heap_alloc_new (w.alloc (.cells #[.int .u64 s1, .int .u64 s2] 92)) (.cells #[.iface 69 (.pointer (some ⟨w.heap.size, 0, none⟩))] 90)
      rw [show (w.alloc (.cells #[.int .u64 s1, .int .u64 s2] 92)).heap.size = w.heap.size + 1 by simp] at this
      exact this, by
      rw [e1, e2]
      exact Blk.grown (heap_alloc_new w _) (World.grownBy_alloc _ _ none) (by simp), e3, by omega⟩ (hIx.grown hg0) hasc (hL.grown hg0) hLs
  clear e1 e2 e3 hIx hasc hL hLs
  go_enter Tryf.func11, Tryf.ntmps11
  go_wp2_with (first | (go_at_call 25; refine hN.mono ?_; rintro e w' ⟨bs, bv, bt, S, Es, rfl, hS, l1, l2, l3, hV, hO, hg⟩) | (go_at_call 26; go_in) | (go_at_call 27; go_in) | fail)
  go_ret
  have hz := hg0.size
  exact ⟨bs, bv, bt, S, Es, rfl, ⟨hS, by omega, by omega, by omega, hV, grown_then hg0 hg (fun j e => .inl (by cases e; exact Nat.le_refl _))⟩, hO⟩
end Go.Proofs.Qxb6614822aFmt
