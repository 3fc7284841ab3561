import Derived.Test.Qxb6614822aFmtSrt10
namespace Go.Proofs.Qxb6614822aFmt
open Go.RowKit Go.Sort

set_option maxRecDepth 20000 in
set_option maxHeartbeats 1000000 in
theorem sort_any (w0 : World) (cs : Array Value) (blk off N cap : Nat) (d : Array Int) (w : World) (hR : R w0 cs blk off N w d) (hbl : blk < w0.heap.size) (hN : N ≤ 1000000) :
    Calls Tryf.prog 49 #[.slice (some ⟨blk, off, none⟩) N cap] w fun e w' =>
      e = .returned (.tuple #[]) ∧ ∃ d', R w0 cs blk off N w' d' ∧ PermIn 0 N d d' ∧ SortedIn ltInt 0 N d' := by
  have hL := Tryf.bits_Len (N : Int) w (by omega) (by omega)
  rw [Int.toNat_natCast] at hL
  have hl64 : Lib.bitLen N ≤ 20 := Lib.bitLen_le N 20 (by omega) (by omega)
  generalize Lib.bitLen N = L at hL hl64
  have hP := (pdq_any w0 cs blk off N cap hbl hN (N + 1)).z 0 N L (a' := 0) (b' := N) rfl rfl (by omega) hR (by omega) (by omega) (.inl rfl) (by omega)
  clear hR
  go_enter Tryf.func49, Tryf.ntmps49
  go_wp2_with (first | (go_at_call 64; refine hL.mono ?_; rintro e w' ⟨rfl, hw⟩; subst hw) | (go_at_call 63; refine hP.mono ?_; rintro e w2 ⟨rfl, hR2⟩) | fail)
  go_end0
  exact ⟨rfl, hR2⟩
end Go.Proofs.Qxb6614822aFmt
