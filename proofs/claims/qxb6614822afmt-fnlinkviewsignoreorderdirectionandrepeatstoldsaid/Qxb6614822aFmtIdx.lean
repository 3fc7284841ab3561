import Derived.Test.Qxb6614822aFmtComp
namespace Go.Proofs.Qxb6614822aFmt
open Go.RowKit Go.Sort

theorem snan_any (x : Int) (w : World) : Calls Tryf.prog 77 #[.int .u64 x] w fun e w' => e = .returned (.bool false) ∧ w' = w := by
  go_enter Tryf.func77, Tryf.ntmps77
  go_wp2
  go_ret
  exact ⟨rfl, rfl⟩

set_option maxRecDepth 20000 in
set_option maxHeartbeats 1000000 in
theorem bs_any (b o n c k : Nat) (xs : List Int) (w : World) (hn : n ≤ 1000000) (hc : ∀ i, i < n → w.cell? ⟨b, o + i, none⟩ = some (.int .u64 (xs.getD i 0))) (hasc : ∀ i j, i < j → j < n → xs.getD i 0 < xs.getD j 0) (hk : k < n) :
    Calls Tryf.prog 62 #[.slice (some ⟨b, o, none⟩) n c, .int .u64 (xs.getD k 0)] w fun e w' => e = .returned (.tuple #[.int .i64 k, .bool true]) ∧ w' = w := by
  obtain ⟨G, hG⟩ : ∃ G : Nat → Int, ∀ t, G t = xs.getD t 0 := ⟨fun t => xs.getD t 0, fun _ => rfl⟩
  simp only [← hG] at hc hasc ⊢
  have HA : Hid (∀ i j, i < j → j < n → G i < G j) := hasc
  clear hasc hG
  generalize hx : G k = x
  have HX : Hid (G k = x) := hx
  clear hx
  go_enter Tryf.func62, Tryf.ntmps62
  go_wp2
  go_loopg [7, 8] n (fun t vi vj wr => ∃ i j : Nat, vi = .int .i64 i ∧ vj = .int .i64 j ∧ i ≤ k ∧ k ≤ j ∧ j ≤ n ∧ j ≤ i + t ∧ wr = w)
  case atStart => exact ⟨0, n, rfl, rfl, by omega, by omega, by omega, by omega, rfl⟩
  case round =>
    obtain ⟨i, j, rfl, rfl, h1, h2, h3, h4, hw⟩ := hrel
    subst hw
    by_cases hlt : i < j
    · generalize hh : (i + j) / 2 = h
      have hh1 : i ≤ h := by omega
      have hh2 : h < j := by omega
      go_wp2_with (first | (go_at_call 76; refine (less_any _ _ _).mono ?_; rintro e w' ⟨rfl, hw'⟩; subst hw') | fail)
      · have hl : ltInt (G h) x = true := by assumption
        have hhk : h < k := by
          rcases Nat.lt_or_ge h k with h9 | h9
          · exact h9
          · have e1 := ltI_t hl
            rw [← HX.out] at e1
            rcases Nat.eq_or_lt_of_le h9 with h8 | h8
            · subst h8; omega
            · have := HA.out k h h8 (by omega); omega
        go_roundg (gk - 1)
        case measure => omega
        case rel => exact ⟨h + 1, j, by congr 1; omega, rfl, by omega, by omega, by omega, by omega, rfl⟩
      · have hl : ltInt (G h) x = false := by assumption
        have hhk : k ≤ h := by
          rcases Nat.lt_or_ge h k with h9 | h9
          · have e1 := ltI_f hl
            rw [← HX.out] at e1
            have := HA.out h k h9 hk; omega
          · exact h9
        go_roundg (gk - 1)
        case measure => omega
        case rel => exact ⟨i, h, rfl, by congr 1; omega, by omega, by omega, by omega, by omega, rfl⟩
    · obtain rfl : i = k := by omega
      obtain rfl : i = j := by omega
      have hcc := hc i hk
      rw [HX.out] at hcc
      go_wp2_with (first | (go_at_call 77; refine (snan_any _ _).mono ?_; rintro e w' ⟨rfl, hw'⟩; subst hw') | fail)
      go_ret2
      exact ⟨rfl, rfl⟩

set_option maxRecDepth 20000 in
set_option maxHeartbeats 1000000 in
theorem idx_any (b o n c k : Nat) (xs : List Int) (w : World) (hn : n ≤ 1000000) (hc : ∀ i, i < n → w.cell? ⟨b, o + i, none⟩ = some (.int .u64 (xs.getD i 0))) (hasc : ∀ i j, i < j → j < n → xs.getD i 0 < xs.getD j 0) (hk : k < n) :
    Calls Tryf.prog 47 #[.slice (some ⟨b, o, none⟩) n c, .int .u64 (xs.getD k 0)] w fun e w' => e = .returned (.tuple #[.int .i64 k, .nilIface]) ∧ w' = w := by
  have hB := bs_any b o n c k xs w hn hc hasc hk
  clear hc hasc
  generalize xs.getD k 0 = x at hB ⊢
  go_enter Tryf.func47, Tryf.ntmps47
  go_wp2_with (first | (go_at_call 62; refine hB.mono ?_; rintro e w' ⟨rfl, hw'⟩; subst hw') | fail)
  go_ret2
  exact ⟨rfl, rfl⟩

set_option maxRecDepth 20000 in
set_option maxHeartbeats 1000000 in
/-- linkViews$1: the node's place among the sampler's nodes: bp: the box that holds the start (its first cell: the ids) -/
theorem at_any (bp b o n c k : Nat) (xs : List Int) (w : World) (hn : n ≤ 1000000) (hbox : w.cell? ⟨bp, 0, none⟩ = some (.slice (some ⟨b, o, none⟩) n c)) (hc : ∀ i, i < n → w.cell? ⟨b, o + i, none⟩ = some (.int .u64 (xs.getD i 0))) (hasc : ∀ i j, i < j → j < n → xs.getD i 0 < xs.getD j 0) (hk : k < n) :
    Calls Tryf.prog 46 #[.int .u64 (xs.getD k 0), .pointer (some ⟨bp, 0, none⟩)] w fun e w' => e = .returned (.int .i64 k) ∧ w' = w := by
  have hB := idx_any b o n c k xs w hn hc hasc hk
  clear hc hasc
  generalize xs.getD k 0 = x at hB ⊢
  go_enter Tryf.func46, Tryf.ntmps46
  go_wp2_with (first | (go_at_call 47; refine hB.mono ?_; rintro e w' ⟨rfl, hw'⟩; subst hw') | fail)
  go_ret
  exact ⟨rfl, rfl⟩
end Go.Proofs.Qxb6614822aFmt
