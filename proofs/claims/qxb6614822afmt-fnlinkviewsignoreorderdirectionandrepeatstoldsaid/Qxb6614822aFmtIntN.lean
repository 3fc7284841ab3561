import Derived.Test.Qxb6614822aFmtDraw
namespace Go.Proofs.Qxb6614822aFmt
open Go.RowKit Pcg

theorem iter1 (f : Nat → Nat) (S : Nat) : iter f (0 + 1) S = f S := rfl
theorem iterS (f : Nat → Nat) (k S : Nat) : iter f (k + 1) S = iter f k (f S) := rfl

/-- the generator: the *rand.Rand at block r over the PCG at block g, whose state is S -/
def RngAt (w : World) (r g S : Nat) : Prop := Blk w r (randA g) 90 ∧ Blk w g (pcgA (hiOf S) (loOf S)) 92 ∧ S < M128 ∧ r ≠ g

theorem rand_S (r g S : Nat) (w : World) (h : RngAt w r g S) :
    Calls Tryf.prog 60 #[.pointer (some ⟨r, 0, none⟩)] w fun e w' => e = .returned (.int .u64 (outS (nx S))) ∧ RngAt w' r g (nx S) ∧ w.grownBy w' (some g) := by
  obtain ⟨h1, h2, h3, h4⟩ := h
  refine (rand_any r g (hiOf S) (loOf S) w (word_loOf S) h1 h2).mono ?_
  rintro e w' ⟨rfl, b, hg⟩
  rw [nHi_nx, nLo_nx] at b
  rw [nHi_nx, nLo_nx]
  exact ⟨rfl, ⟨h1.grown hg (fun e => h4 (by cases e; rfl)), b, nx_lt S, h4⟩, hg⟩

set_option maxRecDepth 20000 in
set_option maxHeartbeats 1000000 in
theorem u64n_pow (r g S : Nat) (n : Int) (w : World) (h : RngAt w r g S) (h0 : 0 < n) (h1 : n ≤ 4611686018427387904) (hp : pow2 n = true) :
    Calls Tryf.prog 44 #[.pointer (some ⟨r, 0, none⟩), .int .u64 n] w fun e w' => ∃ k S', e = .returned (.int .u64 k) ∧ Draw n S k S' ∧ RngAt w' r g S' ∧ w.grownBy w' (some g) := by
  have hN := rand_S r g S w h
  have hp' : (bits BinOp.and IntKind.u64 n (n - 1) == 0) = true := hp
  have HP : Hid (pow2 n = true) := hp
  clear h hp
  go_enter Tryf.func44, Tryf.ntmps44
  go_wp2_with (first | (go_at_call 60; refine hN.mono ?_; rintro e w' ⟨rfl, hR', hg'⟩) | fail)
  go_ret
  exact ⟨_, _, rfl, .inl ⟨HP.out, rfl, rfl⟩, hR', hg'⟩

set_option maxRecDepth 20000 in
set_option maxHeartbeats 1000000 in
theorem u64n_not (r g S : Nat) (n : Int) (w : World) (h : RngAt w r g S) (h0 : 0 < n) (h1 : n ≤ 4611686018427387904) (hp : pow2 n = false) :
    Calls Tryf.prog 44 #[.pointer (some ⟨r, 0, none⟩), .int .u64 n] w fun e w' => ∃ k S', e = .returned (.int .u64 k) ∧ Draw n S k S' ∧ RngAt w' r g S' ∧ w.grownBy w' (some g) := by
  have hN := rand_S r g S w h
  have hM := fun (T : Nat) => mul64 (outS T) n (word_outS T) (by unfold Word; omega)
  have hp' : (bits BinOp.and IntKind.u64 n (n - 1) == 0) = false := hp
  have HP : Hid (pow2 n = false) := hp
  clear hp
  by_cases hlt : mLo (outS (nx S)) n < n
  · go_enter Tryf.func44, Tryf.ntmps44
    go_wp2_with (first | (go_at_call 60; refine hN.mono ?_; rintro e w' ⟨rfl, hR', hg'⟩) | (go_at_call 61; refine (hM _ _).mono ?_; rintro e w' ⟨rfl, rfl⟩) | fail)
    obtain ⟨m0, hm0⟩ := accept n (nx S) h0 (by omega) (nx_lt S)
    clear hN h
    go_loopg [5, 6] m0 (fun k x y wr => ∃ m, x = .int .u64 (mHi (outS (iter nx (m + 1) S)) n) ∧ y = .int .u64 (mLo (outS (iter nx (m + 1) S)) n) ∧ (∀ j, j < m → rej n (iter nx (j + 1) S)) ∧ RngAt wr r g (iter nx (m + 1) S) ∧ w.grownBy wr (some g) ∧ ¬ rej n (iter nx k (iter nx (m + 1) S)))
    case atStart => exact ⟨0, by rw [iter1], by rw [iter1], (fun j hj => absurd hj (Nat.not_lt_zero _)), by rw [iter1]; exact hR', hg', by rw [iter1]; exact hm0⟩
    case round =>
      obtain ⟨m, rfl, rfl, hrej, hR, hg, hend⟩ := hrel
      clear hm0 hR' hg'
      have HR : Hid (∀ j, j < m → rej n (iter nx (j + 1) S)) := hrej
      have HE : Hid (¬ rej n (iter nx gk (iter nx (m + 1) S))) := hend
      clear hrej hend
      generalize hT : iter nx (m + 1) S = T at hR HE ⊢
      have HT : Hid (iter nx (m + 1) S = T) := hT
      clear hT
      have hN := rand_S r g T wr hR
      by_cases hrj : mLo (outS T) n < (IntKind.u64.wrap (-n)).tmod n
      · have HRJ : Hid (rej n T) := hrj
        clear hR
        go_wp2_with (first | (go_at_call 60; refine hN.mono ?_; rintro e w' ⟨rfl, hR', hg'⟩) | (go_at_call 61; refine (hM _ _).mono ?_; rintro e w' ⟨rfl, rfl⟩) | fail)
        obtain ⟨k', rfl⟩ : ∃ k', gk = k' + 1 := by
          cases gk with
          | zero => exact absurd HRJ.out HE.out
          | succ k' => exact ⟨k', rfl⟩
        go_roundg k'
        case measure => omega
        case rel =>
          have eT : iter nx (m + 1 + 1) S = nx T := by rw [iter_succ, HT.out]
          refine ⟨m + 1, by rw [eT], by rw [eT], ?_, by rw [eT]; exact hR', grown_trans hg hg', by rw [eT, ← iterS]; exact HE.out⟩
          intro j hj
          by_cases e : j < m
          · exact HR.out j e
          · obtain rfl : j = m := by omega
            rw [HT.out]; exact HRJ.out
      · clear hN
        go_wp2
        go_ret
        exact ⟨_, rfl, T, .inr ⟨HP.out, m, HT.out.symm, HR.out, Int.not_lt.2 hrj, rfl⟩, hR, hg⟩
  · go_enter Tryf.func44, Tryf.ntmps44
    go_wp2_with (first | (go_at_call 60; refine hN.mono ?_; rintro e w' ⟨rfl, hR', hg'⟩) | (go_at_call 61; refine (hM _ _).mono ?_; rintro e w' ⟨rfl, rfl⟩) | fail)
    go_ret
    refine ⟨_, nx S, rfl, .inr ⟨HP.out, 0, by rw [iter1], (fun j hj => absurd hj (Nat.not_lt_zero _)), ?_, rfl⟩, hR', hg'⟩
    have := thr_lt n h0
    show ¬ (mLo (outS (nx S)) n < thr n)
    omega

theorem u64n_any (r g S : Nat) (n : Int) (w : World) (h : RngAt w r g S) (h0 : 0 < n) (h1 : n ≤ 4611686018427387904) :
    Calls Tryf.prog 44 #[.pointer (some ⟨r, 0, none⟩), .int .u64 n] w fun e w' => ∃ k S', e = .returned (.int .u64 k) ∧ Draw n S k S' ∧ RngAt w' r g S' ∧ w.grownBy w' (some g) := by
  cases hp : pow2 n with
  | true => exact u64n_pow r g S n w h h0 h1 hp
  | false => exact u64n_not r g S n w h h0 h1 hp

set_option maxRecDepth 20000 in
set_option maxHeartbeats 1000000 in
theorem intN_any (r g S : Nat) (n : Int) (w : World) (h : RngAt w r g S) (h0 : 0 < n) (h1 : n ≤ 4611686018427387904) :
    Calls Tryf.prog 35 #[.pointer (some ⟨r, 0, none⟩), .int .i64 n] w fun e w' => ∃ k S', e = .returned (.int .i64 k) ∧ 0 ≤ k ∧ k < n ∧ Draw n S k S' ∧ RngAt w' r g S' ∧ w.grownBy w' (some g) := by
  have hN := u64n_any r g S n w h h0 h1
  clear h
  go_enter Tryf.func35, Tryf.ntmps35
  go_wp2_with (first | (go_at_call 44; refine hN.mono ?_; rintro e w' ⟨k, S', rfl, hD, hR', hg'⟩; obtain ⟨k0, k1⟩ := hD.bound h0; have HD : Hid (Draw n S k S') := hD; clear hD) | fail)
  go_ret
  exact ⟨k, S', rfl, k0, k1, HD.out, hR', hg'⟩
end Go.Proofs.Qxb6614822aFmt
