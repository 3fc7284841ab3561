import Derived.Test.Qxb6614822aFmtLaw2
import Derived.Laws.StructEq
namespace Go.Proofs.Qxb6614822aFmt
open Go.RowKit Pcg

/-- what the law's loops lean on: two samplers with the same views -/
structure Two (w : World) (n c rm bv bt bv' bt' : Nat) (Es : List (List Int)) : Prop where
  v1 : VS w bv bt rm n (fun j => Es.getD j [])
  v2 : VS w bv' bt' rm n (fun j => Es.getD j [])
  len : ∀ i, i < n → (Es.getD i []).length = c
  nod : ∀ i, i < n → (Es.getD i []).Nodup
  bd : ∀ i, i < n → ∀ e ∈ Es.getD i [], 0 ≤ e ∧ e ≤ (n : Int) - 1 ∧ e ≠ (i : Int)

theorem drewN_drewN (w : World) (a b : Nat) : (w.drewN a).drewN b = w.drewN (a + b) := by
  simp [World.drewN, Nat.add_assoc]

theorem getD_ne {es : List Int} (h : es.Nodup) {i j : Nat} (hij : i < j) (hj : j < es.length) : (es.getD i 0 == es.getD j 0) = false := by
  have h1 : i < es.length := by omega
  have := (List.pairwise_iff_getElem.1 h) i j h1 hj hij
  simpa [List.getD, h1, hj] using this
theorem getD_mem {es : List Int} {j : Nat} (hj : j < es.length) : es.getD j 0 ∈ es := by
  have e : es.getD j 0 = es[j] := by simp [List.getD, hj]
  rw [e]; exact List.getElem_mem hj

set_option maxRecDepth 20000 in
set_option maxHeartbeats 2000000 in
theorem s2_main (a : Option Addr) (n ca c : Nat) (xs : List Int) (heal swap sel prop s1 s2 : Int) (w : World) (hn : n ≤ 256) (hx : IntsIn .u64 w a n xs) (hl : xs.length = n) (hp : a = none → n = 0 ∧ ca = 0)
    (hasc : ascB xs n = true) (hc2 : 2 ≤ c) (hev : c % 2 = 0) (j0 : Nat) (hj0 : j0 + c + 1 = n) (h1 : Word s1) (h2 : Word s2) :
    Calls Tryf.prog 3 #[.slice a n ca, .int .i64 c, .int .i64 heal, .int .i64 swap, .int .i64 sel, .int .i64 prop, .int .u64 s1, .int .u64 s2] w
      fun e w' => e = .returned (.bool true) ∧ Below w.heap.size w w' := by
  have hA := asc_any a n ca xs w (by omega) hx
  rw [hasc] at hA
  have hev' : ((c : Int) % 2 != 0) = false := by simp; omega
  have HX : Hid (IntsIn .u64 w a n xs) := hx
  have HP : Hid (a = none → n = 0 ∧ ca = 0) := hp
  have HL : Hid (xs.length = n) := hl
  have H1 : Hid (Word s1) := h1
  have H2 : Hid (Word s2) := h2
  clear hx hasc hev hp hl h1 h2
  go_enter Tryf.func3, Tryf.ntmps3
  go_wp2_with (first | (go_at_call 9; refine hA.mono ?_; rintro e w' ⟨rfl, q, rfl⟩) | (go_at_call 8; go_in) | fail)
  clear hA
  have hx1 : IntsIn .u64 (w.drewN q) a n xs := HX.out
  refine (clone_any a n ca xs (w.drewN q) (by omega) hx1 HL.out HP.out).mono ?_
  rintro e w2 ⟨p2, rfl, hx2, hg2⟩
  have Hx2 : Hid (IntsIn .u64 w2 p2 n xs) := hx2
  have Hg2 : Hid ((w.drewN q).grownBy w2 none) := hg2
  clear hx1 hx2 hg2
  go_wp2_with fail
  refine (clone_any p2 n n xs w2 (by omega) Hx2.out HL.out (fun e => ?_)).mono ?_
  · subst e
    by_cases h0 : n = 0
    · exact ⟨h0, h0⟩
    · obtain ⟨b, o, e, _⟩ := Hx2.out (by omega)
      cases e
  rintro e w3 ⟨p3, rfl, hx3, hg3⟩
  have Hg3 : Hid (w2.grownBy w3 none) := hg3
  clear hx3 hg3
  go_wp2_with fail
  refine (zz_random p2 n n c heal swap sel prop s1 s2 w3 (by omega) (Nat.le_refl _) (by omega) hc2 j0 hj0 H1.out H2.out).mono ?_
  rintro e w4 ⟨bs, bv, bt, S, Es, rfl, hM, hO⟩
  have HM : Hid (Made w3 w4 p2 n c (vroom c n).toNat bs bv bt (fun j => Es.getD j [])) := hM
  have HO : Hid (ORun j0 c (stOf s1 s2) n S Es) := hO
  clear hM hO
  go_wp2_with fail
  refine (zz_random p3 n n c heal swap sel prop s1 s2 w4 (by omega) (Nat.le_refl _) (by omega) hc2 j0 hj0 H1.out H2.out).mono ?_
  rintro e w5 ⟨bs', bv', bt', S', Es', rfl, hM', hO'⟩
  obtain ⟨rfl, rfl⟩ := HO.out.det hO'
  have HM' : Hid (Made w4 w5 p3 n c (vroom c n).toNat bs' bv' bt' (fun j => Es.getD j [])) := hM'
  clear hM' hO'
  go_wp2_with fail
  refine (views_any p2 n c bs bv w5 (HM.out.1.grown HM'.out.2.2.2.2.2 (by simp))).mono ?_
  rintro e w6 ⟨rfl, hw6⟩
  have hw6' := hw6.symm
  subst hw6'
  go_wp2_with fail
  refine (views_any p3 n c bs' bv' w5 HM'.out.1).mono ?_
  rintro e w6 ⟨rfl, hw6⟩
  have hw6' := hw6.symm
  subst hw6'
  have hb : Below w.heap.size w w5 := by
    have g1 := below_of_grown Hg2.out
    have g2 := below_of_grown Hg3.out
    have g3 := below_of_grown HM.out.2.2.2.2.2
    have g4 := below_of_grown HM'.out.2.2.2.2.2
    have z1 : w.heap.size ≤ w2.heap.size := g1.size
    have z2 := g2.size
    have z3 := g3.size
    exact (below_drewN2 (Below.refl _ _) q).trans ((g1.mono (Nat.le_refl _)).trans ((g2.mono z1).trans ((g3.mono (by omega)).trans (g4.mono (by omega)))))
  have hT : Two w5 n c (vroom c n).toNat bv bt bv' bt' Es := by
    obtain ⟨gl, ga⟩ := HO.out.good
    have gi : ∀ i, i < n → ∃ hi : i < Es.length, Es.getD i [] = Es[i] := fun i hi => ⟨by omega, by simp [List.getD, show i < Es.length by omega]⟩
    refine ⟨HM.out.2.2.2.2.1.grows HM'.out.2.2.2.2.2 (by simp) (by simp), HM'.out.2.2.2.2.1, fun i hi => ?_, fun i hi => ?_, fun i hi => ?_⟩
    · obtain ⟨h, e⟩ := gi i hi; rw [e]; exact (ga i h).1
    · obtain ⟨h, e⟩ := gi i hi; rw [e]; exact (ga i h).2.1
    · obtain ⟨h, e⟩ := gi i hi; rw [e]
      intro x hx
      obtain ⟨x0, x1, x2⟩ := (ga i h).2.2 x hx
      exact ⟨x0, by omega, x2⟩
  have HB : Hid (Below w.heap.size w w5) := hb
  have HT : Hid (Two w5 n c (vroom c n).toNat bv bt bv' bt' Es) := hT
  clear hb hT HM HM' HO Hg2 Hg3 Hx2 HX HP HL H1 H2
  generalize (vroom c n).toNat = rm at HT
  go_wp2_with fail
  go_loopg [23] n (fun t i wr => ∃ k q : Nat, k + t = n ∧ i = .int .i64 k ∧ wr = w5.drewN q)
  case atStart => exact ⟨0, 0, by omega, rfl, rfl⟩
  case round =>
    obtain ⟨k, q1, hk, rfl, rfl⟩ := hrel
    by_cases hlt : k < n
    · obtain ⟨⟨a1, a2⟩, a3, _⟩ := HT.out.v1 k hlt
      obtain ⟨⟨b1, b2⟩, b3, _⟩ := HT.out.v2 k hlt
      have hlen := HT.out.len k hlt
      have hnod := HT.out.nod k hlt
      have hbd := HT.out.bd k hlt
      simp only [hlen] at a2 b2
      replace a3 : Entries w5 bt (k * rm * 2) (Es.getD k []) := a3
      replace b3 : Entries w5 bt' (k * rm * 2) (Es.getD k []) := b3
      generalize Es.getD k [] = ek at a3 b3 hlen hnod hbd
      have HA : Hid (Entries w5 bt (k * rm * 2) ek) := a3
      have HB2 : Hid (Entries w5 bt' (k * rm * 2) ek) := b3
      have HLn : Hid (ek.length = c) := hlen
      have HND : Hid ek.Nodup := hnod
      have HBD : Hid (∀ e ∈ ek, 0 ≤ e ∧ e ≤ (n : Int) - 1 ∧ e ≠ (k : Int)) := hbd
      clear hnod hbd
      obtain ⟨g1, hg1⟩ : ∃ t, t = gk := ⟨_, rfl⟩
      rw [← hg1] at hk
      have HG : Hid (g1 = gk) := hg1
      have HK : Hid (k + g1 = n) := hk
      clear a3 b3 hlen hg1 hk
      go_wp2_with fail
      go_loopg [26] c (fun t i wr => ∃ m q : Nat, m + t = c ∧ i = .int .i64 m ∧ wr = w5.drewN q)
      case atStart => exact ⟨0, q1, by omega, rfl, rfl⟩
      case round =>
        obtain ⟨m, q2, hm, rfl, rfl⟩ := hrel
        clear a1 a2 b1 b2
        by_cases hmc : m < c
        · obtain ⟨c1, c2⟩ := HA.out m (by have := HLn.out; omega)
          obtain ⟨d1, d2⟩ := HB2.out m (by have := HLn.out; omega)
          obtain ⟨x0, x1, x2⟩ := HBD.out _ (getD_mem (es := ek) (j := m) (by have := HLn.out; omega))
          generalize hxe : ek.getD m 0 = x at c1 d1 x0 x1 x2
          have HXe : Hid (ek.getD m 0 = x) := hxe
          have x1' : decide ((n : Int) ≤ x) = false := by simp; omega
          have x2' : (x == (k : Int)) = false := by simpa using x2
          have HMm : Hid (m + gk = c) := hm
          obtain ⟨g2, hg2⟩ : ∃ t, t = gk := ⟨_, rfl⟩
          have HG2 : Hid (g2 = gk) := hg2
          clear hxe x2 hm hg2
          go_wp2_with fail
          go_quiet (fail)
          go_wp2_with fail
          go_loopg [27] m (fun t i wr => ∃ l q : Nat, l + t = m ∧ i = .int .i64 l ∧ wr = w5.drewN q)
          case atStart => exact ⟨0, _, by omega, rfl, drewN_drewN _ _ _⟩
          case round =>
            obtain ⟨l, q3, hlm, rfl, rfl⟩ := hrel
            by_cases hl2 : l < m
            · obtain ⟨f1, f2⟩ := HA.out l (by have := HLn.out; omega)
              have hyx : (ek.getD l 0 == x) = false := by
                rw [← HXe.out]
                exact getD_ne HND.out hl2 (by have := HLn.out; omega)
              generalize ek.getD l 0 = y at f1 hyx
              have HLm : Hid (l + gk = m) := hlm
              clear hlm
              go_wp2_with fail
              go_quiet (fail)
              go_wp2_with fail
              go_roundg (gk - 1)
              case measure => have := HLm.out; omega
              case rel => exact ⟨l + 1, _, by have := HLm.out; omega, by go_num, rfl⟩
            · go_wp2_with fail
              go_roundg (g2 - 1)
              case measure =>
                have h8 := HG2.out
                have h9 := HMm.out
                omega
              case rel =>
                have h8 := HG2.out
                have h9 := HMm.out
                exact ⟨m + 1, _, by omega, by go_num, rfl⟩
        · go_wp2_with fail
          go_roundg (g1 - 1)
          case measure =>
            have h8 := HG.out
            have h9 := HK.out
            omega
          case rel =>
            have h9 := HK.out
            exact ⟨k + 1, _, by omega, by go_num, rfl⟩
    · go_wp2_with fail
      go_ret
      exact ⟨rfl, below_drewN2 HB.out q1⟩
end Go.Proofs.Qxb6614822aFmt
