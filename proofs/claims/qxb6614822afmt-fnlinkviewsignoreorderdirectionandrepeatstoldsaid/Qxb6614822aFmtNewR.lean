import Derived.Test.Qxb6614822aFmtNewS0
import Derived.Test.Qxb6614822aFmtFloyd
namespace Go.Proofs.Qxb6614822aFmt
open Go.RowKit Pcg

set_option maxRecDepth 20000 in
set_option maxHeartbeats 4000000 in
theorem new_random (aI aL : Option Addr) (n cI nl cl : Nat) (c : Nat) (heal swap sel prop : Int) (r g S0 : Nat) (w : World)
    (hn2 : n ≤ 1000) (hnc : n ≤ cI) (hcI : cI ≤ 9223372036854775807) (hc2 : 2 ≤ c) (j0 : Nat) (hj0 : j0 + c + 1 = n) (rm : Nat) (hrm : vroom (c : Int) n = (rm : Int)) (hrn : rm ≤ n) (hcr : c ≤ rm) (hR : RngAt w r g S0) :
    Calls Tryf.prog 25 #[.agg #[.slice aI n cI, .int .i64 0, .slice aL nl cl], .agg #[.int .i64 c, .int .i64 heal, .int .i64 swap, .int .i64 sel, .int .i64 prop], .pointer (some ⟨r, 0, none⟩)] w
      fun e w' => ∃ bs bv bt S Es, e = .returned (.pointer (some ⟨bs, 0, none⟩)) ∧ SAt w' aI n c bs bv ∧ w.heap.size ≤ bs ∧ w.heap.size ≤ bv ∧ w.heap.size ≤ bt ∧ VS w' bv bt rm n (fun j => Es.getD j []) ∧ ORun j0 c S0 n S Es ∧ w.grownBy w' (some g) := by
  obtain ⟨view, hview⟩ : ∃ view : Int, view = (c : Int) := ⟨_, rfl⟩
  obtain ⟨how, hhow⟩ : ∃ how : Int, how = 0 := ⟨_, rfl⟩
  have hn : n ≤ 100000 := by omega
  have hn1 : 1 ≤ n := by omega
  have h0 : 2 ≤ view := by omega
  have h1 : view ≤ 9223372036854775807 := by omega
  rw [← hview] at hrm ⊢
  rw [← hhow]
  have HV0 : Hid (view = (c : Int)) := hview
  have HH0 : Hid (how = 0) := hhow
  have HR0 : Hid (RngAt w r g S0) := hR
  clear hview hhow hR
  have hclip := fun (w : World) => clip_any aI n cI w hnc hcI
  have hroom := fun (w : World) => room_any view n w h0 h1 (by omega) (by omega)
  have m29 := mk29 n (by omega)
  have m38 := mk38 n (by omega)
  go_enter Tryf.func25, Tryf.ntmps25
  go_upto_region 2 with fail
  obtain ⟨W, hW⟩ : ∃ W, W = (w.alloc (Obj.cells #[Value.slice aI n cI, Value.int IntKind.i64 how, Value.slice aL nl cl] 62)).alloc
    (Obj.cells #[Value.int IntKind.i64 view, Value.int IntKind.i64 heal, Value.int IntKind.i64 swap, Value.int IntKind.i64 sel, Value.int IntKind.i64 prop] 66) := ⟨_, rfl⟩
  rw [← hW]
  have dd0 : W.cell? ⟨w.heap.size, 0, none⟩ = some (.slice aI n cI) := by rw [hW]; simp
  have e0 : W.cell? ⟨w.heap.size + 1, 0, none⟩ = some (.int .i64 view) := by rw [hW]; simp
  have e1 : W.cell? ⟨w.heap.size + 1, 1, none⟩ = some (.int .i64 heal) := by rw [hW]; simp
  have e2 : W.cell? ⟨w.heap.size + 1, 2, none⟩ = some (.int .i64 swap) := by rw [hW]; simp
  have e3 : W.cell? ⟨w.heap.size + 1, 3, none⟩ = some (.int .i64 sel) := by rw [hW]; simp
  have e4 : W.cell? ⟨w.heap.size + 1, 4, none⟩ = some (.int .i64 prop) := by rw [hW]; simp
  have HW : Hid (W = (w.alloc (Obj.cells #[Value.slice aI n cI, Value.int IntKind.i64 how, Value.slice aL nl cl] 62)).alloc
    (Obj.cells #[Value.int IntKind.i64 view, Value.int IntKind.i64 heal, Value.int IntKind.i64 swap, Value.int IntKind.i64 sel, Value.int IntKind.i64 prop] 66)) := hW
  have hsz : W.heap.size = w.heap.size + 2 := by rw [hW]; simp
  clear hW
  have x0 : w.heap.size < W.heap.size := by omega
  have x1 : w.heap.size < W.heap.size + 1 := by omega
  have x2 : w.heap.size < W.heap.size + 1 + 1 := by omega
  have x3 : w.heap.size < W.heap.size + 1 + 1 + 1 := by omega
  have y0 : w.heap.size + 1 < W.heap.size := by omega
  have y1 : w.heap.size < W.heap.size := by omega
  have y2 : w.heap.size + 1 < W.heap.size + 1 + 1 := by omega
  have y3 : w.heap.size + 1 < W.heap.size + 1 + 1 + 1 := by omega
  have HZ : Hid (W.heap.size = w.heap.size + 2) := hsz
  clear hsz
  go_cut [8] (fun s wc => NewRel W aI n view s wc)
  case first =>
    refine wp_region_inv' (by kernel_rfl) (r2pr W w.heap.size (w.heap.size + 1) aI n cI view heal swap sel prop) (fun w' => W.grownBy w' none) (grown_drew (grown_refl _ _)) (by kernel_rfl) ?_ ?_
    · intro i o a w1 ho hG hfr hdep
      have hi : i < 17 := (Array.getElem?_eq_some_iff.1 ho).1
      have h3 : a.tmps[3]?.getD undef = .pointer (some ⟨w.heap.size, 0, none⟩) := by
        rw [← Array.getD_eq_getD_getElem?, hfr 3 (notDst (by kernel_rfl))]; rfl
      have h4 : a.tmps[4]?.getD undef = .pointer (some ⟨w.heap.size + 1, 0, none⟩) := by
        rw [← Array.getD_eq_getD_getElem?, hfr 4 (notDst (by kernel_rfl))]; rfl
      have h7 : a.tmps[7]?.getD undef = .int .i64 n := by
        rw [← Array.getD_eq_getD_getElem?, hfr 7 (notDst (by kernel_rfl))]; rfl
      replace dd0 := hG.cell dd0 (by simp)
      replace e0 := hG.cell e0 (by simp)
      replace e1 := hG.cell e1 (by simp)
      replace e2 := hG.cell e2 (by simp)
      replace e3 := hG.cell e3 (by simp)
      replace e4 := hG.cell e4 (by simp)
      clear hfr
      have hcase : i = 0 ∨ i = 1 ∨ i = 2 ∨ i = 3 ∨ i = 4 ∨ i = 5 ∨ i = 6 ∨ i = 7 ∨ i = 8 ∨ i = 9 ∨ i = 10 ∨ i = 11 ∨ i = 12 ∨ i = 13 ∨ i = 14 ∨ i = 15 ∨ i = 16 := by omega
      clear hi
      rcases hcase with rfl | rfl | rfl | rfl | rfl | rfl | rfl | rfl | rfl | rfl | rfl | rfl | rfl | rfl | rfl | rfl | rfl
      · injection (show some _ = some o from ho) with ho; subst ho
        refine wp_value (v := (.agg #[.int .i64 view, .int .i64 heal, .int .i64 swap, .int .i64 sel, .int .i64 prop])) (w' := w1) (by go_simp) ⟨_, rfl, rfl, hG, fun _ _ h => h⟩
      · injection (show some _ = some o from ho) with ho; subst ho
        refine wp_value (v := (.pointer (some ⟨w.heap.size, 0, none⟩))) (w' := w1) (by go_simp) ⟨_, rfl, rfl, hG, fun _ _ h => h⟩
      · injection (show some _ = some o from ho) with ho; subst ho
        have d1 : r2pr W w.heap.size (w.heap.size + 1) aI n cI view heal swap sel prop 1 (a.tmps.getD 25 undef) w1 := hdep ⟨1, .data⟩ (by simp) (by decide) _ 25 rfl rfl
        rw [Array.getD_eq_getD_getElem?] at d1
        have d1' : a.tmps[25]?.getD undef = .pointer (some ⟨w.heap.size, 0, none⟩) := d1
        clear d1
        refine wp_value (v := (.slice aI n cI)) (w' := w1) (by go_simp) ⟨_, rfl, rfl, hG, fun _ _ h => h⟩
      · injection (show some _ = some o from ho) with ho; subst ho
        have d2 : r2pr W w.heap.size (w.heap.size + 1) aI n cI view heal swap sel prop 2 (a.tmps.getD 26 undef) w1 := hdep ⟨2, .data⟩ (by simp) (by decide) _ 26 rfl rfl
        rw [Array.getD_eq_getD_getElem?] at d2
        have d2' : a.tmps[26]?.getD undef = .slice aI n cI := d2
        clear d2
        refine wp_enters (f := 32) (args := #[.slice aI n cI]) (w' := w1) (by go_simp) ((hclip w1).mono ?_)
        rintro e w2 ⟨rfl, rfl⟩
        exact ⟨_, rfl, _, rfl, rfl, hG, fun _ _ h => h⟩
      · injection (show some _ = some o from ho) with ho; subst ho
        refine wp_value (v := (.int .i64 n)) (w' := w1) (by go_simp) ⟨_, rfl, rfl, hG, fun _ _ h => h⟩
      · injection (show some _ = some o from ho) with ho; subst ho
        have d4 : r2pr W w.heap.size (w.heap.size + 1) aI n cI view heal swap sel prop 4 (a.tmps.getD 28 undef) w1 := hdep ⟨4, .data⟩ (by simp) (by decide) _ 28 rfl rfl
        rw [Array.getD_eq_getD_getElem?] at d4
        have d4' : a.tmps[28]?.getD undef = .int .i64 n := d4
        clear d4
        refine wp_value (v := .slice (some ⟨w1.heap.size, 0, none⟩) n n) (w' := w1.alloc (.cells (vzA n) 33)) (by go_simp) ⟨_, rfl, ⟨_, rfl, heap_alloc_new _ _, hG.size⟩, grown_trans hG (World.grownBy_alloc _ _ _), fun j u h => r2_mono (World.grownBy_alloc _ _ _) j u h⟩
      · injection (show some _ = some o from ho) with ho; subst ho
        refine wp_value (v := (.int .i64 n)) (w' := w1) (by go_simp) ⟨_, rfl, rfl, hG, fun _ _ h => h⟩
      · injection (show some _ = some o from ho) with ho; subst ho
        have d6 : r2pr W w.heap.size (w.heap.size + 1) aI n cI view heal swap sel prop 6 (a.tmps.getD 30 undef) w1 := hdep ⟨6, .data⟩ (by simp) (by decide) _ 30 rfl rfl
        rw [Array.getD_eq_getD_getElem?] at d6
        have d6' : a.tmps[30]?.getD undef = .int .i64 n := d6
        clear d6
        refine wp_value (v := .slice (some ⟨w1.heap.size, 0, none⟩) n n) (w' := w1.alloc (.cells (izA n) 3)) (by go_simp) ⟨_, rfl, ⟨_, rfl⟩, grown_trans hG (World.grownBy_alloc _ _ _), fun j u h => r2_mono (World.grownBy_alloc _ _ _) j u h⟩
      · injection (show some _ = some o from ho) with ho; subst ho
        refine wp_value (v := (.int .i64 n)) (w' := w1) (by go_simp) ⟨_, rfl, rfl, hG, fun _ _ h => h⟩
      · injection (show some _ = some o from ho) with ho; subst ho
        have d8 : r2pr W w.heap.size (w.heap.size + 1) aI n cI view heal swap sel prop 8 (a.tmps.getD 32 undef) w1 := hdep ⟨8, .data⟩ (by simp) (by decide) _ 32 rfl rfl
        rw [Array.getD_eq_getD_getElem?] at d8
        have d8' : a.tmps[32]?.getD undef = .int .i64 n := d8
        clear d8
        refine wp_value (v := .slice (some ⟨w1.heap.size, 0, none⟩) n n) (w' := w1.alloc (.cells (izA n) 3)) (by go_simp) ⟨_, rfl, ⟨_, rfl⟩, grown_trans hG (World.grownBy_alloc _ _ _), fun j u h => r2_mono (World.grownBy_alloc _ _ _) j u h⟩
      · injection (show some _ = some o from ho) with ho; subst ho
        refine wp_value (v := (.pointer (some ⟨w.heap.size + 1, 0, none⟩))) (w' := w1) (by go_simp) ⟨_, rfl, rfl, hG, fun _ _ h => h⟩
      · injection (show some _ = some o from ho) with ho; subst ho
        have d10 : r2pr W w.heap.size (w.heap.size + 1) aI n cI view heal swap sel prop 10 (a.tmps.getD 34 undef) w1 := hdep ⟨10, .data⟩ (by simp) (by decide) _ 34 rfl rfl
        rw [Array.getD_eq_getD_getElem?] at d10
        have d10' : a.tmps[34]?.getD undef = .pointer (some ⟨w.heap.size + 1, 0, none⟩) := d10
        clear d10
        refine wp_value (v := (.int .i64 view)) (w' := w1) (by go_simp) ⟨_, rfl, rfl, hG, fun _ _ h => h⟩
      · injection (show some _ = some o from ho) with ho; subst ho
        refine wp_value (v := (.int .i64 n)) (w' := w1) (by go_simp) ⟨_, rfl, rfl, hG, fun _ _ h => h⟩
      · injection (show some _ = some o from ho) with ho; subst ho
        have d11 : r2pr W w.heap.size (w.heap.size + 1) aI n cI view heal swap sel prop 11 (a.tmps.getD 35 undef) w1 := hdep ⟨11, .data⟩ (by simp) (by decide) _ 35 rfl rfl
        rw [Array.getD_eq_getD_getElem?] at d11
        have d12 : r2pr W w.heap.size (w.heap.size + 1) aI n cI view heal swap sel prop 12 (a.tmps.getD 36 undef) w1 := hdep ⟨12, .data⟩ (by simp) (by decide) _ 36 rfl rfl
        rw [Array.getD_eq_getD_getElem?] at d12
        have d11' : a.tmps[35]?.getD undef = .int .i64 view := d11
        have d12' : a.tmps[36]?.getD undef = .int .i64 n := d12
        clear d11 d12
        refine wp_enters (f := 33) (args := #[.int .i64 view, .int .i64 n]) (w' := w1) (by go_simp) ((hroom w1).mono ?_)
        rintro e w2 ⟨rfl, rfl⟩
        exact ⟨_, rfl, _, rfl, rfl, hG, fun _ _ h => h⟩
      · injection (show some _ = some o from ho) with ho; subst ho
        have d0 : r2pr W w.heap.size (w.heap.size + 1) aI n cI view heal swap sel prop 0 (a.tmps.getD 24 undef) w1 := hdep ⟨0, .data⟩ (by simp) (by decide) _ 24 rfl rfl
        rw [Array.getD_eq_getD_getElem?] at d0
        have d3 : r2pr W w.heap.size (w.heap.size + 1) aI n cI view heal swap sel prop 3 (a.tmps.getD 27 undef) w1 := hdep ⟨3, .data⟩ (by simp) (by decide) _ 27 rfl rfl
        rw [Array.getD_eq_getD_getElem?] at d3
        have d5 : r2pr W w.heap.size (w.heap.size + 1) aI n cI view heal swap sel prop 5 (a.tmps.getD 29 undef) w1 := hdep ⟨5, .data⟩ (by simp) (by decide) _ 29 rfl rfl
        rw [Array.getD_eq_getD_getElem?] at d5
        have d7 : r2pr W w.heap.size (w.heap.size + 1) aI n cI view heal swap sel prop 7 (a.tmps.getD 31 undef) w1 := hdep ⟨7, .data⟩ (by simp) (by decide) _ 31 rfl rfl
        rw [Array.getD_eq_getD_getElem?] at d7
        have d9 : r2pr W w.heap.size (w.heap.size + 1) aI n cI view heal swap sel prop 9 (a.tmps.getD 33 undef) w1 := hdep ⟨9, .data⟩ (by simp) (by decide) _ 33 rfl rfl
        rw [Array.getD_eq_getD_getElem?] at d9
        have d13 : r2pr W w.heap.size (w.heap.size + 1) aI n cI view heal swap sel prop 13 (a.tmps.getD 37 undef) w1 := hdep ⟨13, .data⟩ (by simp) (by decide) _ 37 rfl rfl
        rw [Array.getD_eq_getD_getElem?] at d13
        obtain ⟨bv, e5, hb5, hl5⟩ : ∃ bv, a.tmps[29]?.getD undef = .slice (some ⟨bv, 0, none⟩) n n ∧ Blk w1 bv (vzA n) 33 ∧ W.heap.size ≤ bv := d5
        obtain ⟨x7, e7⟩ : ∃ b, a.tmps[31]?.getD undef = .slice b n n := d7
        obtain ⟨x9, e9⟩ : ∃ b, a.tmps[33]?.getD undef = .slice b n n := d9
        have f0 : a.tmps[24]?.getD undef = .agg #[.int .i64 view, .int .i64 heal, .int .i64 swap, .int .i64 sel, .int .i64 prop] := d0
        have f3 : a.tmps[27]?.getD undef = .slice aI n n := d3
        have f13 : a.tmps[37]?.getD undef = .int .i64 (vroom view n) := d13
        clear d0 d3 d13
        refine wp_value (w' := w1) (v := .agg #[.int .i64 view, .int .i64 heal, .int .i64 swap, .int .i64 sel, .int .i64 prop, .slice aI n n, .slice (some ⟨bv, 0, none⟩) n n, .slice none 0 0, .int .i64 (vroom view n), .slice none 0 0, .slice none 0 0, .slice none 0 0, .slice x7 n n, .slice x9 n n, .map none, .pointer none, .int .i64 0]) (by go_simp) ⟨_, rfl, ⟨bv, x7, x9, rfl, hb5, hl5⟩, hG, fun _ _ h => h⟩
      · injection (show some _ = some o from ho) with ho; subst ho
        have d14 : r2pr W w.heap.size (w.heap.size + 1) aI n cI view heal swap sel prop 14 (a.tmps.getD 38 undef) w1 := hdep ⟨14, .data⟩ (by simp) (by decide) _ 38 rfl rfl
        rw [Array.getD_eq_getD_getElem?] at d14
        obtain ⟨bv, x, y, e14, hb, hl⟩ : ∃ bv x y, a.tmps[38]?.getD undef = .agg #[.int .i64 view, .int .i64 heal, .int .i64 swap, .int .i64 sel, .int .i64 prop, .slice aI n n, .slice (some ⟨bv, 0, none⟩) n n, .slice none 0 0, .int .i64 (vroom view n), .slice none 0 0, .slice none 0 0, .slice none 0 0, .slice x n n, .slice y n n, .map none, .pointer none, .int .i64 0] ∧ Blk w1 bv (vzA n) 33 ∧ W.heap.size ≤ bv := d14
        refine wp_value (v := .pointer (some ⟨w1.heap.size, 0, none⟩)) (w' := w1.alloc (.cells #[.int .i64 view, .int .i64 heal, .int .i64 swap, .int .i64 sel, .int .i64 prop, .slice aI n n, .slice (some ⟨bv, 0, none⟩) n n, .slice none 0 0, .int .i64 (vroom view n), .slice none 0 0, .slice none 0 0, .slice none 0 0, .slice x n n, .slice y n n, .map none, .pointer none, .int .i64 0] 74)) (by go_simp) ⟨_, rfl, ?_, grown_trans hG (World.grownBy_alloc _ _ _), fun j u h => r2_mono (World.grownBy_alloc _ _ _) j u h⟩
        exact ⟨_, bv, rfl, ⟨_, heap_alloc_new _ _, rfl, rfl, rfl, rfl⟩, hb.grown (World.grownBy_alloc _ _ none) (by simp), (by have := hb.lt; omega), hG.size, hl⟩
      · injection (show some _ = some o from ho) with ho; subst ho
        have d15 : r2pr W w.heap.size (w.heap.size + 1) aI n cI view heal swap sel prop 15 (a.tmps.getD 39 undef) w1 := hdep ⟨15, .data⟩ (by simp) (by decide) _ 39 rfl rfl
        rw [Array.getD_eq_getD_getElem?] at d15
        obtain ⟨bs, bv, e15, hrest⟩ : ∃ (bs bv : Nat), a.tmps[39]?.getD undef = .pointer (some ⟨bs, 0, none⟩) ∧ SNew W w1 aI n view bs bv := d15
        have HR : Hid (SNew W w1 aI n view bs bv) := hrest
        clear hrest
        refine wp_value (w' := w1) (v := .pointer (some ⟨bs, 0, none⟩)) (by go_simp) ⟨_, rfl, ⟨bs, bv, rfl, HR.out⟩, hG, fun _ _ h => h⟩
    · intro a w1 hG hdf hsz hfr hval
      have h16 := hval 16 _ 8 rfl rfl
      obtain ⟨bs, bv, e, hrest⟩ : ∃ (bs bv : Nat), a.tmps.getD 8 undef = .pointer (some ⟨bs, 0, none⟩) ∧ SNew W w1 aI n view bs bv := h16
      have ea := act_of [24, 25, 26, 27, 28, 29, 30, 31, 32, 33, 34, 35, 36, 37, 38, 39, 8] hdf hsz (fun t ht => hfr t (notDst' (by kernel_rfl) ht))
      rw [ea]
      clear hval hfr hdf hsz ea
      simp only [List.foldl_cons, List.foldl_nil]
      rw [e]
      generalize a.tmps.getD 24 undef = s24
      generalize a.tmps.getD 25 undef = s25
      generalize a.tmps.getD 26 undef = s26
      generalize a.tmps.getD 27 undef = s27
      generalize a.tmps.getD 28 undef = s28
      generalize a.tmps.getD 29 undef = s29
      generalize a.tmps.getD 30 undef = s30
      generalize a.tmps.getD 31 undef = s31
      generalize a.tmps.getD 32 undef = s32
      generalize a.tmps.getD 33 undef = s33
      generalize a.tmps.getD 34 undef = s34
      generalize a.tmps.getD 35 undef = s35
      generalize a.tmps.getD 36 undef = s36
      generalize a.tmps.getD 37 undef = s37
      generalize a.tmps.getD 38 undef = s38
      generalize a.tmps.getD 39 undef = s39
      simp only [List.setIfInBounds_toArray, List.set_cons_succ, List.set_cons_zero]
      go_wp2_with fail
      go_meet
      case rel => exact ⟨bs, bv, rfl, hrest, hG⟩
  case rest =>
    obtain ⟨bs, bv, rfl, ⟨⟨cs, hbs, hc0, hc5, hc6, hc8⟩, hbv, hne, hl1, hl2⟩, hG⟩ := hcut
    have q6 : wc.cell? ⟨bs, 6, none⟩ = some (.slice (some ⟨bv, 0, none⟩) n n) := (hbs.cell 6).trans hc6
    have q8 : wc.cell? ⟨bs, 8, none⟩ = some (.int .i64 (vroom view n)) := (hbs.cell 8).trans hc8
    rw [hrm] at q8
    have hnr : n * rm ≤ 1000000 := Nat.le_trans (Nat.mul_le_mul hn2 (Nat.le_trans hrn hn2)) (by decide)
    have hp0 : (0 : Int) ≤ (n : Int) * (rm : Int) := by rw [← Int.natCast_mul]; omega
    have hp1 : (n : Int) * (rm : Int) ≤ 1000000 := by rw [← Int.natCast_mul]; omega
    have m31 := mk31 n rm hnr
    clear hclip hroom m29 m38 dd0 e0 e1 e2 e3 e4
    have lbs := hbs.lt
    have lbv := hbv.lt
    have HB : Hid (Base w (wc.alloc (.cells (dzA (n * rm)) 35)) none aI aL n cI nl cl how view heal swap sel prop rm bs bv wc.heap.size) := by
      have hW := HW.out
      have gW : w.grownBy W none := by rw [hW]; exact grown_trans (World.grownBy_alloc _ _ _) (World.grownBy_alloc _ _ _)
      have ga : wc.grownBy (wc.alloc (.cells (dzA (n * rm)) 35)) none := World.grownBy_alloc _ _ _
      have b3 : Blk W w.heap.size (stA aI aL n cI nl cl how) 62 := by
        rw [hW]; exact (Blk.grown (heap_alloc_new w _) (World.grownBy_alloc _ _ none) (by simp))
      have b4 : Blk W (w.heap.size + 1) (paA view heal swap sel prop) 66 := by
        rw [hW]
        have := heap_alloc_new (w.alloc (Obj.cells #[Value.slice aI n cI, Value.int IntKind.i64 how, Value.slice aL nl cl] 62)) (.cells (paA view heal swap sel prop) 66)
        rw [show (w.alloc (Obj.cells #[Value.slice aI n cI, Value.int IntKind.i64 how, Value.slice aL nl cl] 62)).heap.size = w.heap.size + 1 by simp] at this
        exact this
      have hz := HZ.out
      exact ⟨grown_trans (grown_trans gW hG) ga, (b3.grown hG (by simp)).grown ga (by simp), (b4.grown hG (by simp)).grown ga (by simp), ⟨cs, hbs.grown ga (by simp), hc0, hc5, hc6, hc8⟩,
        ⟨_, hbv.grown ga (by simp), by simp [vzA, madeCells]⟩, ⟨_, heap_alloc_new _ _, by simp [dzA, madeCells]⟩, by omega, by omega, by have := hG.size; omega, hne, by omega, by omega⟩
    go_wp2_with fail
    obtain ⟨w2, hw2⟩ : ∃ w2, w2 = wc.alloc (.cells (dzA (n * rm)) 35) := ⟨_, rfl⟩
    obtain ⟨bt, hbt⟩ : ∃ bt, bt = wc.heap.size := ⟨_, rfl⟩
    rw [← hw2, ← hbt] at HB ⊢
    clear hw2 hbt hbs hbv hc0 hc5 hc6 hc8 hne hl1 hl2 hG q6 q8 lbs lbv HW HZ x0 x1 x2 x3 y0 y1 y2 y3
    go_loopg [53] n (fun t i wr => ∃ k : Nat, k + t = n ∧ i = .int .i64 k ∧ Base w wr none aI aL n cI nl cl how view heal swap sel prop rm bs bv bt ∧ ∀ j, j < k → VCell wr bv bt rm j 0)
    case atStart => exact ⟨0, by omega, rfl, HB.out, fun j hj => absurd hj (Nat.not_lt_zero _)⟩
    case round =>
      obtain ⟨k, hk, rfl, hB, hV⟩ := hrel
      clear HB m31
      by_cases hlt : k < n
      · obtain ⟨cs, hbs, hc0, hc5, hc6, hc8⟩ := hB.sat
        have q6 : wr.cell? ⟨bs, 6, none⟩ = some (.slice (some ⟨bv, 0, none⟩) n n) := (hbs.cell 6).trans hc6
        obtain ⟨cv, hbv, hcv⟩ := hB.vs
        have f0 : wr.frozen? ⟨bv, k * 2, none⟩ = false := hbv.frozen _
        have f1 : wr.frozen? ⟨bv, k * 2 + 1, none⟩ = false := hbv.frozen _
        obtain ⟨x0, hx0⟩ : ∃ x, wr.cell? ⟨bv, k * 2, none⟩ = some x := by
          rw [hbv.cell]; exact ⟨_, Array.getElem?_eq_getElem (by omega)⟩
        obtain ⟨x1, hx1⟩ : ∃ x, wr.cell? ⟨bv, k * 2 + 1, none⟩ = some x := by
          rw [hbv.cell]; exact ⟨_, Array.getElem?_eq_getElem (by omega)⟩
        have HB : Hid (Base w wr none aI aL n cI nl cl how view heal swap sel prop rm bs bv bt) := hB
        have HV : Hid (∀ j, j < k → VCell wr bv bt rm j 0) := hV
        have HK : Hid (k + gk = n) := hk
        have hle : (k + 1) * rm ≤ n * rm := Nat.mul_le_mul_right _ hlt
        have hmul : (k + 1) * rm = k * rm + rm := Nat.succ_mul _ _
        have a0 : (0 : Int) ≤ (k : Int) * (rm : Int) := by rw [← Int.natCast_mul]; omega
        have a1 : (k : Int) * (rm : Int) ≤ (n : Int) * (rm : Int) := by rw [← Int.natCast_mul, ← Int.natCast_mul]; omega
        have a2 : ((k : Int) + 1) * (rm : Int) ≤ (n : Int) * (rm : Int) := by
          have : (((k + 1) * rm : Nat) : Int) ≤ ((n * rm : Nat) : Int) := by omega
          simpa [Int.natCast_mul] using this
        have a3 : (k : Int) * (rm : Int) ≤ ((k : Int) + 1) * (rm : Int) := by
          have : ((k * rm : Nat) : Int) ≤ (((k + 1) * rm : Nat) : Int) := by omega
          simpa [Int.natCast_mul] using this
        clear hB hV hk hbs hc0 hc5 hc6 hc8 hbv hcv hmul hle
        go_wp2
        go_region
        rw [cut_slice]
        go_wp2
        go_roundg (gk - 1)
        case measure => have := HK.out; omega
        case rel => exact ⟨k + 1, by have := HK.out; omega, by go_num, ((HB.out.setV _ _).setV _ _).drew, vcells_step HB.out hlt HV.out⟩
      · obtain rfl : n = k := by omega
        have HB : Hid (Base w wr none aI aL n cI nl cl how view heal swap sel prop rm bs bv bt) := hB
        have HV : Hid (∀ j, j < n → VCell wr bv bt rm j 0) := hV
        have hh := HH0.out
        subst hh
        have b40 : wr.cell? ⟨w.heap.size + 1, 0, none⟩ = some (.int .i64 view) := hB.box4.cell 0
        have b31 : wr.cell? ⟨w.heap.size, 1, none⟩ = some (.int .i64 0) := hB.box3.cell 1
        obtain ⟨cs, hbs, hc0, hc5, hc6, hc8⟩ := hB.sat
        have q6 : wr.cell? ⟨bs, 6, none⟩ = some (.slice (some ⟨bv, 0, none⟩) n n) := (hbs.cell 6).trans hc6
        clear hB hV hk hbs hc0 hc5 hc6 hc8
        go_wp2_with fail
        go_loopg [89] n (fun t i wr => ∃ k S Es, k + t = n ∧ i = .int .i64 (k : Int) ∧ Base w wr (some g) aI aL n cI nl cl 0 view heal swap sel prop rm bs bv bt ∧
            VS wr bv bt rm n (fun j => Es.getD j []) ∧ ORun j0 c S0 k S Es ∧ RngAt wr r g S)
        case atStart =>
          refine ⟨0, S0, [], by omega, rfl, HB.out.toRow _, fun j hj => ⟨HV.out j hj, fun k hk => absurd hk (Nat.not_lt_zero _), Nat.zero_le _⟩, ⟨rfl, rfl⟩, ?_⟩
          exact HR0.out.grows HB.out.grown (by simp) (by simp)
        case round =>
          clear HB HV b40 b31 q6
          obtain ⟨k, S, Es, hk, rfl, hB, hVS, hO, hRg⟩ := hrel
          by_cases hlt : k < n
          · obtain ⟨cs, hbs, hc0, hc5, hc6, hc8⟩ := hB.sat
            have q6 : wr.cell? ⟨bs, 6, none⟩ = some (.slice (some ⟨bv, 0, none⟩) n n) := (hbs.cell 6).trans hc6
            have lbs : bs < wr.heap.size := hbs.lt
            obtain ⟨HKn, hkn⟩ : ∃ t, t = gk := ⟨_, rfl⟩
            rw [← hkn] at hk
            have HKe : Hid (HKn = gk) := hkn
            have HK : Hid (k + HKn = n) := hk
            clear hkn
            have HB : Hid (Base w wr (some g) aI aL n cI nl cl 0 view heal swap sel prop rm bs bv bt) := hB
            have HVS : Hid (VS wr bv bt rm n (fun j => Es.getD j [])) := hVS
            have HO : Hid (ORun j0 c S0 k S Es) := hO
            have HRg : Hid (RngAt wr r g S) := hRg
            clear hk hB hVS hO hRg hbs hc0 hc5 hc6 hc8
            go_wp2_with fail
            go_region
            go_wp2_with fail
            have hBa : Base w (wr.alloc (Obj.cells #[Value.int IntKind.i64 (k : Int)] 3)).drew (some g) aI aL n cI nl cl 0 view heal swap sel prop rm bs bv bt := (HB.out.grows (World.grownBy_alloc _ _ none) (by simp)).drew
            have hVa : VS (wr.alloc (Obj.cells #[Value.int IntKind.i64 (k : Int)] 3)).drew bv bt rm n (fun j => Es.getD j []) := HVS.out.grows (grown_drew (World.grownBy_alloc wr _ none)) (by simp) (by simp)
            have hRa : RngAt (wr.alloc (Obj.cells #[Value.int IntKind.i64 (k : Int)] 3)).drew r g S := HRg.out.grows (grown_drew (World.grownBy_alloc wr _ none)) (by simp) (by simp)
            have hbi : Blk (wr.alloc (Obj.cells #[Value.int IntKind.i64 (k : Int)] 3)).drew wr.heap.size #[.int .i64 (k : Int)] 3 := heap_alloc_new wr _
            have hEk : Es.getD k [] = [] := by
              have := HO.out.good.1
              simp [List.getD, this]
            have hni : wr.heap.size ≠ bv ∧ wr.heap.size ≠ bt ∧ w.heap.size ≤ wr.heap.size := by
              obtain ⟨cv, h1, _⟩ := HB.out.vs
              obtain ⟨ct, h2, _⟩ := HB.out.st
              have a1 := h1.lt
              have a2 := h2.lt
              exact ⟨by omega, by omega, HB.out.grown.size⟩
            obtain ⟨w3, hw3⟩ : ∃ w3, w3 = (wr.alloc (Obj.cells #[Value.int IntKind.i64 (k : Int)] 3)).drew := ⟨_, rfl⟩
            obtain ⟨bi, hbi'⟩ : ∃ bi, bi = wr.heap.size := ⟨_, rfl⟩
            rw [← hw3] at hBa hVa hRa hbi ⊢
            rw [← hbi'] at hbi hni ⊢
            have HBa : Hid (Base w w3 (some g) aI aL n cI nl cl 0 view heal swap sel prop rm bs bv bt) := hBa
            have HVa : Hid (VS w3 bv bt rm n (fun j => Es.getD j [])) := hVa
            have HRa : Hid (RngAt w3 r g S) := hRa
            have Hbi : Hid (Blk w3 bi #[.int .i64 (k : Int)] 3) := hbi
            have HEk : Hid (Es.getD k [] = []) := hEk
            have HNi : Hid (bi ≠ bv ∧ bi ≠ bt ∧ w.heap.size ≤ bi) := hni
            clear hBa hVa hRa hbi hEk hni hw3 hbi' HB HVS HRg q6 lbs
            go_loopg [16] c (fun t j wq => ∃ m S' es, m + t = c ∧ j = .int .i64 ((j0 : Int) + (m : Int)) ∧ Base w wq (some g) aI aL n cI nl cl 0 view heal swap sel prop rm bs bv bt ∧
                VS wq bv bt rm n (upd (fun j => Es.getD j []) k es) ∧ FRun (k : Int) j0 S m S' es ∧ RngAt wq r g S' ∧ Blk wq bi #[.int .i64 (k : Int)] 3)
            case atStart =>
              refine ⟨0, S, [], by omega, ?_, HBa.out, fun j hj => ?_, ⟨rfl, rfl⟩, HRa.out, Hbi.out⟩
              · have := HV0.out
                congr 1
                omega
              · have this : VCell w3 bv bt rm j (Es.getD j []).length ∧ Entries w3 bt (j * rm * 2) (Es.getD j []) ∧ (Es.getD j []).length ≤ rm := HVa.out j hj
                unfold upd
                by_cases e : j = k
                · rw [if_pos e]; rw [e, HEk.out] at this; rw [e]; exact this
                · rw [if_neg e]; exact this
            case round =>
              clear HBa HVa HRa Hbi
              obtain ⟨m, S1, es, hm, rfl, hBq, hVq, hFq, hRq, hbq⟩ := hrel
              have HM : Hid (m + gk = c) := hm
              have HB : Hid (Base w wr (some g) aI aL n cI nl cl 0 view heal swap sel prop rm bs bv bt) := hBq
              have HVS : Hid (VS wr bv bt rm n (upd (fun j => Es.getD j []) k es)) := hVq
              have HF : Hid (FRun (k : Int) j0 S m S1 es) := hFq
              have HRq : Hid (RngAt wr r g S1) := hRq
              have Hbq : Hid (Blk wr bi #[.int .i64 (k : Int)] 3) := hbq
              clear hm hBq hVq hFq hRq hbq
              by_cases hmc : m < c
              · go_wp2_with fail
                refine (intN_any r g S1 _ wr HRq.out (by omega) (by omega)).mono ?_
                rintro e w4 ⟨kd, S2, rfl, k0, k1, hD, hR4, hg4⟩
                have HD : Hid (Draw ((j0 : Int) + m + 1) S1 kd S2) := hD
                have HR4 : Hid (RngAt w4 r g S2) := hR4
                have gr : ∀ b, w.heap.size ≤ b → (some g : Option Nat) ≠ some b := fun b hb e => by
                  have := HR0.out.2.1.lt
                  cases e; omega
                have HB4 : Hid (Base w w4 (some g) aI aL n cI nl cl 0 view heal swap sel prop rm bs bv bt) := HB.out.grows hg4 (fun j e => by cases e; exact ⟨HR0.out.2.1.lt, rfl⟩)
                have HVS4 : Hid (VS w4 bv bt rm n (upd (fun j => Es.getD j []) k es)) := HVS.out.grows hg4 (gr _ (by have := HB.out.lbv; omega)) (gr _ (by have := HB.out.lbt; omega))
                have Hb4 : Hid (Blk w4 bi #[.int .i64 (k : Int)] 3) := Hbq.out.grown hg4 (gr _ HNi.out.2.2)
                have ci : w4.cell? ⟨bi, 0, none⟩ = some (.int .i64 (k : Int)) := Hb4.out.cell 0
                have hV4 : VCell w4 bv bt rm k es.length ∧ Entries w4 bt (k * rm * 2) es ∧ es.length ≤ rm := by
                  have := HVS4.out k hlt
                  rwa [upd_same] at this
                have cv : w4.cell? ⟨bv, k * 2 + 1, none⟩ = some (.slice (some ⟨bt, k * rm * 2, none⟩) es.length rm) := hV4.1.2
                have hel : es.length = m := HF.out.good.1
                have HE4 : Hid (Entries w4 bt (k * rm * 2) es) := hV4.2.1
                have HL : Hid (es.length = m) := hel
                clear hD hR4 hg4 gr hV4 hel HB HVS HRq Hbq
                go_wp2_with fail
                refine (other_any bi k kd w4 ci k0 (by omega)).mono ?_
                rintro e w5 ⟨rfl, hw5⟩
                have hw5' := hw5.symm
                subst hw5'
                go_wp2_with fail
                refine (holds_any bv (k * 2) bt (k * rm * 2) rm es (other k kd) w4 (by have := HL.out; omega) cv HE4.out).mono ?_
                rintro e w6 ⟨rfl, hg6⟩
                have HB6 : Hid (Base w w6 (some g) aI aL n cI nl cl 0 view heal swap sel prop rm bs bv bt) := HB4.out.grows hg6 (by simp)
                have HVS6 : Hid (VS w6 bv bt rm n (upd (fun j => Es.getD j []) k es)) := HVS4.out.grows hg6 (by simp) (by simp)
                have Hb6 : Hid (Blk w6 bi #[.int .i64 (k : Int)] 3) := Hb4.out.grown hg6 (by simp)
                have HR6 : Hid (RngAt w6 r g S2) := HR4.out.grows hg6 (by simp) (by simp)
                replace ci := hg6.cell ci (by simp)
                replace cv := hg6.cell cv (by simp)
                have lbv : bv < w6.heap.size := World.block_lt_of_cell? _ _ cv
                have lbt : bt < w6.heap.size := by obtain ⟨ct, h, _⟩ := HB6.out.st; exact h.lt
                have fv : w6.frozen? ⟨bv, k * 2 + 1, none⟩ = false := by obtain ⟨ct, h, _⟩ := HB6.out.vs; exact h.frozen _
                have hle : (k + 1) * rm ≤ n * rm := Nat.mul_le_mul_right _ hlt
                rw [Nat.succ_mul] at hle
                obtain ⟨y0, hy0⟩ : ∃ x, w6.cell? ⟨bt, k * rm * 2 + m * 2, none⟩ = some x := by
                  obtain ⟨ct, h, h2⟩ := HB6.out.st
                  rw [h.cell]; exact ⟨_, Array.getElem?_eq_getElem (by omega)⟩
                obtain ⟨y1, hy1⟩ : ∃ x, w6.cell? ⟨bt, k * rm * 2 + m * 2 + 1, none⟩ = some x := by
                  obtain ⟨ct, h, h2⟩ := HB6.out.st
                  rw [h.cell]; exact ⟨_, Array.getElem?_eq_getElem (by omega)⟩
                have ft0 : w6.frozen? ⟨bt, k * rm * 2 + m * 2, none⟩ = false := by obtain ⟨ct, h, _⟩ := HB6.out.st; exact h.frozen _
                have ft1 : w6.frozen? ⟨bt, k * rm * 2 + m * 2 + 1, none⟩ = false := by obtain ⟨ct, h, _⟩ := HB6.out.st; exact h.frozen _
                have hem := HL.out
                rw [hem] at cv
                have hmr : m < rm := by omega
                have n3 : bv ≠ bt := HB6.out.n3
                have n3' : bt ≠ bv := Ne.symm n3
                clear HB4 HVS4 Hb4 HE4 HR4 hg6 hle hem
                cases hcon : es.contains (other k kd) with
                | true =>
                  have HC : Hid (es.contains (other k kd) = true) := hcon
                  clear hcon
                  go_wp2_with fail
                  refine (other_any bi k _ w6 ci (by omega) (by omega)).mono ?_
                  rintro e w7 ⟨rfl, hw7⟩
                  have hw7' := hw7.symm
                  subst hw7'
                  go_wp2_with fail
                  go_roundg (gk - 1)
                  case measure => have := HM.out; omega
                  case rel =>
                    have hel := HL.out
                    have va := vs_append (other k ((j0 : Int) + m)) HB6.out HVS6.out hlt (by omega)
                    rw [hel] at va
                    refine ⟨m + 1, S2, es ++ [other k ((j0 : Int) + m)], by have := HM.out; omega, by go_num, ?_, ?_, ?_, ?_, ?_⟩
                    · exact (((HB6.out.setT _ _).setT _ _).setV _ _).grows (World.grownBy_alloc _ _ none) (by simp)
                    · exact va.grows (World.grownBy_alloc _ _ none) (by simp) (by simp)
                    · refine ⟨S1, es, HF.out, kd, k0, by omega, ?_, ?_⟩
                      · have := HD.out
                        rwa [show ((j0 + m : Nat) : Int) + 1 = (j0 : Int) + m + 1 by omega]
                      · rw [if_pos HC.out]
                        first | rfl | (congr 2; omega)
                    · have lr := HR0.out.1.lt
                      have lg := HR0.out.2.1.lt
                      have b1 := HB6.out.lbt
                      have b2 := HB6.out.lbv
                      refine RngAt.grows (RngAt.grows (RngAt.grows (RngAt.grows HR6.out (grown_set _ _ _) ?_ ?_) (grown_set _ _ _) ?_ ?_) (grown_set _ _ _) ?_ ?_) (World.grownBy_alloc _ _ none) (by simp) (by simp)
                      all_goals (intro e; have := Option.some.inj e; simp only at this; omega)
                    · obtain ⟨z1, z2, z3⟩ := HNi.out
                      refine Blk.grown (Blk.grown (Blk.grown (Blk.grown Hb6.out (grown_set _ _ _) ?_) (grown_set _ _ _) ?_) (grown_set _ _ _) ?_) (World.grownBy_alloc _ _ none) (by simp)
                      all_goals (intro e; have := Option.some.inj e; simp only at this; omega)
                | false =>
                  have HC : Hid (¬ es.contains (other k kd) = true) := by
                    show ¬ es.contains (other k kd) = true
                    rw [hcon]; simp
                  clear hcon
                  go_wp2_with fail
                  go_roundg (gk - 1)
                  case measure => have := HM.out; omega
                  case rel =>
                    have hel := HL.out
                    have va := vs_append (other k kd) HB6.out HVS6.out hlt (by omega)
                    rw [hel] at va
                    refine ⟨m + 1, S2, es ++ [other k kd], by have := HM.out; omega, by go_num, ?_, ?_, ?_, ?_, ?_⟩
                    · exact (((HB6.out.setT _ _).setT _ _).setV _ _).grows (World.grownBy_alloc _ _ none) (by simp)
                    · exact va.grows (World.grownBy_alloc _ _ none) (by simp) (by simp)
                    · refine ⟨S1, es, HF.out, kd, k0, by omega, ?_, ?_⟩
                      · have := HD.out
                        rwa [show ((j0 + m : Nat) : Int) + 1 = (j0 : Int) + m + 1 by omega]
                      · rw [if_neg HC.out]
                    · have lr := HR0.out.1.lt
                      have lg := HR0.out.2.1.lt
                      have b1 := HB6.out.lbt
                      have b2 := HB6.out.lbv
                      refine RngAt.grows (RngAt.grows (RngAt.grows (RngAt.grows HR6.out (grown_set _ _ _) ?_ ?_) (grown_set _ _ _) ?_ ?_) (grown_set _ _ _) ?_ ?_) (World.grownBy_alloc _ _ none) (by simp) (by simp)
                      all_goals (intro e; have := Option.some.inj e; simp only at this; omega)
                    · obtain ⟨z1, z2, z3⟩ := HNi.out
                      refine Blk.grown (Blk.grown (Blk.grown (Blk.grown Hb6.out (grown_set _ _ _) ?_) (grown_set _ _ _) ?_) (grown_set _ _ _) ?_) (World.grownBy_alloc _ _ none) (by simp)
                      all_goals (intro e; have := Option.some.inj e; simp only at this; omega)
              · obtain rfl : m = c := by have := HM.out; omega
                go_wp2_with fail
                go_roundg (HKn - 1)
                case measure =>
                  have h9 := HK.out
                  have h8 := HKe.out
                  omega
                case rel =>
                  have hOl := HO.out.good.1
                  refine ⟨k + 1, S1, Es ++ [es], by have := HK.out; omega, by go_num, HB.out, fun j hj => ?_, ⟨S, Es, es, HO.out, HF.out, rfl⟩, HRq.out⟩
                  have hv := HVS.out j hj
                  have e : upd (fun j => Es.getD j []) k es j = (Es ++ [es]).getD j [] := by
                    by_cases e : j = k
                    · subst e; rw [upd_same]; simp [List.getD, ← hOl]
                    · rw [upd_ne _ _ e]
                      by_cases h : j < Es.length
                      · simp [List.getD, List.getElem?_append_left h]
                      · have h2 : (Es ++ [es]).length ≤ j := by simp; omega
                        simp only [List.getD, List.getElem?_eq_none (Nat.not_lt.1 h), List.getElem?_eq_none h2]
                  rw [e] at hv
                  exact hv
          · obtain rfl : n = k := by omega
            go_wp2_with fail
            go_ret
            exact ⟨bs, bv, bt, S, Es, rfl, hB.sat, by have := hB.lbs; omega, by have := hB.lbv; omega, by have := hB.lbt; omega, hVS, hO, hB.grown⟩
end Go.Proofs.Qxb6614822aFmt
