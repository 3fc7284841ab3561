import Derived.Test.Qxb6614822aFmtLk3
namespace Go.Proofs.Qxb6614822aFmt
open Go.RowKit Pcg

theorem LksIn.grown {w w' : World} {p : Option Addr} {nl : Nat} {xs : List Int} {ls : List (Nat × Nat)} (h : LksIn w p nl xs ls) (hg : w.grownBy w' none) : LksIn w' p nl xs ls := by
  intro h0
  obtain ⟨b, o, rfl, hc⟩ := h h0
  exact ⟨b, o, rfl, fun t ht => ⟨hg.cell (hc t ht).1 (by simp), hg.cell (hc t ht).2 (by simp)⟩⟩

theorem vroom_zero {view : Int} (h : 2 ≤ view) : vroom view ((0 : Nat) : Int) = -1 := by unfold vroom; omega
theorem mk31z (w : World) : (Instr.makeSlice 31 (.int .i64 0) (.int .i64 0)).run Tryf.prog w = .ok (.slice (some ⟨w.heap.size, 0, none⟩) 0 0) (w.alloc (.cells (dzA 0) 35)) := by
  have := mk31 0 0 (by omega) w
  simpa using this

set_option maxRecDepth 20000 in
set_option maxHeartbeats 4000000 in
theorem new_links (aI aL : Option Addr) (n cI nl cl : Nat) (c : Nat) (heal swap sel prop : Int) (r g S0 : Nat) (xs : List Int) (ls : List (Nat × Nat)) (w : World)
    (hn2 : n ≤ 1000) (hnl : nl ≤ 10000) (hnc : n ≤ cI) (hcI : cI ≤ 9223372036854775807) (hc2 : 2 ≤ c) (hcm : c ≤ 9223372036854775807) (rm : Nat) (hrm : 0 < n → vroom (c : Int) n = (rm : Int)) (hrn : rm ≤ n) (hmin : ∀ m, m ≤ c → m ≤ n - 1 → m ≤ rm) (hR : RngAt w r g S0)
    (hIx : IntsIn .u64 w aI n xs) (hasc : ∀ i j, i < j → j < n → xs.getD i 0 < xs.getD j 0) (hL : LksIn w aL nl xs ls) (hLs : Lks ls nl n) :
    Calls Tryf.prog 25 #[.agg #[.slice aI n cI, .int .i64 2, .slice aL nl cl], .agg #[.int .i64 c, .int .i64 heal, .int .i64 swap, .int .i64 sel, .int .i64 prop], .pointer (some ⟨r, 0, none⟩)] w
      fun e w' => ∃ bs bv bt S Es, e = .returned (.pointer (some ⟨bs, 0, none⟩)) ∧ SAt w' aI n c bs bv ∧ w.heap.size ≤ bs ∧ w.heap.size ≤ bv ∧ w.heap.size ≤ bt ∧ VS w' bv bt rm n (fun j => Es.getD j []) ∧ LRun ls nl c S0 n S Es ∧ w.grownBy w' (some g) := by
  obtain ⟨view, hview⟩ : ∃ view : Int, view = (c : Int) := ⟨_, rfl⟩
  obtain ⟨how, hhow⟩ : ∃ how : Int, how = 2 := ⟨_, rfl⟩
  have hn : n ≤ 100000 := by omega
  have h0 : 2 ≤ view := by omega
  have h1 : view ≤ 9223372036854775807 := by omega
  rw [← hview] at hrm ⊢
  rw [← hhow]
  have HV0 : Hid (view = (c : Int)) := hview
  have HH0 : Hid (how = 2) := hhow
  have HR0 : Hid (RngAt w r g S0) := hR
  have HRM : Hid (0 < n → vroom view n = (rm : Int)) := hrm
  have HMN : Hid (∀ m, m ≤ c → m ≤ n - 1 → m ≤ rm) := hmin
  have HIX : Hid (IntsIn .u64 w aI n xs) := hIx
  have HAS : Hid (∀ i j, i < j → j < n → xs.getD i 0 < xs.getD j 0) := hasc
  have HLK : Hid (LksIn w aL nl xs ls) := hL
  have HLS : Hid (Lks ls nl n) := hLs
  clear hview hhow hR hrm hmin hIx hasc hL hLs
  have hclip := fun (w : World) => clip_any aI n cI w hnc hcI
  have hroom := fun (w : World) => room_any view n w h0 h1 (by omega) (by omega)
  have m29 := mk29 n (by omega)
  have m38 := mk38 n (by omega)
  go_enter Tryf.func25, Tryf.ntmps25
  go_upto_region 2 with fail
  obtain ⟨W, hW⟩ : ∃ W, W = (w.alloc (Obj.cells #[Value.slice aI n cI, Value.int IntKind.i64 how, Value.slice aL nl cl] 62)).alloc
    (Obj.cells #[Value.int IntKind.i64 view, Value.int IntKind.i64 heal, Value.int IntKind.i64 swap, Value.int IntKind.i64 sel, Value.int IntKind.i64 prop] 66) := ⟨_, rfl⟩
  rw [← hW]
  have dd0 : W.cell? ⟨w.heap.size, 0, none⟩ = some (.slice aI n cI) := by rw [hW]; simp
  have e0 : W.cell? ⟨w.heap.size + 1, 0, none⟩ = some (.int .i64 view) := by rw [hW]; simp
  have e1 : W.cell? ⟨w.heap.size + 1, 1, none⟩ = some (.int .i64 heal) := by rw [hW]; simp
  have e2 : W.cell? ⟨w.heap.size + 1, 2, none⟩ = some (.int .i64 swap) := by rw [hW]; simp
  have e3 : W.cell? ⟨w.heap.size + 1, 3, none⟩ = some (.int .i64 sel) := by rw [hW]; simp
  have e4 : W.cell? ⟨w.heap.size + 1, 4, none⟩ = some (.int .i64 prop) := by rw [hW]; simp
  have HW : Hid (W = (w.alloc (Obj.cells #[Value.slice aI n cI, Value.int IntKind.i64 how, Value.slice aL nl cl] 62)).alloc
    (Obj.cells #[Value.int IntKind.i64 view, Value.int IntKind.i64 heal, Value.int IntKind.i64 swap, Value.int IntKind.i64 sel, Value.int IntKind.i64 prop] 66)) := hW
  have hsz : W.heap.size = w.heap.size + 2 := by rw [hW]; simp
  clear hW
  have x0 : w.heap.size < W.heap.size := by omega
  have x1 : w.heap.size < W.heap.size + 1 := by omega
  have x2 : w.heap.size < W.heap.size + 1 + 1 := by omega
  have x3 : w.heap.size < W.heap.size + 1 + 1 + 1 := by omega
  have y0 : w.heap.size + 1 < W.heap.size := by omega
  have y1 : w.heap.size < W.heap.size := by omega
  have y2 : w.heap.size + 1 < W.heap.size + 1 + 1 := by omega
  have y3 : w.heap.size + 1 < W.heap.size + 1 + 1 + 1 := by omega
  have HZ : Hid (W.heap.size = w.heap.size + 2) := hsz
  clear hsz
  go_cut [8] (fun s wc => NewRel W aI n view s wc)
  case first =>
    refine wp_region_inv' (by kernel_rfl) (r2pr W w.heap.size (w.heap.size + 1) aI n cI view heal swap sel prop) (fun w' => W.grownBy w' none) (grown_drew (grown_refl _ _)) (by kernel_rfl) ?_ ?_
    · intro i o a w1 ho hG hfr hdep
      have hi : i < 17 := (Array.getElem?_eq_some_iff.1 ho).1
      have h3 : a.tmps[3]?.getD undef = .pointer (some ⟨w.heap.size, 0, none⟩) := by
        rw [← Array.getD_eq_getD_getElem?, hfr 3 (notDst (by kernel_rfl))]; rfl
      have h4 : a.tmps[4]?.getD undef = .pointer (some ⟨w.heap.size + 1, 0, none⟩) := by
        rw [← Array.getD_eq_getD_getElem?, hfr 4 (notDst (by kernel_rfl))]; rfl
      have h7 : a.tmps[7]?.getD undef = .int .i64 n := by
        rw [← Array.getD_eq_getD_getElem?, hfr 7 (notDst (by kernel_rfl))]; rfl
      replace dd0 := hG.cell dd0 (by simp)
      replace e0 := hG.cell e0 (by simp)
      replace e1 := hG.cell e1 (by simp)
      replace e2 := hG.cell e2 (by simp)
      replace e3 := hG.cell e3 (by simp)
      replace e4 := hG.cell e4 (by simp)
      clear hfr
      have hcase : i = 0 ∨ i = 1 ∨ i = 2 ∨ i = 3 ∨ i = 4 ∨ i = 5 ∨ i = 6 ∨ i = 7 ∨ i = 8 ∨ i = 9 ∨ i = 10 ∨ i = 11 ∨ i = 12 ∨ i = 13 ∨ i = 14 ∨ i = 15 ∨ i = 16 := by omega
      clear hi
      rcases hcase with rfl | rfl | rfl | rfl | rfl | rfl | rfl | rfl | rfl | rfl | rfl | rfl | rfl | rfl | rfl | rfl | rfl
      · injection (show some _ = some o from ho) with ho; subst ho
        refine wp_value (v := (.agg #[.int .i64 view, .int .i64 heal, .int .i64 swap, .int .i64 sel, .int .i64 prop])) (w' := w1) (by go_simp) ⟨_, rfl, rfl, hG, fun _ _ h => h⟩
      · injection (show some _ = some o from ho) with ho; subst ho
        refine wp_value (v := (.pointer (some ⟨w.heap.size, 0, none⟩))) (w' := w1) (by go_simp) ⟨_, rfl, rfl, hG, fun _ _ h => h⟩
      · injection (show some _ = some o from ho) with ho; subst ho
        have d1 : r2pr W w.heap.size (w.heap.size + 1) aI n cI view heal swap sel prop 1 (a.tmps.getD 25 undef) w1 := hdep ⟨1, .data⟩ (by simp) (by decide) _ 25 rfl rfl
        rw [Array.getD_eq_getD_getElem?] at d1
        have d1' : a.tmps[25]?.getD undef = .pointer (some ⟨w.heap.size, 0, none⟩) := d1
        clear d1
        refine wp_value (v := (.slice aI n cI)) (w' := w1) (by go_simp) ⟨_, rfl, rfl, hG, fun _ _ h => h⟩
      · injection (show some _ = some o from ho) with ho; subst ho
        have d2 : r2pr W w.heap.size (w.heap.size + 1) aI n cI view heal swap sel prop 2 (a.tmps.getD 26 undef) w1 := hdep ⟨2, .data⟩ (by simp) (by decide) _ 26 rfl rfl
        rw [Array.getD_eq_getD_getElem?] at d2
        have d2' : a.tmps[26]?.getD undef = .slice aI n cI := d2
        clear d2
        refine wp_enters (f := 32) (args := #[.slice aI n cI]) (w' := w1) (by go_simp) ((hclip w1).mono ?_)
        rintro e w2 ⟨rfl, rfl⟩
        exact ⟨_, rfl, _, rfl, rfl, hG, fun _ _ h => h⟩
      · injection (show some _ = some o from ho) with ho; subst ho
        refine wp_value (v := (.int .i64 n)) (w' := w1) (by go_simp) ⟨_, rfl, rfl, hG, fun _ _ h => h⟩
      · injection (show some _ = some o from ho) with ho; subst ho
        have d4 : r2pr W w.heap.size (w.heap.size + 1) aI n cI view heal swap sel prop 4 (a.tmps.getD 28 undef) w1 := hdep ⟨4, .data⟩ (by simp) (by decide) _ 28 rfl rfl
        rw [Array.getD_eq_getD_getElem?] at d4
        have d4' : a.tmps[28]?.getD undef = .int .i64 n := d4
        clear d4
        refine wp_value (v := .slice (some ⟨w1.heap.size, 0, none⟩) n n) (w' := w1.alloc (.cells (vzA n) 33)) (by go_simp) ⟨_, rfl, ⟨_, rfl, heap_alloc_new _ _, hG.size⟩, grown_trans hG (World.grownBy_alloc _ _ _), fun j u h => r2_mono (World.grownBy_alloc _ _ _) j u h⟩
      · injection (show some _ = some o from ho) with ho; subst ho
        refine wp_value (v := (.int .i64 n)) (w' := w1) (by go_simp) ⟨_, rfl, rfl, hG, fun _ _ h => h⟩
      · injection (show some _ = some o from ho) with ho; subst ho
        have d6 : r2pr W w.heap.size (w.heap.size + 1) aI n cI view heal swap sel prop 6 (a.tmps.getD 30 undef) w1 := hdep ⟨6, .data⟩ (by simp) (by decide) _ 30 rfl rfl
        rw [Array.getD_eq_getD_getElem?] at d6
        have d6' : a.tmps[30]?.getD undef = .int .i64 n := d6
        clear d6
        refine wp_value (v := .slice (some ⟨w1.heap.size, 0, none⟩) n n) (w' := w1.alloc (.cells (izA n) 3)) (by go_simp) ⟨_, rfl, ⟨_, rfl⟩, grown_trans hG (World.grownBy_alloc _ _ _), fun j u h => r2_mono (World.grownBy_alloc _ _ _) j u h⟩
      · injection (show some _ = some o from ho) with ho; subst ho
        refine wp_value (v := (.int .i64 n)) (w' := w1) (by go_simp) ⟨_, rfl, rfl, hG, fun _ _ h => h⟩
      · injection (show some _ = some o from ho) with ho; subst ho
        have d8 : r2pr W w.heap.size (w.heap.size + 1) aI n cI view heal swap sel prop 8 (a.tmps.getD 32 undef) w1 := hdep ⟨8, .data⟩ (by simp) (by decide) _ 32 rfl rfl
        rw [Array.getD_eq_getD_getElem?] at d8
        have d8' : a.tmps[32]?.getD undef = .int .i64 n := d8
        clear d8
        refine wp_value (v := .slice (some ⟨w1.heap.size, 0, none⟩) n n) (w' := w1.alloc (.cells (izA n) 3)) (by go_simp) ⟨_, rfl, ⟨_, rfl⟩, grown_trans hG (World.grownBy_alloc _ _ _), fun j u h => r2_mono (World.grownBy_alloc _ _ _) j u h⟩
      · injection (show some _ = some o from ho) with ho; subst ho
        refine wp_value (v := (.pointer (some ⟨w.heap.size + 1, 0, none⟩))) (w' := w1) (by go_simp) ⟨_, rfl, rfl, hG, fun _ _ h => h⟩
      · injection (show some _ = some o from ho) with ho; subst ho
        have d10 : r2pr W w.heap.size (w.heap.size + 1) aI n cI view heal swap sel prop 10 (a.tmps.getD 34 undef) w1 := hdep ⟨10, .data⟩ (by simp) (by decide) _ 34 rfl rfl
        rw [Array.getD_eq_getD_getElem?] at d10
        have d10' : a.tmps[34]?.getD undef = .pointer (some ⟨w.heap.size + 1, 0, none⟩) := d10
        clear d10
        refine wp_value (v := (.int .i64 view)) (w' := w1) (by go_simp) ⟨_, rfl, rfl, hG, fun _ _ h => h⟩
      · injection (show some _ = some o from ho) with ho; subst ho
        refine wp_value (v := (.int .i64 n)) (w' := w1) (by go_simp) ⟨_, rfl, rfl, hG, fun _ _ h => h⟩
      · injection (show some _ = some o from ho) with ho; subst ho
        have d11 : r2pr W w.heap.size (w.heap.size + 1) aI n cI view heal swap sel prop 11 (a.tmps.getD 35 undef) w1 := hdep ⟨11, .data⟩ (by simp) (by decide) _ 35 rfl rfl
        rw [Array.getD_eq_getD_getElem?] at d11
        have d12 : r2pr W w.heap.size (w.heap.size + 1) aI n cI view heal swap sel prop 12 (a.tmps.getD 36 undef) w1 := hdep ⟨12, .data⟩ (by simp) (by decide) _ 36 rfl rfl
        rw [Array.getD_eq_getD_getElem?] at d12
        have d11' : a.tmps[35]?.getD undef = .int .i64 view := d11
        have d12' : a.tmps[36]?.getD undef = .int .i64 n := d12
        clear d11 d12
        refine wp_enters (f := 33) (args := #[.int .i64 view, .int .i64 n]) (w' := w1) (by go_simp) ((hroom w1).mono ?_)
        rintro e w2 ⟨rfl, rfl⟩
        exact ⟨_, rfl, _, rfl, rfl, hG, fun _ _ h => h⟩
      · injection (show some _ = some o from ho) with ho; subst ho
        have d0 : r2pr W w.heap.size (w.heap.size + 1) aI n cI view heal swap sel prop 0 (a.tmps.getD 24 undef) w1 := hdep ⟨0, .data⟩ (by simp) (by decide) _ 24 rfl rfl
        rw [Array.getD_eq_getD_getElem?] at d0
        have d3 : r2pr W w.heap.size (w.heap.size + 1) aI n cI view heal swap sel prop 3 (a.tmps.getD 27 undef) w1 := hdep ⟨3, .data⟩ (by simp) (by decide) _ 27 rfl rfl
        rw [Array.getD_eq_getD_getElem?] at d3
        have d5 : r2pr W w.heap.size (w.heap.size + 1) aI n cI view heal swap sel prop 5 (a.tmps.getD 29 undef) w1 := hdep ⟨5, .data⟩ (by simp) (by decide) _ 29 rfl rfl
        rw [Array.getD_eq_getD_getElem?] at d5
        have d7 : r2pr W w.heap.size (w.heap.size + 1) aI n cI view heal swap sel prop 7 (a.tmps.getD 31 undef) w1 := hdep ⟨7, .data⟩ (by simp) (by decide) _ 31 rfl rfl
        rw [Array.getD_eq_getD_getElem?] at d7
        have d9 : r2pr W w.heap.size (w.heap.size + 1) aI n cI view heal swap sel prop 9 (a.tmps.getD 33 undef) w1 := hdep ⟨9, .data⟩ (by simp) (by decide) _ 33 rfl rfl
        rw [Array.getD_eq_getD_getElem?] at d9
        have d13 : r2pr W w.heap.size (w.heap.size + 1) aI n cI view heal swap sel prop 13 (a.tmps.getD 37 undef) w1 := hdep ⟨13, .data⟩ (by simp) (by decide) _ 37 rfl rfl
        rw [Array.getD_eq_getD_getElem?] at d13
        obtain ⟨bv, e5, hb5, hl5⟩ : ∃ bv, a.tmps[29]?.getD undef = .slice (some ⟨bv, 0, none⟩) n n ∧ Blk w1 bv (vzA n) 33 ∧ W.heap.size ≤ bv := d5
        obtain ⟨x7, e7⟩ : ∃ b, a.tmps[31]?.getD undef = .slice b n n := d7
        obtain ⟨x9, e9⟩ : ∃ b, a.tmps[33]?.getD undef = .slice b n n := d9
        have f0 : a.tmps[24]?.getD undef = .agg #[.int .i64 view, .int .i64 heal, .int .i64 swap, .int .i64 sel, .int .i64 prop] := d0
        have f3 : a.tmps[27]?.getD undef = .slice aI n n := d3
        have f13 : a.tmps[37]?.getD undef = .int .i64 (vroom view n) := d13
        clear d0 d3 d13
        refine wp_value (w' := w1) (v := .agg #[.int .i64 view, .int .i64 heal, .int .i64 swap, .int .i64 sel, .int .i64 prop, .slice aI n n, .slice (some ⟨bv, 0, none⟩) n n, .slice none 0 0, .int .i64 (vroom view n), .slice none 0 0, .slice none 0 0, .slice none 0 0, .slice x7 n n, .slice x9 n n, .map none, .pointer none, .int .i64 0]) (by go_simp) ⟨_, rfl, ⟨bv, x7, x9, rfl, hb5, hl5⟩, hG, fun _ _ h => h⟩
      · injection (show some _ = some o from ho) with ho; subst ho
        have d14 : r2pr W w.heap.size (w.heap.size + 1) aI n cI view heal swap sel prop 14 (a.tmps.getD 38 undef) w1 := hdep ⟨14, .data⟩ (by simp) (by decide) _ 38 rfl rfl
        rw [Array.getD_eq_getD_getElem?] at d14
        obtain ⟨bv, x, y, e14, hb, hl⟩ : ∃ bv x y, a.tmps[38]?.getD undef = .agg #[.int .i64 view, .int .i64 heal, .int .i64 swap, .int .i64 sel, .int .i64 prop, .slice aI n n, .slice (some ⟨bv, 0, none⟩) n n, .slice none 0 0, .int .i64 (vroom view n), .slice none 0 0, .slice none 0 0, .slice none 0 0, .slice x n n, .slice y n n, .map none, .pointer none, .int .i64 0] ∧ Blk w1 bv (vzA n) 33 ∧ W.heap.size ≤ bv := d14
        refine wp_value (v := .pointer (some ⟨w1.heap.size, 0, none⟩)) (w' := w1.alloc (.cells #[.int .i64 view, .int .i64 heal, .int .i64 swap, .int .i64 sel, .int .i64 prop, .slice aI n n, .slice (some ⟨bv, 0, none⟩) n n, .slice none 0 0, .int .i64 (vroom view n), .slice none 0 0, .slice none 0 0, .slice none 0 0, .slice x n n, .slice y n n, .map none, .pointer none, .int .i64 0] 74)) (by go_simp) ⟨_, rfl, ?_, grown_trans hG (World.grownBy_alloc _ _ _), fun j u h => r2_mono (World.grownBy_alloc _ _ _) j u h⟩
        exact ⟨_, bv, rfl, ⟨_, heap_alloc_new _ _, rfl, rfl, rfl, rfl⟩, hb.grown (World.grownBy_alloc _ _ none) (by simp), (by have := hb.lt; omega), hG.size, hl⟩
      · injection (show some _ = some o from ho) with ho; subst ho
        have d15 : r2pr W w.heap.size (w.heap.size + 1) aI n cI view heal swap sel prop 15 (a.tmps.getD 39 undef) w1 := hdep ⟨15, .data⟩ (by simp) (by decide) _ 39 rfl rfl
        rw [Array.getD_eq_getD_getElem?] at d15
        obtain ⟨bs, bv, e15, hrest⟩ : ∃ (bs bv : Nat), a.tmps[39]?.getD undef = .pointer (some ⟨bs, 0, none⟩) ∧ SNew W w1 aI n view bs bv := d15
        have HR : Hid (SNew W w1 aI n view bs bv) := hrest
        clear hrest
        refine wp_value (w' := w1) (v := .pointer (some ⟨bs, 0, none⟩)) (by go_simp) ⟨_, rfl, ⟨bs, bv, rfl, HR.out⟩, hG, fun _ _ h => h⟩
    · intro a w1 hG hdf hsz hfr hval
      have h16 := hval 16 _ 8 rfl rfl
      obtain ⟨bs, bv, e, hrest⟩ : ∃ (bs bv : Nat), a.tmps.getD 8 undef = .pointer (some ⟨bs, 0, none⟩) ∧ SNew W w1 aI n view bs bv := h16
      have ea := act_of [24, 25, 26, 27, 28, 29, 30, 31, 32, 33, 34, 35, 36, 37, 38, 39, 8] hdf hsz (fun t ht => hfr t (notDst' (by kernel_rfl) ht))
      rw [ea]
      clear hval hfr hdf hsz ea
      simp only [List.foldl_cons, List.foldl_nil]
      rw [e]
      generalize a.tmps.getD 24 undef = s24
      generalize a.tmps.getD 25 undef = s25
      generalize a.tmps.getD 26 undef = s26
      generalize a.tmps.getD 27 undef = s27
      generalize a.tmps.getD 28 undef = s28
      generalize a.tmps.getD 29 undef = s29
      generalize a.tmps.getD 30 undef = s30
      generalize a.tmps.getD 31 undef = s31
      generalize a.tmps.getD 32 undef = s32
      generalize a.tmps.getD 33 undef = s33
      generalize a.tmps.getD 34 undef = s34
      generalize a.tmps.getD 35 undef = s35
      generalize a.tmps.getD 36 undef = s36
      generalize a.tmps.getD 37 undef = s37
      generalize a.tmps.getD 38 undef = s38
      generalize a.tmps.getD 39 undef = s39
      simp only [List.setIfInBounds_toArray, List.set_cons_succ, List.set_cons_zero]
      go_wp2_with fail
      go_meet
      case rel => exact ⟨bs, bv, rfl, hrest, hG⟩
  case rest =>
    obtain ⟨bs, bv, rfl, ⟨⟨cs, hbs, hc0, hc5, hc6, hc8⟩, hbv, hne, hl1, hl2⟩, hG⟩ := hcut
    have q6 : wc.cell? ⟨bs, 6, none⟩ = some (.slice (some ⟨bv, 0, none⟩) n n) := (hbs.cell 6).trans hc6
    have q8 : wc.cell? ⟨bs, 8, none⟩ = some (.int .i64 (vroom view n)) := (hbs.cell 8).trans hc8
    by_cases hz0 : n = 0
    · subst hz0
      obtain rfl : nl = 0 := by
        rcases Nat.eq_zero_or_pos nl with h | h
        · exact h
        · exact absurd (HLS.out 0 h).1 (Nat.not_lt_zero _)
      rw [vroom_zero h0] at q8
      have hW := HW.out
      have gW : w.grownBy W none := by rw [hW]; exact grown_trans (World.grownBy_alloc _ _ _) (World.grownBy_alloc _ _ _)
      have b3 : Blk W w.heap.size (stA aI aL 0 cI 0 cl how) 62 := by
        rw [hW]; exact (Blk.grown (heap_alloc_new w _) (World.grownBy_alloc _ _ none) (by simp))
      have b4 : Blk W (w.heap.size + 1) (paA view heal swap sel prop) 66 := by
        rw [hW]
        have := heap_alloc_new (w.alloc (Obj.cells #[Value.slice aI 0 cI, Value.int IntKind.i64 how, Value.slice aL 0 cl] 62)) (.cells (paA view heal swap sel prop) 66)
        rw [show (w.alloc (Obj.cells #[Value.slice aI 0 cI, Value.int IntKind.i64 how, Value.slice aL 0 cl] 62)).heap.size = w.heap.size + 1 by simp] at this
        exact this
      have hb3 := b3.grown hG (by simp)
      have hb4 := b4.grown hG (by simp)
      have hgA := grown_trans gW hG
      have lbs := hbs.lt
      have lb3 := hb3.lt
      have lb4 := hb4.lt
      have hzz := HZ.out
      have hh := HH0.out
      subst hh
      have m31 := mk31z
      have ga : wc.grownBy (wc.alloc (.cells (dzA 0) 35)) none := World.grownBy_alloc _ _ _
      have hS9 : SAt (wc.alloc (.cells (dzA 0) 35)) aI 0 view bs bv := SAt.grown ⟨cs, hbs, hc0, hc5, hc6, hc8⟩ ga (by simp)
      have hs0 : w.heap.size ≤ bs := by omega
      have hs1 : w.heap.size ≤ bv := by omega
      have b30 : wc.cell? ⟨w.heap.size, 0, none⟩ = some (.slice aI 0 cI) := hb3.cell 0
      have b31 : wc.cell? ⟨w.heap.size, 1, none⟩ = some (.int .i64 2) := hb3.cell 1
      have b32 : wc.cell? ⟨w.heap.size, 2, none⟩ = some (.slice aL 0 cl) := hb3.cell 2
      have b40 : wc.cell? ⟨w.heap.size + 1, 0, none⟩ = some (.int .i64 view) := hb4.cell 0
      have HGA : Hid (w.grownBy (wc.alloc (.cells (dzA 0) 35)) none) := grown_trans hgA ga
      clear hclip hroom m29 m38 dd0 e0 e1 e2 e3 e4 hW gW b3 b4 hb3 hb4 hgA hbs hbv hc0 hc5 hc6 hc8 hne hl1 hl2 hG HW HZ x0 x1 x2 x3 y0 y1 y2 y3 hzz
      replace b30 := ga.cell b30 (by simp)
      replace b31 := ga.cell b31 (by simp)
      replace b32 := ga.cell b32 (by simp)
      replace b40 := ga.cell b40 (by simp)
      have q6' := ga.cell q6 (by simp)
      clear ga
      go_wp2_with fail
      generalize wc.heap.size = bt at ⊢
      generalize wc.alloc (.cells (dzA 0) 35) = w2 at b30 b31 b32 b40 q6' HGA hS9 ⊢
      clear m31 q6 q8
      go_loopg [53] 0 (fun t i wr => i = .int .i64 0 ∧ wr = w2)
      case atStart => exact ⟨rfl, rfl⟩
      case round =>
        obtain ⟨rfl, hw⟩ := hrel
        subst hw
        go_wp2_with fail
        refine (lk_zero aI aL cI cl bs bv r view wr hS9).mono ?_
        rintro e w9 ⟨rfl, hg9⟩
        go_wp2_with fail
        go_ret
        refine ⟨bs, bv, w.heap.size, S0, [], rfl, hS9.grown hg9 (by simp), hs0, hs1, Nat.le_refl _, fun j hj => absurd hj (Nat.not_lt_zero _), ⟨rfl, rfl⟩, ?_⟩
        have := grown_trans HGA.out hg9
        exact ⟨this.os, this.tape, this.output, this.size, fun k hk _ => this.block k hk (by simp)⟩
    have hrm := HRM.out (by omega)
    rw [hrm] at q8
    have hnr : n * rm ≤ 1000000 := Nat.le_trans (Nat.mul_le_mul hn2 (Nat.le_trans hrn hn2)) (by decide)
    have hp0 : (0 : Int) ≤ (n : Int) * (rm : Int) := by rw [← Int.natCast_mul]; omega
    have hp1 : (n : Int) * (rm : Int) ≤ 1000000 := by rw [← Int.natCast_mul]; omega
    have m31 := mk31 n rm hnr
    clear hclip hroom m29 m38 dd0 e0 e1 e2 e3 e4
    have lbs := hbs.lt
    have lbv := hbv.lt
    have HB : Hid (Base w (wc.alloc (.cells (dzA (n * rm)) 35)) none aI aL n cI nl cl how view heal swap sel prop rm bs bv wc.heap.size) := by
      have hW := HW.out
      have gW : w.grownBy W none := by rw [hW]; exact grown_trans (World.grownBy_alloc _ _ _) (World.grownBy_alloc _ _ _)
      have ga : wc.grownBy (wc.alloc (.cells (dzA (n * rm)) 35)) none := World.grownBy_alloc _ _ _
      have b3 : Blk W w.heap.size (stA aI aL n cI nl cl how) 62 := by
        rw [hW]; exact (Blk.grown (heap_alloc_new w _) (World.grownBy_alloc _ _ none) (by simp))
      have b4 : Blk W (w.heap.size + 1) (paA view heal swap sel prop) 66 := by
        rw [hW]
        have := heap_alloc_new (w.alloc (Obj.cells #[Value.slice aI n cI, Value.int IntKind.i64 how, Value.slice aL nl cl] 62)) (.cells (paA view heal swap sel prop) 66)
        rw [show (w.alloc (Obj.cells #[Value.slice aI n cI, Value.int IntKind.i64 how, Value.slice aL nl cl] 62)).heap.size = w.heap.size + 1 by simp] at this
        exact this
      have hz := HZ.out
      exact ⟨grown_trans (grown_trans gW hG) ga, (b3.grown hG (by simp)).grown ga (by simp), (b4.grown hG (by simp)).grown ga (by simp), ⟨cs, hbs.grown ga (by simp), hc0, hc5, hc6, hc8⟩,
        ⟨_, hbv.grown ga (by simp), by simp [vzA, madeCells]⟩, ⟨_, heap_alloc_new _ _, by simp [dzA, madeCells]⟩, by omega, by omega, by have := hG.size; omega, hne, by omega, by omega⟩
    go_wp2_with fail
    obtain ⟨w2, hw2⟩ : ∃ w2, w2 = wc.alloc (.cells (dzA (n * rm)) 35) := ⟨_, rfl⟩
    obtain ⟨bt, hbt⟩ : ∃ bt, bt = wc.heap.size := ⟨_, rfl⟩
    rw [← hw2, ← hbt] at HB ⊢
    clear hw2 hbt hbs hbv hc0 hc5 hc6 hc8 hne hl1 hl2 hG q6 q8 lbs lbv HW HZ x0 x1 x2 x3 y0 y1 y2 y3
    go_loopg [53] n (fun t i wr => ∃ k : Nat, k + t = n ∧ i = .int .i64 k ∧ Base w wr none aI aL n cI nl cl how view heal swap sel prop rm bs bv bt ∧ ∀ j, j < k → VCell wr bv bt rm j 0)
    case atStart => exact ⟨0, by omega, rfl, HB.out, fun j hj => absurd hj (Nat.not_lt_zero _)⟩
    case round =>
      obtain ⟨k, hk, rfl, hB, hV⟩ := hrel
      clear HB m31
      by_cases hlt : k < n
      · obtain ⟨cs, hbs, hc0, hc5, hc6, hc8⟩ := hB.sat
        have q6 : wr.cell? ⟨bs, 6, none⟩ = some (.slice (some ⟨bv, 0, none⟩) n n) := (hbs.cell 6).trans hc6
        obtain ⟨cv, hbv, hcv⟩ := hB.vs
        have f0 : wr.frozen? ⟨bv, k * 2, none⟩ = false := hbv.frozen _
        have f1 : wr.frozen? ⟨bv, k * 2 + 1, none⟩ = false := hbv.frozen _
        obtain ⟨x0, hx0⟩ : ∃ x, wr.cell? ⟨bv, k * 2, none⟩ = some x := by
          rw [hbv.cell]; exact ⟨_, Array.getElem?_eq_getElem (by omega)⟩
        obtain ⟨x1, hx1⟩ : ∃ x, wr.cell? ⟨bv, k * 2 + 1, none⟩ = some x := by
          rw [hbv.cell]; exact ⟨_, Array.getElem?_eq_getElem (by omega)⟩
        have HB : Hid (Base w wr none aI aL n cI nl cl how view heal swap sel prop rm bs bv bt) := hB
        have HV : Hid (∀ j, j < k → VCell wr bv bt rm j 0) := hV
        have HK : Hid (k + gk = n) := hk
        have hle : (k + 1) * rm ≤ n * rm := Nat.mul_le_mul_right _ hlt
        have hmul : (k + 1) * rm = k * rm + rm := Nat.succ_mul _ _
        have a0 : (0 : Int) ≤ (k : Int) * (rm : Int) := by rw [← Int.natCast_mul]; omega
        have a1 : (k : Int) * (rm : Int) ≤ (n : Int) * (rm : Int) := by rw [← Int.natCast_mul, ← Int.natCast_mul]; omega
        have a2 : ((k : Int) + 1) * (rm : Int) ≤ (n : Int) * (rm : Int) := by
          have : (((k + 1) * rm : Nat) : Int) ≤ ((n * rm : Nat) : Int) := by omega
          simpa [Int.natCast_mul] using this
        have a3 : (k : Int) * (rm : Int) ≤ ((k : Int) + 1) * (rm : Int) := by
          have : ((k * rm : Nat) : Int) ≤ (((k + 1) * rm : Nat) : Int) := by omega
          simpa [Int.natCast_mul] using this
        clear hB hV hk hbs hc0 hc5 hc6 hc8 hbv hcv hmul hle
        go_wp2
        go_region
        rw [cut_slice]
        go_wp2
        go_roundg (gk - 1)
        case measure => have := HK.out; omega
        case rel => exact ⟨k + 1, by have := HK.out; omega, by go_num, ((HB.out.setV _ _).setV _ _).drew, vcells_step HB.out hlt HV.out⟩
      · obtain rfl : n = k := by omega
        have HB : Hid (Base w wr none aI aL n cI nl cl how view heal swap sel prop rm bs bv bt) := hB
        have HV : Hid (∀ j, j < n → VCell wr bv bt rm j 0) := hV
        have hh := HH0.out
        subst hh
        have HRg : Hid (RngAt wr r g S0) := HR0.out.grows hB.grown (by simp) (by simp)
        have b40 : wr.cell? ⟨w.heap.size + 1, 0, none⟩ = some (.int .i64 view) := hB.box4.cell 0
        have b30 : wr.cell? ⟨w.heap.size, 0, none⟩ = some (.slice aI n cI) := hB.box3.cell 0
        have b31 : wr.cell? ⟨w.heap.size, 1, none⟩ = some (.int .i64 2) := hB.box3.cell 1
        have b32 : wr.cell? ⟨w.heap.size, 2, none⟩ = some (.slice aL nl cl) := hB.box3.cell 2
        obtain ⟨cs, hbs, hc0, hc5, hc6, hc8⟩ := hB.sat
        have q6 : wr.cell? ⟨bs, 6, none⟩ = some (.slice (some ⟨bv, 0, none⟩) n n) := (hbs.cell 6).trans hc6
        obtain ⟨b, o, hae, hids⟩ := HIX.out (by omega)
        have HID : Hid (∀ i, i < n → wr.cell? ⟨b, o + i, none⟩ = some (.int .u64 (xs.getD i 0))) := fun i hi => hB.grown.cell (hids i hi) (by simp)
        have HL9 : Hid (LksIn wr aL nl xs ls) := HLK.out.grown hB.grown
        clear hB hV hk hbs hc0 hc5 hc6 hc8 hids
        subst hae
        go_wp2_with fail
        have hV9 := HV0.out
        subst hV9
        refine (lk_any w wr b o n cI nl cl bs bv bt r g rm S0 c aL heal swap sel prop xs ls (by omega) hn2 hnl hc2 hcm (HB.out.toRow _) (fun j hj => ⟨HV.out j hj, fun k hk => absurd hk (Nat.not_lt_zero _), Nat.zero_le _⟩) HRg.out HR0.out.1.lt HR0.out.2.1.lt HID.out HAS.out HL9.out HLS.out HMN.out).mono ?_
        rintro e w9 ⟨rfl, S, Es, hB9, hV9, hLR⟩
        go_wp2_with fail
        go_ret
        exact ⟨bs, bv, bt, S, Es, rfl, hB9.sat, by have := hB9.lbs; omega, by have := hB9.lbv; omega, by have := hB9.lbt; omega, hV9, hLR, hB9.grown⟩
end Go.Proofs.Qxb6614822aFmt
