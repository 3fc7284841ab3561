import Derived.Test.Qxb6614822aFmtFrameB
namespace Go.Proofs.Qxb6614822aFmt
open Go.ChangeShapes Go.WideShapes Go.ChangeAt Go.RowKit Go.Kit
open Go.Extern.Stop Go.Stop Go.Extern

/-- The walk's promise for function 5. -/
def WalkS5 : Prop := ∀ (a0 a1 : Option Addr) (len0 cap0 len1 cap1 : Nat) (z0 : List Int) (z1 : List (Int × Int)) (view s1 s2 : Int) (w : World),
  IsRow .u64 w a0 len0 cap0 z0 → IsRowL w a1 len1 cap1 z1 → (Lit.int .i64 view).wf = true → (Lit.int .u64 s1).wf = true → (Lit.int .u64 s2).wf = true →
    Calls Tryf.prog 5 #[.slice a0 len0 cap0, .slice a1 len1 cap1, .int .i64 view, .int .u64 s1, .int .u64 s2] w
      fun e w' => e = .returned (.bool true) ∧ Below w.heap.size w w'

set_option maxRecDepth 100000 in
theorem lifted5 (hwalk : WalkS5) (os : Os) (started : os.Started) (H : Type) (enc : TypeId × Value → H) :
    ReturnsInTold none {} Tryf.checked os 5 .any Input.okWide ((OpenSpec.ofChange Rows.fnLinkViewsIgnoreOrderDirectionAndRepeatsSpec).preRow enc Tryf.prog Tryf.f5 [] false [])
      (fun F => ((OpenSpec.ofChange Rows.fnLinkViewsIgnoreOrderDirectionAndRepeatsSpec).at F).post enc Tryf.prog Tryf.f5 false true false false) (aloneAtReturn Tryf.prog) nothingAlways := by
  refine returnsInTold_of_row (C := Tryf.checked) (s := OpenSpec.ofChange Rows.fnLinkViewsIgnoreOrderDirectionAndRepeatsSpec) (by kernel_rfl) own started (by kernel_rfl) Tryf.func5
    (OpenSpec.witness_stopped (enc := enc) (C := Tryf.checked) false ⟨#[], #[.slice none 0 0, .slice none 0 0, .int .i64 0, .int .u64 0, .int .u64 0], []⟩ 8 (by kernel_rfl) (by kernel_rfl) (by kernel_rfl) (by kernel_rfl)) ?_
  intro F W base args ds gs before _ hF hval0 hW _ _ hsz _ _
  have hval : ∀ (j : Nat) t v, Tryf.f5.params[j]? = some t → args[j]? = some v → Value.okWide Tryf.prog W .any base t v := hval0
  have hW' := hW
  obtain ⟨p, q, hA0, hV, rfl, _, _⟩ := hW
  have hA : DataW.TrodAll enc Tryf.prog W 0 (fun _ => true) true Tryf.f5.params.toList args.toList ds p := hA0
  rw [Tryf.params5] at hA hval
  obtain ⟨v0, vs0, d0, ds0, p0, q0, hargs, rfl, rfl, h0, r0⟩ := trodAll_cons hA
  obtain ⟨v1, vs1, d1, ds1, p1, q1, rfl, rfl, rfl, h1, r1⟩ := trodAll_cons r0
  obtain ⟨v2, vs2, d2, ds2, p2, q2, rfl, rfl, rfl, h2, r2⟩ := trodAll_cons r1
  obtain ⟨v3, vs3, d3, ds3, p3, q3, rfl, rfl, rfl, h3, r3⟩ := trodAll_cons r2
  obtain ⟨v4, vs4, d4, ds4, p4, q4, rfl, rfl, rfl, h4, r4⟩ := trodAll_cons r3
  obtain ⟨rfl, rfl, rfl⟩ := trodAll_nil r4
  obtain rfl : args = #[v0, v1, v2, v3, v4] := by cases args; simp_all
  obtain ⟨rfl, rfl⟩ := trodVars_none hV
  obtain ⟨a0, len0, cap0, rfl⟩ := okWide_slice Tryf.underlying22 (hval 0 22 v0 rfl rfl)
  obtain ⟨a1, len1, cap1, rfl⟩ := okWide_slice Tryf.underlying36 (hval 1 36 v1 rfl rfl)
  have k0 := h0
  have k1 := h1
  have lt0 : ∀ x ∈ p0, x.block < W.heap.size := by obtain ⟨m, hm⟩ := k0; exact DataW.trod_lt m _ _ _ hm
  have lt1 : ∀ x ∈ p1, x.block < W.heap.size := by obtain ⟨m, hm⟩ := k1; exact DataW.trod_lt m _ _ _ hm
  obtain ⟨z0, w0⟩ : ∃ zs, IsRow .u64 W a0 len0 cap0 zs := by
    obtain ⟨fuel, hf⟩ := h0
    rcases open_ints Tryf.underlying22 Tryf.underlying23 (by kernel_rfl) hf with ⟨hcs, _⟩ | ⟨x, l, c, zs, hcs, _, hl, hm, hz, _, hcell, hwz⟩
    · simp [Value.cells] at hcs
      obtain ⟨rfl, rfl, rfl⟩ := hcs
      exact ⟨[], .inl ⟨rfl, rfl, rfl, rfl⟩⟩
    · simp [Value.cells] at hcs
      obtain ⟨rfl, rfl, rfl⟩ := hcs
      exact ⟨zs, .inr ⟨_, rfl, hl, hm, by simpa using hz, hcell, hwz⟩⟩
  obtain ⟨z1, w1⟩ : ∃ zs, IsRowL W a1 len1 cap1 zs := by
    obtain ⟨fuel, hf⟩ := h1
    rcases Deep.open_slice_pairs Tryf.underlying36 Tryf.underlying46 (by kernel_rfl) rfl rfl (by kernel_rfl) (by kernel_rfl) hf with ⟨hcs, _⟩ | ⟨x, l, c, m, nn, V0, V1, D0, D1, P0, P1, hcs, _, hl, hm, hmm, _, hx⟩
    · simp [Value.cells] at hcs
      obtain ⟨rfl, rfl, rfl⟩ := hcs
      exact ⟨[], .inl ⟨rfl, rfl, rfl, rfl⟩⟩
    · simp [Value.cells] at hcs
      obtain ⟨rfl, rfl, rfl⟩ := hcs
      obtain ⟨f, hf⟩ := Deep.choose_lt (α := Int × Int) (n := len1) (p := fun i y => W.cell? (x.add (i * 2)) = some (.int .u64 y.1) ∧ W.cell? (x.add (i * 2 + 1)) = some (.int .u64 y.2)) (fun i hi => by
        obtain ⟨e0, e1, t0, t1⟩ := hx i (by rw [hmm]; simp; omega)
        obtain ⟨n0, g0, _, _⟩ := DataW.trod_int Tryf.underlying23 t0
        obtain ⟨n1, g1, _, _⟩ := DataW.trod_int Tryf.underlying23 t1
        have e0' : V0 i = .int .u64 n0 := by simpa using g0
        have e1' : V1 i = .int .u64 n1 := by simpa using g1
        exact ⟨(n0, n1), by rw [e0, e0'], by rw [e1, e1']⟩)
      refine ⟨(List.range len1).map f, .inr ⟨_, rfl, hl, hm, fun i hi => ?_⟩⟩
      have e : ((List.range len1).map f).getD i (0, 0) = f i := by simp [List.getD, hi]
      rw [e]; exact hf i hi
  obtain ⟨view, rfl, rfl, rfl, wf2⟩ := open_int Tryf.underlying3 (hval 2 3 v2 rfl rfl) h2
  obtain ⟨s1, rfl, rfl, rfl, wf3⟩ := open_int Tryf.underlying23 (hval 3 23 v3 rfl rfl) h3
  obtain ⟨s2, rfl, rfl, rfl, wf4⟩ := open_int Tryf.underlying23 (hval 4 23 v4 rfl rfl) h4
  clear hA0 hval0
  refine (hwalk a0 a1 len0 cap0 len1 cap1 z0 z1 view s1 s2 W w0 w1 wf2 wf3 wf4).mono fun e W' ⟨he, bel⟩ => ?_
  subst he
  exact ⟨_, rfl, _, _, _, [], _, [], hW', trodAll_mk1 (shut_bool Tryf.underlying4 _),
    (trodAll_cons_mk (Below.trod laidOut (by kernel_rfl) (of_decide_eq_true (by kernel_rfl)) k0 bel lt0)
      (trodAll_cons_mk (Below.trod laidOut (by kernel_rfl) (of_decide_eq_true (by kernel_rfl)) k1 bel lt1)
        (trodAll_cons_mk (shut_int Tryf.underlying3 wf2) (trodAll_cons_mk (shut_int Tryf.underlying23 wf3) (trodAll_cons_mk (shut_int Tryf.underlying23 wf4) trodAll_mk0))))), rfl, bel.frame _, fun h => by cases h⟩

theorem card5 (hwalk : WalkS5) : Rows.FnLinkViewsIgnoreOrderDirectionAndRepeatsToldSaid :=
  Claim7.holds_of_told_any 5 Tryf.f5 "fmt.errorf" [] [] _ _ _ (by kernel_rfl) rfl rfl rfl laidOut (by kernel_rfl) rfl ⟨rfl, rfl, rfl, rfl, rfl, rfl, rfl⟩ rfl rfl (by kernel_rfl) (by kernel_rfl) Tryf.func5 (by kernel_rfl)
    (of_decide_eq_true (by kernel_rfl)) (by unfold Func.isWrapper; first | (rw [if_pos (by decide +kernel)]; kernel_rfl) | (rw [if_neg (by decide +kernel)]; exact ⟨rfl, rfl⟩)) stops.symm rfl stopKnobs.symm (by kernel_rfl)
    (by kernel_rfl) (by kernel_rfl) (by kernel_rfl) (by kernel_rfl) (by kernel_rfl) (by kernel_rfl) (by kernel_rfl) (by kernel_rfl) (by kernel_rfl) rfl (by kernel_rfl) rfl rfl
    rfl rfl
    rfl (by kernel_rfl) (by kernel_rfl) (by kernel_rfl) (by decide) (by kernel_rfl)
    (OpenClaim.moreEntering_of (by kernel_rfl) (by kernel_rfl) (by kernel_rfl) (by kernel_rfl) (by kernel_rfl) (by kernel_rfl) (by kernel_rfl) (by kernel_rfl) (by kernel_rfl) (by kernel_rfl))
    ⟨_, WideRow.started_initial, quiet _⟩
    (fun os started _ H enc _ => lifted5 hwalk os started H enc)
end Go.Proofs.Qxb6614822aFmt
