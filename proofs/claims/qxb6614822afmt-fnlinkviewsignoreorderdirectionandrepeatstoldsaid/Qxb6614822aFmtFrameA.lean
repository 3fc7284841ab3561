import Derived.Test.Qxb6614822aFmtRows
import Derived.Test.Qxb6614822aFmtCards
import Derived.WalkKit
import Derived.ProofKit
import Derived.ChangeSlices
import Derived.ChangeOld
import Derived.Below
import Derived.JoinedOf
import Derived.Carry
import Derived.Stop.JoinedAt
import Derived.Stop.Texts
import Derived.Stop.JoinedTold
import Derived.SizedLaws
import Derived.SevenToldRow
import Derived.OpenShut
namespace Go.Proofs.Qxb6614822aFmt
open Go.ChangeShapes Go.WideShapes Go.ChangeAt Go.RowKit Go.Kit
open Go.Extern.Stop Go.Stop Go.Extern

theorem own : ownKnob Tryf.prog.godebug = none := by kernel_rfl
theorem laidOut : laidOutB Tryf.pinned.checked.prog = true := by kernel_rfl
theorem stops : Tryf.pinned.checked.prog.stops = ["fmt.errorf"] := by kernel_rfl
theorem stopKnobs : Tryf.pinned.checked.prog.stopKnobs = [] := by kernel_rfl
theorem quiet (os : Os) : Stop.quiet Tryf.pinned.checked.prog os := by
  intro k hk
  rw [stopKnobs] at hk
  cases hk

/-- What the walk is told of a slice of integers that came in. -/
def IsRow (k : IntKind) (w : World) (a : Option Addr) (len cap : Nat) (zs : List Int) : Prop :=
  (a = none ∧ len = 0 ∧ cap = 0 ∧ zs = []) ∨
  ∃ x, a = some x ∧ len ≤ cap ∧ cap ≤ maxLen ∧ zs.length = cap ∧ (∀ i, i < zs.length → w.cell? (x.add i) = some (.int k (zs.getD i 0))) ∧ ∀ n ∈ zs, (Lit.int k n).wf = true

/-- The walk's promise for statement 2. -/
def WalkS2 : Prop := ∀ (a0 : Option Addr) (len0 cap0 : Nat) (z0 : List Int) (view heal swap sel prop s1 s2 : Int) (w : World),
  IsRow .u64 w a0 len0 cap0 z0 → (Lit.int .i64 view).wf = true → (Lit.int .i64 heal).wf = true → (Lit.int .i64 swap).wf = true → (Lit.int .i64 sel).wf = true → (Lit.int .i64 prop).wf = true →
  (Lit.int .u64 s1).wf = true → (Lit.int .u64 s2).wf = true →
    Calls Tryf.prog 3 #[.slice a0 len0 cap0, .int .i64 view, .int .i64 heal, .int .i64 swap, .int .i64 sel, .int .i64 prop, .int .u64 s1, .int .u64 s2] w
      fun e w' => e = .returned (.bool true) ∧ Below w.heap.size w w'

set_option maxRecDepth 100000 in
theorem lifted2 (hwalk : WalkS2) (os : Os) (started : os.Started) (H : Type) (enc : TypeId × Value → H) :
    ReturnsInTold none {} Tryf.checked os 3 .any Input.okWide ((OpenSpec.ofChange Rows.fnNewSamplerRandomViewsHoldViewDistinctOthersSpec).preRow enc Tryf.prog Tryf.f3 [] false [])
      (fun F => ((OpenSpec.ofChange Rows.fnNewSamplerRandomViewsHoldViewDistinctOthersSpec).at F).post enc Tryf.prog Tryf.f3 false true false false) (aloneAtReturn Tryf.prog) nothingAlways := by
  refine returnsInTold_of_row (C := Tryf.checked) (s := OpenSpec.ofChange Rows.fnNewSamplerRandomViewsHoldViewDistinctOthersSpec) (by kernel_rfl) own started (by kernel_rfl) Tryf.func3
    (OpenSpec.witness_stopped (enc := enc) (C := Tryf.checked) false ⟨#[], #[.slice none 0 0, .int .i64 0, .int .i64 0, .int .i64 0, .int .i64 0, .int .i64 0, .int .u64 0, .int .u64 0], []⟩ 8 (by kernel_rfl) (by kernel_rfl) (by kernel_rfl) (by kernel_rfl)) ?_
  intro F W base args ds gs before _ hF hval0 hW _ _ hsz _ _
  have hval : ∀ (j : Nat) t v, Tryf.f3.params[j]? = some t → args[j]? = some v → Value.okWide Tryf.prog W .any base t v := hval0
  have hW' := hW
  obtain ⟨p, q, hA0, hV, rfl, _, _⟩ := hW
  have hA : DataW.TrodAll enc Tryf.prog W 0 (fun _ => true) true Tryf.f3.params.toList args.toList ds p := hA0
  rw [Tryf.params3] at hA hval
  obtain ⟨v0, vs0, d0, ds0, p0, q0, hargs, rfl, rfl, h0, r0⟩ := trodAll_cons hA
  obtain ⟨v1, vs1, d1, ds1, p1, q1, rfl, rfl, rfl, h1, r1⟩ := trodAll_cons r0
  obtain ⟨v2, vs2, d2, ds2, p2, q2, rfl, rfl, rfl, h2, r2⟩ := trodAll_cons r1
  obtain ⟨v3, vs3, d3, ds3, p3, q3, rfl, rfl, rfl, h3, r3⟩ := trodAll_cons r2
  obtain ⟨v4, vs4, d4, ds4, p4, q4, rfl, rfl, rfl, h4, r4⟩ := trodAll_cons r3
  obtain ⟨v5, vs5, d5, ds5, p5, q5, rfl, rfl, rfl, h5, r5⟩ := trodAll_cons r4
  obtain ⟨v6, vs6, d6, ds6, p6, q6, rfl, rfl, rfl, h6, r6⟩ := trodAll_cons r5
  obtain ⟨v7, vs7, d7, ds7, p7, q7, rfl, rfl, rfl, h7, r7⟩ := trodAll_cons r6
  obtain ⟨rfl, rfl, rfl⟩ := trodAll_nil r7
  obtain rfl : args = #[v0, v1, v2, v3, v4, v5, v6, v7] := by cases args; simp_all
  obtain ⟨rfl, rfl⟩ := trodVars_none hV
  obtain ⟨a0, len0, cap0, rfl⟩ := okWide_slice Tryf.underlying22 (hval 0 22 v0 rfl rfl)
  have k0 := h0
  have lt0 : ∀ x ∈ p0, x.block < W.heap.size := by obtain ⟨m, hm⟩ := k0; exact DataW.trod_lt m _ _ _ hm
  obtain ⟨z0, w0⟩ : ∃ zs, IsRow .u64 W a0 len0 cap0 zs := by
    obtain ⟨fuel, hf⟩ := h0
    rcases open_ints Tryf.underlying22 Tryf.underlying23 (by kernel_rfl) hf with ⟨hcs, _⟩ | ⟨x, l, c, zs, hcs, _, hl, hm, hz, _, hcell, hwz⟩
    · simp [Value.cells] at hcs
      obtain ⟨rfl, rfl, rfl⟩ := hcs
      exact ⟨[], .inl ⟨rfl, rfl, rfl, rfl⟩⟩
    · simp [Value.cells] at hcs
      obtain ⟨rfl, rfl, rfl⟩ := hcs
      exact ⟨zs, .inr ⟨_, rfl, hl, hm, by simpa using hz, hcell, hwz⟩⟩
  obtain ⟨view, rfl, rfl, rfl, wf1⟩ := open_int Tryf.underlying3 (hval 1 3 v1 rfl rfl) h1
  obtain ⟨heal, rfl, rfl, rfl, wf2⟩ := open_int Tryf.underlying3 (hval 2 3 v2 rfl rfl) h2
  obtain ⟨swap, rfl, rfl, rfl, wf3⟩ := open_int Tryf.underlying3 (hval 3 3 v3 rfl rfl) h3
  obtain ⟨sel, rfl, rfl, rfl, wf4⟩ := open_int Tryf.underlying3 (hval 4 3 v4 rfl rfl) h4
  obtain ⟨prop, rfl, rfl, rfl, wf5⟩ := open_int Tryf.underlying3 (hval 5 3 v5 rfl rfl) h5
  obtain ⟨s1, rfl, rfl, rfl, wf6⟩ := open_int Tryf.underlying23 (hval 6 23 v6 rfl rfl) h6
  obtain ⟨s2, rfl, rfl, rfl, wf7⟩ := open_int Tryf.underlying23 (hval 7 23 v7 rfl rfl) h7
  clear hA0 hval0
  refine (hwalk a0 len0 cap0 z0 view heal swap sel prop s1 s2 W w0 wf1 wf2 wf3 wf4 wf5 wf6 wf7).mono fun e W' ⟨he, bel⟩ => ?_
  subst he
  exact ⟨_, rfl, _, _, _, [], _, [], hW', trodAll_mk1 (shut_bool Tryf.underlying4 _),
    (trodAll_cons_mk (Below.trod laidOut (by kernel_rfl) (of_decide_eq_true (by kernel_rfl)) k0 bel lt0)
      (trodAll_cons_mk (shut_int Tryf.underlying3 wf1) (trodAll_cons_mk (shut_int Tryf.underlying3 wf2) (trodAll_cons_mk (shut_int Tryf.underlying3 wf3) (trodAll_cons_mk (shut_int Tryf.underlying3 wf4) (trodAll_cons_mk (shut_int Tryf.underlying3 wf5)
        (trodAll_cons_mk (shut_int Tryf.underlying23 wf6) (trodAll_cons_mk (shut_int Tryf.underlying23 wf7) trodAll_mk0)))))))), rfl, bel.frame _, fun h => by cases h⟩

theorem card2 (hwalk : WalkS2) : Rows.FnNewSamplerRandomViewsHoldViewDistinctOthersToldSaid :=
  Claim7.holds_of_told_any 3 Tryf.f3 "fmt.errorf" [] [] _ _ _ (by kernel_rfl) rfl rfl rfl laidOut (by kernel_rfl) rfl ⟨rfl, rfl, rfl, rfl, rfl, rfl, rfl⟩ rfl rfl (by kernel_rfl) (by kernel_rfl) Tryf.func3 (by kernel_rfl)
    (of_decide_eq_true (by kernel_rfl)) (by unfold Func.isWrapper; first | (rw [if_pos (by decide +kernel)]; kernel_rfl) | (rw [if_neg (by decide +kernel)]; exact ⟨rfl, rfl⟩)) stops.symm rfl stopKnobs.symm (by kernel_rfl)
    (by kernel_rfl) (by kernel_rfl) (by kernel_rfl) (by kernel_rfl) (by kernel_rfl) (by kernel_rfl) (by kernel_rfl) (by kernel_rfl) (by kernel_rfl) rfl (by kernel_rfl) rfl rfl
    rfl rfl
    rfl (by kernel_rfl) (by kernel_rfl) (by kernel_rfl) (by decide) (by kernel_rfl)
    (OpenClaim.moreEntering_of (by kernel_rfl) (by kernel_rfl) (by kernel_rfl) (by kernel_rfl) (by kernel_rfl) (by kernel_rfl) (by kernel_rfl) (by kernel_rfl) (by kernel_rfl) (by kernel_rfl))
    ⟨_, WideRow.started_initial, quiet _⟩
    (fun os started _ H enc _ => lifted2 hwalk os started H enc)
end Go.Proofs.Qxb6614822aFmt
