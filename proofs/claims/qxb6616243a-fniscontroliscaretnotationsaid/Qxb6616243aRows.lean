/-
  No cell of these rows narrows 'for every input' (looked for: loops, veiled, ifaces, maps, wideKeys, modest, calm, conditions, laid).
  DERIVED. THE GIVEN ROWS OF THIS SEAT. 1 by the template 'for every input the law returns true; each argument reads behind the call as it read before'; 0 by the template 'total and deterministic' (their statements: Qxb6616243aTotals.lean).
  GIVEN WITH THE SEED: the statements are not yours to turn. If you find one false, say at which input.
  Laid BY PROGRAM, IN A SANDBOX (cutbox-rows.mjs): the forced cells as the released guide's own fill.sh prints them over the translation 665f5b0a37a4c77b… (all of the seat's roots in one cut). By AI agents, Wed Nov 11 2026. No macro, syntax, notation, axiom, sorry.
-/
import Derived.Test.Qxb6616243aChecked
import GoSem.Claim
import GoSem.ClaimJoined
import GoSem.ClaimMapViews
import Derived.JoinedTies
import Derived.KernelRfl
namespace Go.Proofs.Qxb6616243a
/- THE CELL 'sum', in the pinned program and in every row, IS THE sha256 OF THE DUMP (.gsa) THAT Qxb6616243aProg.lean LOADS. Nothing in Lean hashes anything: it is a label: what it is worth is what the hold of that sum in a sandbox is worth. -/
noncomputable def Try.pinned : Pinned := { name := "qxb6616243a", sum := "665f5b0a37a4c77bd8761b6ac0bad1087cf807e69d1202e5b207f6c1c6bfb733", checked := Try.checked }
namespace Rows
def none {H : Type} : Left H := { results := [], args := [] }

/-- 'zzlaws_root_b1.FnIsControlIsCaretNotation': WHATEVER THE INPUT: true; the input reads as it did. -/
def fnIsControlIsCaretNotationSpec : ChangeSpec := { name := "fnIsControlIsCaretNotation", fn := fun _ => fun
  | [d] => { results := [.lit (.bool true)], args := [d] }
  | _ => none }
def fnIsControlIsCaretNotationRow : OpenClaim := { program := "qxb6616243a", sum := "665f5b0a37a4c77bd8761b6ac0bad1087cf807e69d1202e5b207f6c1c6bfb733", func := "example.com/addrwright/addrwright/zzlaws_root_b1.FnIsControlIsCaretNotation", spec := "fnIsControlIsCaretNotation", apart := false }
def FnIsControlIsCaretNotationSaid : Prop := fnIsControlIsCaretNotationRow.holds Try.pinned (OpenSpec.ofChange fnIsControlIsCaretNotationSpec)

/-- ITS FALSE NEIGHBOUR: 'it returns false'. Refute it at one input. -/
def fnIsControlIsCaretNotationWrong : ChangeSpec := { name := "fnIsControlIsCaretNotation", fn := fun _ => fun
  | [d] => { results := [.lit (.bool false)], args := [d] }
  | _ => none }
def FnIsControlIsCaretNotationWrongFalsely : Prop := fnIsControlIsCaretNotationRow.holds Try.pinned (OpenSpec.ofChange fnIsControlIsCaretNotationWrong)

end Rows
end Go.Proofs.Qxb6616243a
