/-
  No cell of these rows narrows 'for every input' (looked for: loops, veiled, ifaces, maps, wideKeys, modest, calm, conditions, laid).
  DERIVED. THE GIVEN ROWS OF THIS SEAT. 1 by the template 'for every input the law returns true; each argument reads behind the call as it read before'; 0 by the template 'total and deterministic' (their statements: Qxb6623519aTotals.lean).
  GIVEN WITH THE SEED: the statements are not yours to turn. If you find one false, say at which input.
  Laid BY PROGRAM, IN A SANDBOX (cutbox-rows.mjs): the forced cells as the released guide's own fill.sh prints them over the translation 73dd1b2d17395dd2… (all of the seat's roots in one cut). By AI agents, Wed Nov 11 2026. No macro, syntax, notation, axiom, sorry.
-/
import Derived.Test.Qxb6623519aChecked
import GoSem.Claim
import GoSem.ClaimJoined
import GoSem.ClaimMapViews
import Derived.JoinedTies
import Derived.KernelRfl
namespace Go.Proofs.Qxb6623519a
/- THE CELL 'sum', in the pinned program and in every row, IS THE sha256 OF THE DUMP (.gsa) THAT Qxb6623519aProg.lean LOADS. Nothing in Lean hashes anything: it is a label: what it is worth is what the hold of that sum in a sandbox is worth. -/
noncomputable def Try.pinned : Pinned := { name := "qxb6623519a", sum := "73dd1b2d17395dd22ac1042d2ea2cd418f21771b38b42d8b9894bb61711678fd", checked := Try.checked }
namespace Rows
def none {H : Type} : Left H := { results := [], args := [] }

/-- 'zzlaws_internal_canvas_b1.FnInternKeepsFirstDistinctShortTexts': WHATEVER THE INPUT: true; the input reads as it did. -/
def fnInternKeepsFirstDistinctShortTextsSpec : ChangeSpec := { name := "fnInternKeepsFirstDistinctShortTexts", fn := fun _ => fun
  | [d1, d2] => { results := [.lit (.bool true)], args := [d1, d2] }
  | _ => none }
def fnInternKeepsFirstDistinctShortTextsRow : OpenClaim := { program := "qxb6623519a", sum := "73dd1b2d17395dd22ac1042d2ea2cd418f21771b38b42d8b9894bb61711678fd", func := "example.com/inchworm/inchworm/zzlaws_internal_canvas_b1.FnInternKeepsFirstDistinctShortTexts", spec := "fnInternKeepsFirstDistinctShortTexts", apart := false }
def FnInternKeepsFirstDistinctShortTextsSaid : Prop := fnInternKeepsFirstDistinctShortTextsRow.holds Try.pinned (OpenSpec.ofChange fnInternKeepsFirstDistinctShortTextsSpec)

/-- ITS FALSE NEIGHBOUR: 'it returns false'. Refute it at one input. -/
def fnInternKeepsFirstDistinctShortTextsWrong : ChangeSpec := { name := "fnInternKeepsFirstDistinctShortTexts", fn := fun _ => fun
  | [d1, d2] => { results := [.lit (.bool false)], args := [d1, d2] }
  | _ => none }
def FnInternKeepsFirstDistinctShortTextsWrongFalsely : Prop := fnInternKeepsFirstDistinctShortTextsRow.holds Try.pinned (OpenSpec.ofChange fnInternKeepsFirstDistinctShortTextsWrong)

end Rows
end Go.Proofs.Qxb6623519a
