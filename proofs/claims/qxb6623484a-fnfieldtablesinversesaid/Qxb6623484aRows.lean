/-
  No cell of these rows narrows 'for every input' (looked for: loops, veiled, ifaces, maps, wideKeys, modest, calm, conditions, laid).
  DERIVED. THE GIVEN ROWS OF THIS SEAT. 2 by the template 'for every input the law returns true; each argument reads behind the call as it read before'; 0 by the template 'total and deterministic' (their statements: Qxb6623484aTotals.lean).
  GIVEN WITH THE SEED: the statements are not yours to turn. If you find one false, say at which input.
  Laid BY PROGRAM, IN A SANDBOX (cutbox-rows.mjs): the forced cells as the released guide's own fill.sh prints them over the translation af6e8e15b8fb168c… (all of the seat's roots in one cut). By AI agents, Wed Nov 11 2026. No macro, syntax, notation, axiom, sorry.
-/
import Derived.Test.Qxb6623484aChecked
import GoSem.Claim
import GoSem.ClaimJoined
import GoSem.ClaimMapViews
import Derived.JoinedTies
import Derived.KernelRfl
namespace Go.Proofs.Qxb6623484a
/- THE CELL 'sum', in the pinned program and in every row, IS THE sha256 OF THE DUMP (.gsa) THAT Qxb6623484aProg.lean LOADS. Nothing in Lean hashes anything: it is a label: what it is worth is what the hold of that sum in a sandbox is worth. -/
noncomputable def Try.pinned : Pinned := { name := "qxb6623484a", sum := "af6e8e15b8fb168ce95bc28e74883cf2a3d449c7dae1c85b35616f1cc6ef2db9", checked := Try.checked }
namespace Rows
def none {H : Type} : Left H := { results := [], args := [] }

/-- 'zzlaws_internal_rsdecode_b1.FnFieldTablesMultiply': WHATEVER THE INPUT: true; the input reads as it did. -/
def fnFieldTablesMultiplySpec : ChangeSpec := { name := "fnFieldTablesMultiply", fn := fun _ => fun
  | [d1, d2] => { results := [.lit (.bool true)], args := [d1, d2] }
  | _ => none }
def fnFieldTablesMultiplyRow : OpenClaim := { program := "qxb6623484a", sum := "af6e8e15b8fb168ce95bc28e74883cf2a3d449c7dae1c85b35616f1cc6ef2db9", func := "example.com/keyfold/keyfold/zzlaws_internal_rsdecode_b1.FnFieldTablesMultiply", spec := "fnFieldTablesMultiply", apart := false }
def FnFieldTablesMultiplySaid : Prop := fnFieldTablesMultiplyRow.holds Try.pinned (OpenSpec.ofChange fnFieldTablesMultiplySpec)

/-- ITS FALSE NEIGHBOUR: 'it returns false'. Refute it at one input. -/
def fnFieldTablesMultiplyWrong : ChangeSpec := { name := "fnFieldTablesMultiply", fn := fun _ => fun
  | [d1, d2] => { results := [.lit (.bool false)], args := [d1, d2] }
  | _ => none }
def FnFieldTablesMultiplyWrongFalsely : Prop := fnFieldTablesMultiplyRow.holds Try.pinned (OpenSpec.ofChange fnFieldTablesMultiplyWrong)

/-- 'zzlaws_internal_rsdecode_b1.FnFieldTablesInverse': WHATEVER THE INPUT: true; the input reads as it did. -/
def fnFieldTablesInverseSpec : ChangeSpec := { name := "fnFieldTablesInverse", fn := fun _ => fun
  | [d1, d2] => { results := [.lit (.bool true)], args := [d1, d2] }
  | _ => none }
def fnFieldTablesInverseRow : OpenClaim := { program := "qxb6623484a", sum := "af6e8e15b8fb168ce95bc28e74883cf2a3d449c7dae1c85b35616f1cc6ef2db9", func := "example.com/keyfold/keyfold/zzlaws_internal_rsdecode_b1.FnFieldTablesInverse", spec := "fnFieldTablesInverse", apart := false }
def FnFieldTablesInverseSaid : Prop := fnFieldTablesInverseRow.holds Try.pinned (OpenSpec.ofChange fnFieldTablesInverseSpec)

/-- ITS FALSE NEIGHBOUR: 'it returns false'. Refute it at one input. -/
def fnFieldTablesInverseWrong : ChangeSpec := { name := "fnFieldTablesInverse", fn := fun _ => fun
  | [d1, d2] => { results := [.lit (.bool false)], args := [d1, d2] }
  | _ => none }
def FnFieldTablesInverseWrongFalsely : Prop := fnFieldTablesInverseRow.holds Try.pinned (OpenSpec.ofChange fnFieldTablesInverseWrong)

end Rows
end Go.Proofs.Qxb6623484a
