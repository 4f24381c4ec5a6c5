/-
  No cell of these rows narrows 'for every input' (looked for: loops, veiled, ifaces, maps, wideKeys, modest, calm, conditions, laid).
  DERIVED. THE GIVEN ROWS OF THIS SEAT. 1 by the template 'for every input the law returns true; each argument reads behind the call as it read before'; 0 by the template 'total and deterministic' (their statements: Qxb6605506aTotals.lean).
  GIVEN WITH THE SEED: the statements are not yours to turn. If you find one false, say at which input.
  Laid BY PROGRAM, IN A SANDBOX (cutbox-rows.mjs): the forced cells as the released guide's own fill.sh prints them over the translation 454f8eeb1f16833b… (all of the seat's roots in one cut). By AI agents, Wed Nov 11 2026. No macro, syntax, notation, axiom, sorry.
-/
import Derived.Test.Qxb6605506aChecked
import GoSem.Claim
import GoSem.ClaimJoined
import GoSem.ClaimMapViews
import Derived.JoinedTies
import Derived.KernelRfl
namespace Go.Proofs.Qxb6605506a
/- THE CELL 'sum', in the pinned program and in every row, IS THE sha256 OF THE DUMP (.gsa) THAT Qxb6605506aProg.lean LOADS. Nothing in Lean hashes anything: it is a label: what it is worth is what the hold of that sum in a sandbox is worth. -/
noncomputable def Try.pinned : Pinned := { name := "qxb6605506a", sum := "454f8eeb1f16833be4003d53ab530022753d82e9432eb389db6e2548aa1fa161", checked := Try.checked }
namespace Rows
def none {H : Type} : Left H := { results := [], args := [] }

/-- 'zzlaws_root_b1.FnAbsInt64Decimal': WHATEVER THE INPUT: true; the input reads as it did. -/
def fnAbsInt64DecimalSpec : ChangeSpec := { name := "fnAbsInt64Decimal", fn := fun _ => fun
  | [d] => { results := [.lit (.bool true)], args := [d] }
  | _ => none }
def fnAbsInt64DecimalRow : OpenClaim := { program := "qxb6605506a", sum := "454f8eeb1f16833be4003d53ab530022753d82e9432eb389db6e2548aa1fa161", func := "example.com/vestwright/vestwright/zzlaws_root_b1.FnAbsInt64Decimal", spec := "fnAbsInt64Decimal", apart := false }
def FnAbsInt64DecimalSaid : Prop := fnAbsInt64DecimalRow.holds Try.pinned (OpenSpec.ofChange fnAbsInt64DecimalSpec)

/-- ITS FALSE NEIGHBOUR: 'it returns false'. Refute it at one input. -/
def fnAbsInt64DecimalWrong : ChangeSpec := { name := "fnAbsInt64Decimal", fn := fun _ => fun
  | [d] => { results := [.lit (.bool false)], args := [d] }
  | _ => none }
def FnAbsInt64DecimalWrongFalsely : Prop := fnAbsInt64DecimalRow.holds Try.pinned (OpenSpec.ofChange fnAbsInt64DecimalWrong)

end Rows
end Go.Proofs.Qxb6605506a
