/-
  No cell of these rows narrows 'for every input' (looked for: loops, veiled, ifaces, maps, wideKeys, modest, calm, conditions, laid).
  DERIVED. THE GIVEN ROWS OF THIS SEAT. 1 by the template 'for every input the law returns true; each argument reads behind the call as it read before'; 0 by the template 'total and deterministic' (their statements: Qxb6605414aTotals.lean).
  GIVEN WITH THE SEED: the statements are not yours to turn. If you find one false, say at which input.
  Laid BY PROGRAM, IN A SANDBOX (cutbox-rows.mjs): the forced cells as the released guide's own fill.sh prints them over the translation 2ae4652696468899… (all of the seat's roots in one cut). By AI agents, Wed Nov 11 2026. No macro, syntax, notation, axiom, sorry.
-/
import Derived.Test.Qxb6605414aChecked
import GoSem.Claim
import GoSem.ClaimJoined
import GoSem.ClaimMapViews
import Derived.JoinedTies
import Derived.KernelRfl
namespace Go.Proofs.Qxb6605414a
/- THE CELL 'sum', in the pinned program and in every row, IS THE sha256 OF THE DUMP (.gsa) THAT Qxb6605414aProg.lean LOADS. Nothing in Lean hashes anything: it is a label: what it is worth is what the hold of that sum in a sandbox is worth. -/
noncomputable def Try.pinned : Pinned := { name := "qxb6605414a", sum := "2ae4652696468899303c6da4b2839a6f6d2d5d31c6dcbbf20c12a3495dc444e9", checked := Try.checked }
namespace Rows
def none {H : Type} : Left H := { results := [], args := [] }

/-- 'zzlaws_resource_b1.FnLeadingDigitsSplitsAtFirstNonDigit': WHATEVER THE INPUT: true; the input reads as it did. -/
def fnLeadingDigitsSplitsAtFirstNonDigitSpec : ChangeSpec := { name := "fnLeadingDigitsSplitsAtFirstNonDigit", fn := fun _ => fun
  | [d] => { results := [.lit (.bool true)], args := [d] }
  | _ => none }
def fnLeadingDigitsSplitsAtFirstNonDigitRow : OpenClaim := { program := "qxb6605414a", sum := "2ae4652696468899303c6da4b2839a6f6d2d5d31c6dcbbf20c12a3495dc444e9", func := "example.com/weir2/weir2/zzlaws_resource_b1.FnLeadingDigitsSplitsAtFirstNonDigit", spec := "fnLeadingDigitsSplitsAtFirstNonDigit", apart := false }
def FnLeadingDigitsSplitsAtFirstNonDigitSaid : Prop := fnLeadingDigitsSplitsAtFirstNonDigitRow.holds Try.pinned (OpenSpec.ofChange fnLeadingDigitsSplitsAtFirstNonDigitSpec)

/-- ITS FALSE NEIGHBOUR: 'it returns false'. Refute it at one input. -/
def fnLeadingDigitsSplitsAtFirstNonDigitWrong : ChangeSpec := { name := "fnLeadingDigitsSplitsAtFirstNonDigit", fn := fun _ => fun
  | [d] => { results := [.lit (.bool false)], args := [d] }
  | _ => none }
def FnLeadingDigitsSplitsAtFirstNonDigitWrongFalsely : Prop := fnLeadingDigitsSplitsAtFirstNonDigitRow.holds Try.pinned (OpenSpec.ofChange fnLeadingDigitsSplitsAtFirstNonDigitWrong)

end Rows
end Go.Proofs.Qxb6605414a
