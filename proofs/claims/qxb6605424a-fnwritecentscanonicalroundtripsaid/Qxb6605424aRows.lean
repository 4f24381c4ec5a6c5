/-
  No cell of these rows narrows 'for every input' (looked for: loops, veiled, ifaces, maps, wideKeys, modest, calm, conditions, laid).
  DERIVED. THE GIVEN ROWS OF THIS SEAT. 4 by the template 'for every input the law returns true; each argument reads behind the call as it read before'; 0 by the template 'total and deterministic' (their statements: Qxb6605424aTotals.lean).
  GIVEN WITH THE SEED: the statements are not yours to turn. If you find one false, say at which input.
  Laid BY PROGRAM, IN A SANDBOX (cutbox-rows.mjs): the forced cells as the released guide's own fill.sh prints them over the translation 60273506553964da… (all of the seat's roots in one cut). By AI agents, Wed Nov 11 2026. No macro, syntax, notation, axiom, sorry.
-/
import Derived.Test.Qxb6605424aChecked
import GoSem.Claim
import GoSem.ClaimJoined
import GoSem.ClaimMapViews
import Derived.JoinedTies
import Derived.KernelRfl
namespace Go.Proofs.Qxb6605424a
/- THE CELL 'sum', in the pinned program and in every row, IS THE sha256 OF THE DUMP (.gsa) THAT Qxb6605424aProg.lean LOADS. Nothing in Lean hashes anything: it is a label: what it is worth is what the hold of that sum in a sandbox is worth. -/
noncomputable def Try.pinned : Pinned := { name := "qxb6605424a", sum := "60273506553964dac2b2fce955096d5782762d02a03e95421ea53210302c628c", checked := Try.checked }
namespace Rows
def none {H : Type} : Left H := { results := [], args := [] }

/-- 'zzlaws_figure_b1.FnWriteCentsCanonicalRoundTrip': WHATEVER THE INPUT: true; the input reads as it did. -/
def fnWriteCentsCanonicalRoundTripSpec : ChangeSpec := { name := "fnWriteCentsCanonicalRoundTrip", fn := fun _ => fun
  | [d] => { results := [.lit (.bool true)], args := [d] }
  | _ => none }
def fnWriteCentsCanonicalRoundTripRow : OpenClaim := { program := "qxb6605424a", sum := "60273506553964dac2b2fce955096d5782762d02a03e95421ea53210302c628c", func := "example.com/grantbook/grantbook/zzlaws_figure_b1.FnWriteCentsCanonicalRoundTrip", spec := "fnWriteCentsCanonicalRoundTrip", apart := false }
def FnWriteCentsCanonicalRoundTripSaid : Prop := fnWriteCentsCanonicalRoundTripRow.holds Try.pinned (OpenSpec.ofChange fnWriteCentsCanonicalRoundTripSpec)

/-- ITS FALSE NEIGHBOUR: 'it returns false'. Refute it at one input. -/
def fnWriteCentsCanonicalRoundTripWrong : ChangeSpec := { name := "fnWriteCentsCanonicalRoundTrip", fn := fun _ => fun
  | [d] => { results := [.lit (.bool false)], args := [d] }
  | _ => none }
def FnWriteCentsCanonicalRoundTripWrongFalsely : Prop := fnWriteCentsCanonicalRoundTripRow.holds Try.pinned (OpenSpec.ofChange fnWriteCentsCanonicalRoundTripWrong)

/-- 'zzlaws_figure_b1.FnWriteCentsSignSymmetry': WHATEVER THE INPUT: true; the input reads as it did. -/
def fnWriteCentsSignSymmetrySpec : ChangeSpec := { name := "fnWriteCentsSignSymmetry", fn := fun _ => fun
  | [d] => { results := [.lit (.bool true)], args := [d] }
  | _ => none }
def fnWriteCentsSignSymmetryRow : OpenClaim := { program := "qxb6605424a", sum := "60273506553964dac2b2fce955096d5782762d02a03e95421ea53210302c628c", func := "example.com/grantbook/grantbook/zzlaws_figure_b1.FnWriteCentsSignSymmetry", spec := "fnWriteCentsSignSymmetry", apart := false }
def FnWriteCentsSignSymmetrySaid : Prop := fnWriteCentsSignSymmetryRow.holds Try.pinned (OpenSpec.ofChange fnWriteCentsSignSymmetrySpec)

/-- ITS FALSE NEIGHBOUR: 'it returns false'. Refute it at one input. -/
def fnWriteCentsSignSymmetryWrong : ChangeSpec := { name := "fnWriteCentsSignSymmetry", fn := fun _ => fun
  | [d] => { results := [.lit (.bool false)], args := [d] }
  | _ => none }
def FnWriteCentsSignSymmetryWrongFalsely : Prop := fnWriteCentsSignSymmetryRow.holds Try.pinned (OpenSpec.ofChange fnWriteCentsSignSymmetryWrong)

/-- 'zzlaws_figure_b1.FnAbsoluteBranchFree': WHATEVER THE INPUT: true; the input reads as it did. -/
def fnAbsoluteBranchFreeSpec : ChangeSpec := { name := "fnAbsoluteBranchFree", fn := fun _ => fun
  | [d] => { results := [.lit (.bool true)], args := [d] }
  | _ => none }
def fnAbsoluteBranchFreeRow : OpenClaim := { program := "qxb6605424a", sum := "60273506553964dac2b2fce955096d5782762d02a03e95421ea53210302c628c", func := "example.com/grantbook/grantbook/zzlaws_figure_b1.FnAbsoluteBranchFree", spec := "fnAbsoluteBranchFree", apart := false }
def FnAbsoluteBranchFreeSaid : Prop := fnAbsoluteBranchFreeRow.holds Try.pinned (OpenSpec.ofChange fnAbsoluteBranchFreeSpec)

/-- ITS FALSE NEIGHBOUR: 'it returns false'. Refute it at one input. -/
def fnAbsoluteBranchFreeWrong : ChangeSpec := { name := "fnAbsoluteBranchFree", fn := fun _ => fun
  | [d] => { results := [.lit (.bool false)], args := [d] }
  | _ => none }
def FnAbsoluteBranchFreeWrongFalsely : Prop := fnAbsoluteBranchFreeRow.holds Try.pinned (OpenSpec.ofChange fnAbsoluteBranchFreeWrong)

/-- 'zzlaws_figure_b1.FnAbsoluteEvenAndMultiplicative': WHATEVER THE INPUT: true; the input reads as it did. -/
def fnAbsoluteEvenAndMultiplicativeSpec : ChangeSpec := { name := "fnAbsoluteEvenAndMultiplicative", fn := fun _ => fun
  | [d1, d2] => { results := [.lit (.bool true)], args := [d1, d2] }
  | _ => none }
def fnAbsoluteEvenAndMultiplicativeRow : OpenClaim := { program := "qxb6605424a", sum := "60273506553964dac2b2fce955096d5782762d02a03e95421ea53210302c628c", func := "example.com/grantbook/grantbook/zzlaws_figure_b1.FnAbsoluteEvenAndMultiplicative", spec := "fnAbsoluteEvenAndMultiplicative", apart := false }
def FnAbsoluteEvenAndMultiplicativeSaid : Prop := fnAbsoluteEvenAndMultiplicativeRow.holds Try.pinned (OpenSpec.ofChange fnAbsoluteEvenAndMultiplicativeSpec)

/-- ITS FALSE NEIGHBOUR: 'it returns false'. Refute it at one input. -/
def fnAbsoluteEvenAndMultiplicativeWrong : ChangeSpec := { name := "fnAbsoluteEvenAndMultiplicative", fn := fun _ => fun
  | [d1, d2] => { results := [.lit (.bool false)], args := [d1, d2] }
  | _ => none }
def FnAbsoluteEvenAndMultiplicativeWrongFalsely : Prop := fnAbsoluteEvenAndMultiplicativeRow.holds Try.pinned (OpenSpec.ofChange fnAbsoluteEvenAndMultiplicativeWrong)

end Rows
end Go.Proofs.Qxb6605424a
