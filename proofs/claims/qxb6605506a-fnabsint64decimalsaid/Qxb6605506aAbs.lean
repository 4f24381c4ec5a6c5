/- The contract of absInt64 and ZZabsInt64 at this dump. -/
import Derived.Test.Qxb6605506aRows
import Derived.WalkKit
import Derived.ProofKit
import Derived.OpenShut
import Derived.ShutString
import Derived.Lib.Hide
namespace Go.Proofs.Qxb6605506a
open Go.ChangeShapes Go.WideShapes Go.ChangeAt Go.RowKit
set_option linter.unusedVariables false

theorem ret_int {k : IntKind} {a b : Int} (h : a = b) : Ending.returned (.int k a) = .returned (.int k b) := by rw [h]

theorem wrap_min : IntKind.u64.wrap (wrap64 9223372036854775808) = (((-9223372036854775808 : Int).natAbs : Nat) : Int) := by
  rw [IntKind.wrap_u64]
  unfold wrap64
  omega

theorem abs_inner (x : Int) (h0 : -9223372036854775808 ≤ x) (h1 : x ≤ 9223372036854775807) (w : World) :
    Calls Try.prog 7 #[.int .i64 x] w fun e w' => e = .returned (.int .u64 (x.natAbs : Int)) ∧ w' = w := by
  by_cases hmin : x = -9223372036854775808
  · subst hmin
    go_enter Try.func7, Try.ntmps7
    go_wp2
    go_ret
    exact ⟨ret_int wrap_min, rfl⟩
  · by_cases h : x < 0
    · have hlo : -9223372036854775807 ≤ x := by omega
      clear hmin
      go_enter Try.func7, Try.ntmps7
      go_wp2
      go_ret
      exact ⟨ret_int (by omega), rfl⟩
    · clear hmin
      go_enter Try.func7, Try.ntmps7
      go_wp2
      go_ret
      exact ⟨ret_int (by omega), rfl⟩

theorem abs_any (x : Int) (h0 : -9223372036854775808 ≤ x) (h1 : x ≤ 9223372036854775807) (w : World) :
    Calls Try.prog 4 #[.int .i64 x] w fun e w' => e = .returned (.int .u64 (x.natAbs : Int)) ∧ w' = w := by
  go_enter Try.func4, Try.ntmps4
  go_wp2_with (go_at_call 7; refine (abs_inner x h0 h1 _).mono ?_; rintro e w' ⟨rfl, rfl⟩)
  go_ret
  exact ⟨rfl, rfl⟩

end Go.Proofs.Qxb6605506a
