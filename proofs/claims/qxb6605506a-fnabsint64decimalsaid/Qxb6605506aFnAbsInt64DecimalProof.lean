/- The proof of Rows.FnAbsInt64DecimalSaid: the frame is the guide's template for this function, the walk and the lemmas under it are typed by an AI agent. -/
import Derived.Test.Qxb6605506aRows
import Derived.WalkKit
import Derived.ProofKit
import Derived.OpenShut
import Derived.ShutString
import Derived.Test.Qxb6605506aDigits
import Derived.WalkLawsBesides
namespace Go.Proofs.Qxb6605506a.fnAbsInt64Decimal
open Go.ChangeShapes Go.WideShapes Go.ChangeAt Go.RowKit
open Go.ChangeMaps (open_string shut_string)
set_option linter.unusedVariables false      -- a walk need not use every 'w<i>' (that an integer argument fits its kind)

theorem own : ownKnob Try.prog.godebug = none := by kernel_rfl

theorem ret_same {S T : ByteArray} (h : S.data.toList = T.data.toList) : Ending.returned (.bool (S.toList == T.toList)) = .returned (.bool true) := by
  rw [ByteArray.toList_eq, ByteArray.toList_eq, h]
  simp

/-! ### The walk -/
theorem walk (a0 : Int) (w0 : (Lit.int .i64 a0).wf = true) (w : World) :
    Calls Try.prog 3 #[.int .i64 a0] w fun e w' => e = .returned (.bool true) ∧ Below w.heap.size w w' := by
  obtain ⟨b0, b1⟩ := bounds_i64 w0
  have hm : a0.natAbs ≤ 9223372036854775808 := by omega
  go_enter Try.func3, Try.ntmps3
  go_wp2_with (first
    | (go_at_call 4; refine (abs_any a0 b0 b1 _).mono ?_; rintro e w' ⟨rfl, rfl⟩)
    | (go_at_call 5; refine (utoa_any a0.natAbs hm _).mono ?_; rintro e w1 ⟨S, HS, rfl, hb1⟩)
    | (go_at_call 6; refine (mag_any a0 b0 b1 _).mono ?_; rintro e w2 ⟨T, HT, rfl, hb2⟩))
  go_ret
  exact ⟨ret_same (HS.out.trans HT.out.symm), hb1.trans (hb2.mono (by have := hb1.size; omega))⟩

/-! ### The row's step -/
set_option maxRecDepth 100000 in
theorem lifted (os : Os) (started : os.Started) (H : Type) (enc : TypeId × Value → H) :
    ReturnsInHanded {} Try.checked os 3 .any (Rows.fnAbsInt64DecimalSpec.pre6 enc Try.prog Try.f3 Rows.fnAbsInt64DecimalRow.domain false) (Rows.fnAbsInt64DecimalSpec.post enc Try.prog Try.f3 false true false false) := by
  refine returnsInHanded_of_change (C := Try.checked) own started (by kernel_rfl) Try.func3
    (ChangeSpec.witness6 (enc := enc) (C := Try.checked) false ⟨#[], #[.int .i64 0], []⟩ 8 (by kernel_rfl) (by kernel_rfl) (by kernel_rfl) (by kernel_rfl)) ?_
  intro W base args ds gs before hval0 hW hcnd _
  have hval : ∀ (j : Nat) t v, Try.f3.params[j]? = some t → args[j]? = some v → Value.okWide Try.prog W .any base t v := hval0
  have hW' := hW
  obtain ⟨p, q, hA0, hV, rfl, hfz, hnd⟩ := hW
  have hA : DataW.TrodAll enc Try.prog W 0 (fun _ => true) true Try.f3.params.toList args.toList ds p := hA0
  rw [Try.params3] at hA hval
  obtain ⟨v0, vs0, d0, ds0, p0, q0, hargs, rfl, rfl, h0, r0⟩ := trodAll_cons hA
  obtain ⟨rfl, rfl, rfl⟩ := trodAll_nil r0
  obtain rfl : args = #[v0] := by cases args; simp_all
  obtain ⟨rfl, rfl⟩ := trodVars_none hV
  obtain ⟨a0, rfl, rfl, rfl, w0⟩ := open_int Try.underlying2 (hval 0 2 v0 rfl rfl) h0
  clear hA0 hval0
  simp only [List.append_nil] at hW'
  refine (walk a0 w0 W).mono fun e W' ⟨he, hg⟩ => ?_
  subst he
  exact ⟨_, rfl, _, _, _, [], [], [], hW', trodAll_mk1 (shut_bool Try.underlying4 true), trodAll_mk1 (shut_int Try.underlying2 w0), rfl, hg.frame _, fun h => by cases h⟩

theorem over : Rows.fnAbsInt64DecimalRow.holds Try.pinned (OpenSpec.ofChange Rows.fnAbsInt64DecimalSpec) :=
  OpenClaim.holds_of_wide 3 Try.f3 rfl rfl rfl rfl rfl rfl rfl ⟨rfl, rfl, rfl, rfl, rfl⟩ rfl rfl rfl rfl rfl (by kernel_rfl) Try.func3 (by kernel_rfl)
    (of_decide_eq_true (by kernel_rfl)) (by unfold Func.isWrapper; first | (rw [if_pos (by decide +kernel)]; kernel_rfl) | (rw [if_neg (by decide +kernel)]; exact ⟨rfl, rfl⟩))
    (fun os started H enc _ => lifted os started H enc)

end Go.Proofs.Qxb6605506a.fnAbsInt64Decimal

namespace Go.Proofs.Qxb6605506a
/-- The statement. -/
theorem fnAbsInt64Decimal_proved : Rows.FnAbsInt64DecimalSaid := fnAbsInt64Decimal.over
end Go.Proofs.Qxb6605506a
