/- The proof of Rows.FnLeadingDigitsSplitsAtFirstNonDigitSaid: the frame is the guide's template for this function, the walk and the lemmas under it are typed by an AI agent. -/
import Derived.Test.Qxb6605414aRows
import Derived.WalkKit
import Derived.ProofKit
import Derived.OpenShut
import Derived.ShutString
import Derived.Test.Qxb6605414aWalks
import Derived.Lib.Hide
namespace Go.Proofs.Qxb6605414a.fnLeadingDigitsSplitsAtFirstNonDigit
open Go.ChangeShapes Go.WideShapes Go.ChangeAt Go.RowKit
open Go.ChangeMaps (open_string shut_string)
set_option linter.unusedVariables false      -- a walk need not use every 'w<i>' (that an integer argument fits its kind)

theorem own : ownKnob Try.prog.godebug = none := by kernel_rfl

/-! ### The walk -/
theorem walk (a0 : ByteArray) (w0 : a0.size ≤ maxLen) (w : World) :
    Calls Try.prog 3 #[.string a0] w fun e w' => e = .returned (.bool true) ∧ Grown w w' := by
  unfold maxLen at w0
  by_cases hbig : 1048576 < a0.size
  · go_enter Try.func3, Try.ntmps3
    go_wp2_with (go_at_call 4; refine (bytes_large a0 _ hbig w0).mono ?_; rintro e w' ⟨rfl, rfl⟩)
    go_ret
    exact ⟨rfl, Grown.refl _⟩
  · have hle : a0.size ≤ 1048576 := by omega
    go_enter Try.func3, Try.ntmps3
    go_wp2_with (first | (go_at_call 4; refine (bytes_small a0 _ hle).mono ?_; rintro e w' ⟨rfl, rfl⟩) | (go_at_call 5; refine (zzld_abs a0 _ w0).mono ?_; rintro e w' ⟨D, R, H, rfl, nq, rfl⟩; refine Hid.out ?_))
    refine Lib.hid ?_
    obtain ⟨eqs, hD, hR, hdig, hrest⟩ := H
    have e1 : ((D.size : Int) + (R.size : Int) != (a0.size : Int)) = false := by simp; omega
    have l1 : D.size + R.size ≤ a0.size := by omega
    have l2 : a0.size ≤ D.size + R.size := by omega
    clear eqs
    have HD := Lib.hid hD
    have HR := Lib.hid hR
    have HG := Lib.hid hdig
    have HZ := Lib.hid hrest
    clear hD hR hdig hrest
    go_wp2
    go_loop [5] (fun i => ∃ k : Nat, k ≤ a0.size ∧ i = .int .i64 k) (fun i => a0.size - (intOf i).toNat)
    case atStart => exact ⟨0, Nat.zero_le _, rfl⟩
    case round =>
      obtain ⟨k, hk, rfl⟩ := hrel
      by_cases hlt : k < a0.size
      · by_cases hkD : k < D.size
        · have e2 : ((D[k].toNat : Int) != (a0[k].toNat : Int)) = false := by rw [HD.out k hkD hlt]; simp
          go_wp2
          go_round
          case rel => exact ⟨k + 1, by omega, by go_num⟩
          case measure => simp [intOf]; omega
        · obtain ⟨j, rfl⟩ : ∃ j, k = D.size + j := ⟨k - D.size, by omega⟩
          have hj : j < R.size := by omega
          have e2 : ((R[j].toNat : Int) != (a0[D.size + j].toNat : Int)) = false := by rw [HR.out j hj hlt]; simp
          go_wp2
          go_round
          case rel => exact ⟨D.size + j + 1, by omega, by go_num⟩
          case measure => simp [intOf]; omega
      · go_wp2
        go_loop [7] (fun i => ∃ k : Nat, k ≤ D.size ∧ i = .int .i64 k) (fun i => D.size - (intOf i).toNat)
        case atStart => exact ⟨0, Nat.zero_le _, rfl⟩
        case round =>
          obtain ⟨m, hm, rfl⟩ := hrel
          by_cases hmD : m < D.size
          · have HM := Lib.hid (HG.out m hmD)
            go_wp2_with (go_at_call 6; refine (isdig_any _ _).mono ?_; rintro e w' ⟨rfl, rfl⟩; rw [HM.out])
            go_round
            case rel => exact ⟨m + 1, by omega, by go_num⟩
            case measure => simp [intOf]; omega
          · by_cases hR0 : 0 < R.size
            · have HM := Lib.hid (HZ.out hR0)
              go_wp2_with (go_at_call 6; refine (isdig_any _ _).mono ?_; rintro e w' ⟨rfl, rfl⟩; rw [HM.out])
              go_ret
              exact ⟨rfl, Grown.refl _⟩
            · go_wp2
              go_ret
              exact ⟨rfl, Grown.refl _⟩

/-! ### The row's step -/
set_option maxRecDepth 100000 in
theorem lifted (os : Os) (started : os.Started) (H : Type) (enc : TypeId × Value → H) :
    ReturnsInHanded {} Try.checked os 3 .any (Rows.fnLeadingDigitsSplitsAtFirstNonDigitSpec.pre6 enc Try.prog Try.f3 Rows.fnLeadingDigitsSplitsAtFirstNonDigitRow.domain false) (Rows.fnLeadingDigitsSplitsAtFirstNonDigitSpec.post enc Try.prog Try.f3 false true false false) := by
  refine returnsInHanded_of_change (C := Try.checked) own started (by kernel_rfl) Try.func3
    (ChangeSpec.witness6 (enc := enc) (C := Try.checked) false ⟨#[], #[.string ByteArray.empty], []⟩ 8 (by kernel_rfl) (by kernel_rfl) (by kernel_rfl) (by kernel_rfl)) ?_
  intro W base args ds gs before hval0 hW hcnd _
  have hval : ∀ (j : Nat) t v, Try.f3.params[j]? = some t → args[j]? = some v → Value.okWide Try.prog W .any base t v := hval0
  have hW' := hW
  obtain ⟨p, q, hA0, hV, rfl, hfz, hnd⟩ := hW
  have hA : DataW.TrodAll enc Try.prog W 0 (fun _ => true) true Try.f3.params.toList args.toList ds p := hA0
  rw [Try.params3] at hA hval
  obtain ⟨v0, vs0, d0, ds0, p0, q0, hargs, rfl, rfl, h0, r0⟩ := trodAll_cons hA
  obtain ⟨rfl, rfl, rfl⟩ := trodAll_nil r0
  obtain rfl : args = #[v0] := by cases args; simp_all
  obtain ⟨rfl, rfl⟩ := trodVars_none hV
  obtain ⟨a0, rfl, rfl, rfl, w0⟩ := open_string Try.underlying9 (hval 0 9 v0 rfl rfl) h0
  clear hA0 hval0
  simp only [List.append_nil] at hW'
  refine (walk a0 w0 W).mono fun e W' ⟨he, hg⟩ => ?_
  subst he
  exact ⟨_, rfl, post_of_same (pa := []) (pv := []) hW' (fun _ _ _ => (trodAll_cons_mk (shut_bool Try.underlying4 _) trodAll_mk0)) (fun sp _ => (trodAll_cons_mk (shut_string Try.underlying9 w0) trodAll_mk0)) (fun _ _ => rfl) rfl
    (hg.frame _) hg.2.1 (ok_one (by kernel_rfl) rfl (okWide_bool_mk Try.underlying4 _))⟩

theorem over : Rows.fnLeadingDigitsSplitsAtFirstNonDigitRow.holds Try.pinned (OpenSpec.ofChange Rows.fnLeadingDigitsSplitsAtFirstNonDigitSpec) :=
  OpenClaim.holds_of_wide 3 Try.f3 rfl rfl rfl rfl rfl rfl rfl ⟨rfl, rfl, rfl, rfl, rfl⟩ rfl rfl rfl rfl rfl (by kernel_rfl) Try.func3 (by kernel_rfl)
    (of_decide_eq_true (by kernel_rfl)) (by unfold Func.isWrapper; first | (rw [if_pos (by decide +kernel)]; kernel_rfl) | (rw [if_neg (by decide +kernel)]; exact ⟨rfl, rfl⟩))
    (fun os started H enc _ => lifted os started H enc)

end Go.Proofs.Qxb6605414a.fnLeadingDigitsSplitsAtFirstNonDigit

namespace Go.Proofs.Qxb6605414a
/-- The statement. -/
theorem fnLeadingDigitsSplitsAtFirstNonDigit_proved : Rows.FnLeadingDigitsSplitsAtFirstNonDigitSaid := fnLeadingDigitsSplitsAtFirstNonDigit.over
end Go.Proofs.Qxb6605414a
