/- The proof of Rows.FnAbsoluteEvenAndMultiplicativeSaid: the frame is the guide's template for this function, the walk and the lemmas under it are typed by an AI agent. -/
import Derived.Test.Qxb6605424aRows
import Derived.WalkKit
import Derived.ProofKit
import Derived.OpenShut
import Derived.ShutString
import Derived.Test.Qxb6605424aAbs
namespace Go.Proofs.Qxb6605424a.fnAbsoluteEvenAndMultiplicative
open Go.ChangeShapes Go.WideShapes Go.ChangeAt Go.RowKit
open Go.ChangeMaps (open_string shut_string)
set_option linter.unusedVariables false      -- a walk need not use every 'w<i>' (that an integer argument fits its kind)

theorem own : ownKnob Try.prog.godebug = none := by kernel_rfl

theorem zero_same (x a : Int) (h : a = (x.natAbs : Int)) : (!((a == 0) == (x == 0))) = false := by
  have : (a == 0) = (x == 0) := by
    rw [Bool.eq_iff_iff]
    simp
    omega
  simp [this]
theorem neq_of (x y : Int) (h : x = y) : (x != y) = false := by simp [h]

theorem mul_facts (x y ax ay : Int) (h1 : -2147483647 ≤ x) (h2 : x ≤ 2147483647) (h3 : -2147483647 ≤ y) (h4 : y ≤ 2147483647) (hx : ax = (x.natAbs : Int)) (hy : ay = (y.natAbs : Int)) :
    Hid (((wrap64 (x * y)).natAbs : Int) = ax * ay) ∧ 0 ≤ ax * ay ∧ ax * ay ≤ 4611686014132420609 := by
  have e : ((x * y).natAbs : Int) = ax * ay := by rw [hx, hy, Int.natAbs_mul]; simp
  have b : (x * y).natAbs ≤ 2147483647 * 2147483647 := by
    rw [Int.natAbs_mul]
    exact Nat.mul_le_mul (by omega) (by omega)
  have hw : wrap64 (x * y) = x * y := by unfold wrap64; omega
  refine ⟨?_, by omega, by omega⟩
  show ((wrap64 (x * y)).natAbs : Int) = ax * ay
  rw [hw, e]

/-! ### The walk -/
theorem walk_small (a0 a1 : Int) (b0 : -9223372036854775808 ≤ a0) (b1 : a0 ≤ 9223372036854775807) (c0 : -9223372036854775808 ≤ a1) (c1 : a1 ≤ 9223372036854775807) (l1 : -2147483647 ≤ a0) (l2 : a0 ≤ 2147483647) (l3 : -2147483647 ≤ a1) (l4 : a1 ≤ 2147483647) (w : World) :
    Calls Try.prog 6 #[.int .i64 a0, .int .i64 a1] w fun e w' => e = .returned (.bool true) ∧ Grown w w' := by
  have e0 : (a0 == -9223372036854775808) = false := by rw [beq_eq_false_iff_ne]; omega
  go_enter Try.func6, Try.ntmps6
  go_wp2_with (go_at_call 8; refine (abs_named a0 b0 b1 _).mono ?_; rintro e w' ⟨ax, HX, rfl, rfl⟩; refine Hid.out ?_)
  refine Lib.hid ?_
  go_wp2_with (go_at_call 8; refine (abs_named a1 c0 c1 _).mono ?_; rintro e w' ⟨ay, HY, rfl, rfl⟩; refine Hid.out ?_)
  refine Lib.hid ?_
  have x0 : 0 ≤ ax := by rw [HX.out]; omega
  have x1 : ax ≤ 2147483647 := by rw [HX.out]; omega
  have y0 : 0 ≤ ay := by rw [HY.out]; omega
  have y1 : ay ≤ 2147483647 := by rw [HY.out]; omega
  have e1 := zero_same a0 ax HX.out
  go_wp2_with (go_at_call 8; refine (abs_named (-a0) (by omega) (by omega) _).mono ?_; rintro e w' ⟨az, HZ, rfl, rfl⟩; refine Hid.out ?_)
  refine Lib.hid ?_
  have e2 : (az != ax) = false := neq_of _ _ (by have h1 := HX.out; have h2 := HZ.out; omega)
  obtain ⟨HM, m0, m1⟩ := mul_facts a0 a1 ax ay l1 l2 l3 l4 HX.out HY.out
  go_wp2_with (go_at_call 8; refine (abs_named (wrap64 (a0 * a1)) (by unfold wrap64; omega) (by unfold wrap64; omega) _).mono ?_; rintro e w' ⟨am, HAM, rfl, rfl⟩; refine Hid.out ?_)
  refine Lib.hid ?_
  have e3 : (am != ax * ay) = false := neq_of _ _ (HAM.out.trans HM.out)
  go_wp2_with (go_at_call 8; refine (abs_named (a0 + a1) (by omega) (by omega) _).mono ?_; rintro e w' ⟨asum, HAS, rfl, rfl⟩; refine Hid.out ?_)
  refine Lib.hid ?_
  have hs : asum ≤ ax + ay := by rw [HAS.out, HX.out, HY.out]; omega
  go_wp2
  go_ret
  exact ⟨rfl, Grown.refl _⟩

theorem walk_x_low (a0 a1 : Int) (b0 : -9223372036854775808 ≤ a0) (b1 : a0 ≤ 9223372036854775807) (c0 : -9223372036854775808 ≤ a1) (c1 : a1 ≤ 9223372036854775807) (hlo : -9223372036854775807 ≤ a0) (l1 : a0 < -2147483647) (w : World) :
    Calls Try.prog 6 #[.int .i64 a0, .int .i64 a1] w fun e w' => e = .returned (.bool true) ∧ Grown w w' := by
  have e0 : (a0 == -9223372036854775808) = false := by rw [beq_eq_false_iff_ne]; omega
  go_enter Try.func6, Try.ntmps6
  go_wp2_with (go_at_call 8; refine (abs_named a0 b0 b1 _).mono ?_; rintro e w' ⟨ax, HX, rfl, rfl⟩; refine Hid.out ?_)
  refine Lib.hid ?_
  go_wp2_with (go_at_call 8; refine (abs_named a1 c0 c1 _).mono ?_; rintro e w' ⟨ay, HY, rfl, rfl⟩; refine Hid.out ?_)
  refine Lib.hid ?_
  have x0 : 0 ≤ ax := by rw [HX.out]; omega
  have x1 : ax ≤ 9223372036854775807 := by rw [HX.out]; omega
  have y0 : 0 ≤ ay := by rw [HY.out]; omega
  have y1 : ay ≤ 9223372036854775808 := by rw [HY.out]; omega
  have e1 := zero_same a0 ax HX.out
  go_wp2_with (go_at_call 8; refine (abs_named (-a0) (by omega) (by omega) _).mono ?_; rintro e w' ⟨az, HZ, rfl, rfl⟩; refine Hid.out ?_)
  refine Lib.hid ?_
  have e2 : (az != ax) = false := neq_of _ _ (by have h1 := HX.out; have h2 := HZ.out; omega)
  go_wp2_with (go_at_call 8; refine (abs_named (a0 + a1) (by omega) (by omega) _).mono ?_; rintro e w' ⟨asum, HAS, rfl, rfl⟩; refine Hid.out ?_)
  all_goals first
    | (go_ret; exact ⟨rfl, Grown.refl _⟩)
    | (refine Lib.hid ?_
       have x2 : ax ≤ 4611686018427387903 := by rw [HX.out]; omega
       have y2 : ay ≤ 4611686018427387903 := by rw [HY.out]; omega
       have hs : asum ≤ ax + ay := by rw [HAS.out, HX.out, HY.out]; omega
       go_wp2
       go_ret
       exact ⟨rfl, Grown.refl _⟩)

theorem walk_x_high (a0 a1 : Int) (b0 : -9223372036854775808 ≤ a0) (b1 : a0 ≤ 9223372036854775807) (c0 : -9223372036854775808 ≤ a1) (c1 : a1 ≤ 9223372036854775807) (hlo : -9223372036854775807 ≤ a0) (l1 : -2147483647 ≤ a0) (l2 : 2147483647 < a0) (w : World) :
    Calls Try.prog 6 #[.int .i64 a0, .int .i64 a1] w fun e w' => e = .returned (.bool true) ∧ Grown w w' := by
  have e0 : (a0 == -9223372036854775808) = false := by rw [beq_eq_false_iff_ne]; omega
  go_enter Try.func6, Try.ntmps6
  go_wp2_with (go_at_call 8; refine (abs_named a0 b0 b1 _).mono ?_; rintro e w' ⟨ax, HX, rfl, rfl⟩; refine Hid.out ?_)
  refine Lib.hid ?_
  go_wp2_with (go_at_call 8; refine (abs_named a1 c0 c1 _).mono ?_; rintro e w' ⟨ay, HY, rfl, rfl⟩; refine Hid.out ?_)
  refine Lib.hid ?_
  have x0 : 0 ≤ ax := by rw [HX.out]; omega
  have x1 : ax ≤ 9223372036854775807 := by rw [HX.out]; omega
  have y0 : 0 ≤ ay := by rw [HY.out]; omega
  have y1 : ay ≤ 9223372036854775808 := by rw [HY.out]; omega
  have e1 := zero_same a0 ax HX.out
  go_wp2_with (go_at_call 8; refine (abs_named (-a0) (by omega) (by omega) _).mono ?_; rintro e w' ⟨az, HZ, rfl, rfl⟩; refine Hid.out ?_)
  refine Lib.hid ?_
  have e2 : (az != ax) = false := neq_of _ _ (by have h1 := HX.out; have h2 := HZ.out; omega)
  go_wp2_with (go_at_call 8; refine (abs_named (a0 + a1) (by omega) (by omega) _).mono ?_; rintro e w' ⟨asum, HAS, rfl, rfl⟩; refine Hid.out ?_)
  all_goals first
    | (go_ret; exact ⟨rfl, Grown.refl _⟩)
    | (refine Lib.hid ?_
       have x2 : ax ≤ 4611686018427387903 := by rw [HX.out]; omega
       have y2 : ay ≤ 4611686018427387903 := by rw [HY.out]; omega
       have hs : asum ≤ ax + ay := by rw [HAS.out, HX.out, HY.out]; omega
       go_wp2
       go_ret
       exact ⟨rfl, Grown.refl _⟩)

theorem walk_y_low (a0 a1 : Int) (b0 : -9223372036854775808 ≤ a0) (b1 : a0 ≤ 9223372036854775807) (c0 : -9223372036854775808 ≤ a1) (c1 : a1 ≤ 9223372036854775807) (hlo : -9223372036854775807 ≤ a0) (l1 : -2147483647 ≤ a0) (l2 : a0 ≤ 2147483647) (l3 : a1 < -2147483647) (w : World) :
    Calls Try.prog 6 #[.int .i64 a0, .int .i64 a1] w fun e w' => e = .returned (.bool true) ∧ Grown w w' := by
  have e0 : (a0 == -9223372036854775808) = false := by rw [beq_eq_false_iff_ne]; omega
  go_enter Try.func6, Try.ntmps6
  go_wp2_with (go_at_call 8; refine (abs_named a0 b0 b1 _).mono ?_; rintro e w' ⟨ax, HX, rfl, rfl⟩; refine Hid.out ?_)
  refine Lib.hid ?_
  go_wp2_with (go_at_call 8; refine (abs_named a1 c0 c1 _).mono ?_; rintro e w' ⟨ay, HY, rfl, rfl⟩; refine Hid.out ?_)
  refine Lib.hid ?_
  have x0 : 0 ≤ ax := by rw [HX.out]; omega
  have x1 : ax ≤ 9223372036854775807 := by rw [HX.out]; omega
  have y0 : 0 ≤ ay := by rw [HY.out]; omega
  have y1 : ay ≤ 9223372036854775808 := by rw [HY.out]; omega
  have e1 := zero_same a0 ax HX.out
  go_wp2_with (go_at_call 8; refine (abs_named (-a0) (by omega) (by omega) _).mono ?_; rintro e w' ⟨az, HZ, rfl, rfl⟩; refine Hid.out ?_)
  refine Lib.hid ?_
  have e2 : (az != ax) = false := neq_of _ _ (by have h1 := HX.out; have h2 := HZ.out; omega)
  go_wp2_with (go_at_call 8; refine (abs_named (a0 + a1) (by omega) (by omega) _).mono ?_; rintro e w' ⟨asum, HAS, rfl, rfl⟩; refine Hid.out ?_)
  all_goals first
    | (go_ret; exact ⟨rfl, Grown.refl _⟩)
    | (refine Lib.hid ?_
       have x2 : ax ≤ 4611686018427387903 := by rw [HX.out]; omega
       have y2 : ay ≤ 4611686018427387903 := by rw [HY.out]; omega
       have hs : asum ≤ ax + ay := by rw [HAS.out, HX.out, HY.out]; omega
       go_wp2
       go_ret
       exact ⟨rfl, Grown.refl _⟩)

theorem walk_y_high (a0 a1 : Int) (b0 : -9223372036854775808 ≤ a0) (b1 : a0 ≤ 9223372036854775807) (c0 : -9223372036854775808 ≤ a1) (c1 : a1 ≤ 9223372036854775807) (hlo : -9223372036854775807 ≤ a0) (l1 : -2147483647 ≤ a0) (l2 : a0 ≤ 2147483647) (l3 : -2147483647 ≤ a1) (l4 : 2147483647 < a1) (w : World) :
    Calls Try.prog 6 #[.int .i64 a0, .int .i64 a1] w fun e w' => e = .returned (.bool true) ∧ Grown w w' := by
  have e0 : (a0 == -9223372036854775808) = false := by rw [beq_eq_false_iff_ne]; omega
  go_enter Try.func6, Try.ntmps6
  go_wp2_with (go_at_call 8; refine (abs_named a0 b0 b1 _).mono ?_; rintro e w' ⟨ax, HX, rfl, rfl⟩; refine Hid.out ?_)
  refine Lib.hid ?_
  go_wp2_with (go_at_call 8; refine (abs_named a1 c0 c1 _).mono ?_; rintro e w' ⟨ay, HY, rfl, rfl⟩; refine Hid.out ?_)
  refine Lib.hid ?_
  have x0 : 0 ≤ ax := by rw [HX.out]; omega
  have x1 : ax ≤ 9223372036854775807 := by rw [HX.out]; omega
  have y0 : 0 ≤ ay := by rw [HY.out]; omega
  have y1 : ay ≤ 9223372036854775808 := by rw [HY.out]; omega
  have e1 := zero_same a0 ax HX.out
  go_wp2_with (go_at_call 8; refine (abs_named (-a0) (by omega) (by omega) _).mono ?_; rintro e w' ⟨az, HZ, rfl, rfl⟩; refine Hid.out ?_)
  refine Lib.hid ?_
  have e2 : (az != ax) = false := neq_of _ _ (by have h1 := HX.out; have h2 := HZ.out; omega)
  go_wp2_with (go_at_call 8; refine (abs_named (a0 + a1) (by omega) (by omega) _).mono ?_; rintro e w' ⟨asum, HAS, rfl, rfl⟩; refine Hid.out ?_)
  all_goals first
    | (go_ret; exact ⟨rfl, Grown.refl _⟩)
    | (refine Lib.hid ?_
       have x2 : ax ≤ 4611686018427387903 := by rw [HX.out]; omega
       have y2 : ay ≤ 4611686018427387903 := by rw [HY.out]; omega
       have hs : asum ≤ ax + ay := by rw [HAS.out, HX.out, HY.out]; omega
       go_wp2
       go_ret
       exact ⟨rfl, Grown.refl _⟩)

theorem walk_min (a1 : Int) (c0 : -9223372036854775808 ≤ a1) (c1 : a1 ≤ 9223372036854775807) (w : World) :
    Calls Try.prog 6 #[.int .i64 (-9223372036854775808), .int .i64 a1] w fun e w' => e = .returned (.bool true) ∧ Grown w w' := by
  go_enter Try.func6, Try.ntmps6
  go_wp2_with (go_at_call 8; refine (abs_named (-9223372036854775808) (by omega) (by omega) _).mono ?_; rintro e w' ⟨ax, HX, rfl, rfl⟩; refine Hid.out ?_)
  refine Lib.hid ?_
  go_wp2_with (go_at_call 8; refine (abs_named a1 c0 c1 _).mono ?_; rintro e w' ⟨ay, HY, rfl, rfl⟩; refine Hid.out ?_)
  refine Lib.hid ?_
  have x0 : 0 < ax := by rw [HX.out]; omega
  have x1 : ax ≤ 9223372036854775808 := by rw [HX.out]; omega
  have y0 : 0 ≤ ay := by rw [HY.out]; omega
  have y1 : ay ≤ 9223372036854775808 := by rw [HY.out]; omega
  have e1 : (ax == 0) = false := by rw [beq_eq_false_iff_ne]; omega
  have e2 : (ax != 9223372036854775808) = false := neq_of _ _ (by rw [HX.out]; omega)
  go_wp2
  go_ret
  exact ⟨rfl, Grown.refl _⟩

theorem walk (a0 : Int) (a1 : Int) (w0 : (Lit.int .i64 a0).wf = true) (w1 : (Lit.int .i64 a1).wf = true) (w : World) :
    Calls Try.prog 6 #[.int .i64 a0, .int .i64 a1] w fun e w' => e = .returned (.bool true) ∧ Grown w w' := by
  obtain ⟨b0, b1⟩ := bounds_i64 w0
  obtain ⟨c0, c1⟩ := bounds_i64 w1
  by_cases hmin : a0 = -9223372036854775808
  · subst hmin
    exact walk_min a1 c0 c1 w
  · have hlo : -9223372036854775807 ≤ a0 := by omega
    by_cases l1 : -2147483647 ≤ a0
    · by_cases l2 : a0 ≤ 2147483647
      · by_cases l3 : -2147483647 ≤ a1
        · by_cases l4 : a1 ≤ 2147483647
          · exact walk_small a0 a1 b0 b1 c0 c1 l1 l2 l3 l4 w
          · exact walk_y_high a0 a1 b0 b1 c0 c1 hlo l1 l2 l3 (by omega) w
        · exact walk_y_low a0 a1 b0 b1 c0 c1 hlo l1 l2 (by omega) w
      · exact walk_x_high a0 a1 b0 b1 c0 c1 hlo l1 (by omega) w
    · exact walk_x_low a0 a1 b0 b1 c0 c1 hlo (by omega) w

/-! ### The row's step -/
set_option maxRecDepth 100000 in
theorem lifted (os : Os) (started : os.Started) (H : Type) (enc : TypeId × Value → H) :
    ReturnsInHanded {} Try.checked os 6 .any (Rows.fnAbsoluteEvenAndMultiplicativeSpec.pre6 enc Try.prog Try.f6 Rows.fnAbsoluteEvenAndMultiplicativeRow.domain false) (Rows.fnAbsoluteEvenAndMultiplicativeSpec.post enc Try.prog Try.f6 false true false false) := by
  refine returnsInHanded_of_change (C := Try.checked) own started (by kernel_rfl) Try.func6
    (ChangeSpec.witness6 (enc := enc) (C := Try.checked) false ⟨#[], #[.int .i64 0, .int .i64 0], []⟩ 8 (by kernel_rfl) (by kernel_rfl) (by kernel_rfl) (by kernel_rfl)) ?_
  intro W base args ds gs before hval0 hW hcnd _
  have hval : ∀ (j : Nat) t v, Try.f6.params[j]? = some t → args[j]? = some v → Value.okWide Try.prog W .any base t v := hval0
  have hW' := hW
  obtain ⟨p, q, hA0, hV, rfl, hfz, hnd⟩ := hW
  have hA : DataW.TrodAll enc Try.prog W 0 (fun _ => true) true Try.f6.params.toList args.toList ds p := hA0
  rw [Try.params6] at hA hval
  obtain ⟨v0, vs0, d0, ds0, p0, q0, hargs, rfl, rfl, h0, r0⟩ := trodAll_cons hA
  obtain ⟨v1, vs1, d1, ds1, p1, q1, rfl, rfl, rfl, h1, r1⟩ := trodAll_cons r0
  obtain ⟨rfl, rfl, rfl⟩ := trodAll_nil r1
  obtain rfl : args = #[v0, v1] := by cases args; simp_all
  obtain ⟨rfl, rfl⟩ := trodVars_none hV
  obtain ⟨a0, rfl, rfl, rfl, w0⟩ := open_int Try.underlying2 (hval 0 2 v0 rfl rfl) h0
  obtain ⟨a1, rfl, rfl, rfl, w1⟩ := open_int Try.underlying2 (hval 1 2 v1 rfl rfl) h1
  clear hA0 hval0
  simp only [List.append_nil] at hW'
  refine (walk a0 a1 w0 w1 W).mono fun e W' ⟨he, hg⟩ => ?_
  subst he
  exact ⟨_, rfl, post_of_same (pa := []) (pv := []) hW' (fun _ _ _ => (trodAll_cons_mk (shut_bool Try.underlying4 _) trodAll_mk0)) (fun sp _ => (trodAll_cons_mk (shut_int Try.underlying2 w0) (trodAll_cons_mk (shut_int Try.underlying2 w1) trodAll_mk0))) (fun _ _ => rfl) rfl
    (hg.frame _) hg.2.1 (ok_one (by kernel_rfl) rfl (okWide_bool_mk Try.underlying4 _))⟩

theorem over : Rows.fnAbsoluteEvenAndMultiplicativeRow.holds Try.pinned (OpenSpec.ofChange Rows.fnAbsoluteEvenAndMultiplicativeSpec) :=
  OpenClaim.holds_of_wide 6 Try.f6 rfl rfl rfl rfl rfl rfl rfl ⟨rfl, rfl, rfl, rfl, rfl⟩ rfl rfl rfl rfl rfl (by kernel_rfl) Try.func6 (by kernel_rfl)
    (of_decide_eq_true (by kernel_rfl)) (by unfold Func.isWrapper; first | (rw [if_pos (by decide +kernel)]; kernel_rfl) | (rw [if_neg (by decide +kernel)]; exact ⟨rfl, rfl⟩))
    (fun os started H enc _ => lifted os started H enc)

end Go.Proofs.Qxb6605424a.fnAbsoluteEvenAndMultiplicative

namespace Go.Proofs.Qxb6605424a
/-- The statement. -/
theorem fnAbsoluteEvenAndMultiplicative_proved : Rows.FnAbsoluteEvenAndMultiplicativeSaid := fnAbsoluteEvenAndMultiplicative.over
end Go.Proofs.Qxb6605424a
