/- The walk of FnWriteCentsCanonicalRoundTrip. -/
import Derived.Test.Qxb6605424aCents
import Derived.Test.Qxb6605424aPlain2
namespace Go.Proofs.Qxb6605424a
open Go.ChangeShapes Go.WideShapes Go.ChangeAt Go.RowKit
set_option linter.unusedVariables false

theorem ret_eq {a b : Int} (h : a = b) : Ending.returned (.bool (a == b)) = .returned (.bool true) := by rw [h]; simp

/-- One byte of the text, met by the law's loop. -/
theorem digit_step (m k : Nat) (hm : m ≤ 9223372036854775808) (h : k < (cmag m).length) (hk : k ≠ (Lib.decDigits (m / 100)).length) (a z : Int) (ha : a = (cv (cmag m) k : Int)) (hz : z = ((cmag m)[k].toNat : Int)) :
    48 ≤ z ∧ z ≤ 57 ∧ a ≤ 922337203685477580 ∧ a * 10 + (z - 48) ≤ 9223372036854775808 ∧ Hid (a * 10 + (z - 48) = (cv (cmag m) (k + 1) : Int)) := by
  have hd := cmag_digit m k h hk
  have h1 := cv_digit (cmag m) k h hd
  have h2 := cv_bd m (k + 1) (by omega)
  unfold IsDig at hd
  have h3 : a * 10 + (z - 48) = (cv (cmag m) (k + 1) : Int) := by
    rw [h1, ha, hz]
    omega
  exact ⟨by omega, by omega, by omega, by omega, h3⟩

set_option maxHeartbeats 1600000 in
set_option maxRecDepth 100000 in
theorem round_neg (m : Nat) (h1m : 1 ≤ m) (hm : m ≤ 9223372036854775808) (w : World) :
    Calls Try.prog 3 #[.int .i64 (-(m : Int))] w fun e w' => e = .returned (.bool true) ∧ Below w.heap.size w w' := by
  have hneg : (-(m : Int)) < 0 := by omega
  go_enter Try.func3, Try.ntmps3
  go_wp2_with (go_at_call 7; refine (zzCents_any (-(m : Int)) (by omega) (by omega) _).mono ?_; rintro e w1 ⟨S, HS, rfl, hb⟩; refine Hid.out ?_)
  have hS : S.data.toList = 45 :: cmag m := by
    rw [HS.out]
    unfold ctext
    rw [if_pos hneg]
    simp
  obtain ⟨W, hW⟩ : ∃ W, W = (Lib.decDigits (m / 100)).length := ⟨_, rfl⟩
  have hlen : (cmag m).length = W + 3 := by rw [hW]; exact cmag_len' m
  have hsz : S.size = W + 4 := by rw [sz, hS, List.length_cons, hlen]
  have hW1 : 1 ≤ W := by rw [hW]; exact List.length_pos_iff.2 (dec_ne _)
  have hW20 : W ≤ 20 := by have := (cmag_len m hm).2; omega
  have hat : ∀ k (h : k < (cmag m).length) (h' : k + 1 < S.size), S[k + 1] = (cmag m)[k] := by
    intro k h h'
    rw [at_list S _ hS (k + 1) h' (by rw [List.length_cons]; omega)]
    simp
  have hS0 : 0 < S.size := by omega
  have e0 : ((S[0].toNat : Int) != 45) = false := by
    rw [at_list S _ hS 0 (by omega) (by simp)]
    rfl
  have hWS : W + 1 < S.size := by omega
  have e1 : ((S[W + 1].toNat : Int) != 46) = false := by
    rw [hat W (by omega) hWS]
    have := cmag_point m (by omega)
    simp only [hW]
    rw [this]
    rfl
  have h1S : 1 < S.size := by omega
  have e2 : 1 < W → ((S[1].toNat : Int) == 48) = false := by
    intro h
    rw [hat 0 (by omega) h1S, beq_eq_false_iff_ne]
    have := cmag_head m (by omega) (by omega)
    omega
  have HW := Lib.hid hW
  have HLN := Lib.hid hlen
  have HAT := Lib.hid hat
  have HE2 := Lib.hid e2
  clear hS hat hlen hW e2
  refine Lib.hid ?_
  by_cases hW2 : 1 < W
  · have e2 := HE2.out hW2
    go_wp2
    go_loop [8, 9] (fun v kk => ∃ (k : Nat) (a : Int), k ≤ W + 3 ∧ kk = .int .i64 ((k : Int) + 1) ∧ v = .int .u64 a ∧ 0 ≤ a ∧ a ≤ 9223372036854775808 ∧ Hid (a = (cv (cmag m) k : Int))) (fun _ kk => W + 4 - (intOf kk).toNat)
    case atStart => exact ⟨0, 0, by omega, rfl, rfl, by omega, by omega, by show (0 : Int) = _; rw [cv_zero]; rfl⟩
    case round =>
      obtain ⟨k, a, hk, rfl, rfl, a0, a1, HA⟩ := hrel
      by_cases hlt : k < W + 3
      · by_cases hp : k = W
        · subst hp
          have ep : ((k : Int) + 1 == (k : Int) + 4 - 3) = true := by rw [beq_iff_eq]; omega
          go_wp2
          go_round
          case rel => exact ⟨k + 1, a, by omega, by go_num, rfl, a0, a1, by
            show a = _
            rw [HA.out, cv_point (cmag m) k (by rw [HLN.out]; omega) (by have := cmag_point m (by rw [← HW.out, HLN.out]; omega); simp only [← HW.out] at this; exact this)]⟩
          case measure => simp [intOf]; omega
        · have en : ((k : Int) + 1 == (W : Int) + 4 - 3) = false := by rw [beq_eq_false_iff_ne]; omega
          have hks : k + 1 < S.size := by omega
          have hkc : k < (cmag m).length := by rw [HLN.out]; exact hlt
          obtain ⟨z1, z2, a2, a3, HN⟩ := digit_step m k hm hkc (by rw [← HW.out]; exact hp) a (S[k + 1].toNat : Int) HA.out (by rw [HAT.out k hkc hks])
          clear hp
          go_wp2
          go_round
          case rel => exact ⟨k + 1, _, by omega, by go_num, rfl, by omega, a3, HN⟩
          case measure => simp [intOf]; omega
      · have HV := Lib.hid (show a = (m : Int) by rw [HA.out, show k = (cmag m).length by rw [HLN.out]; omega, cv_all])
        go_wp2
        go_ret
        exact ⟨ret_eq (by rw [HV.out]; omega), hb⟩
  · go_wp2
    go_loop [8, 9] (fun v kk => ∃ (k : Nat) (a : Int), k ≤ W + 3 ∧ kk = .int .i64 ((k : Int) + 1) ∧ v = .int .u64 a ∧ 0 ≤ a ∧ a ≤ 9223372036854775808 ∧ Hid (a = (cv (cmag m) k : Int))) (fun _ kk => W + 4 - (intOf kk).toNat)
    case atStart => exact ⟨0, 0, by omega, rfl, rfl, by omega, by omega, by show (0 : Int) = _; rw [cv_zero]; rfl⟩
    case round =>
      obtain ⟨k, a, hk, rfl, rfl, a0, a1, HA⟩ := hrel
      by_cases hlt : k < W + 3
      · by_cases hp : k = W
        · subst hp
          have ep : ((k : Int) + 1 == (k : Int) + 4 - 3) = true := by rw [beq_iff_eq]; omega
          go_wp2
          go_round
          case rel => exact ⟨k + 1, a, by omega, by go_num, rfl, a0, a1, by
            show a = _
            rw [HA.out, cv_point (cmag m) k (by rw [HLN.out]; omega) (by have := cmag_point m (by rw [← HW.out, HLN.out]; omega); simp only [← HW.out] at this; exact this)]⟩
          case measure => simp [intOf]; omega
        · have en : ((k : Int) + 1 == (W : Int) + 4 - 3) = false := by rw [beq_eq_false_iff_ne]; omega
          have hks : k + 1 < S.size := by omega
          have hkc : k < (cmag m).length := by rw [HLN.out]; exact hlt
          obtain ⟨z1, z2, a2, a3, HN⟩ := digit_step m k hm hkc (by rw [← HW.out]; exact hp) a (S[k + 1].toNat : Int) HA.out (by rw [HAT.out k hkc hks])
          clear hp
          go_wp2
          go_round
          case rel => exact ⟨k + 1, _, by omega, by go_num, rfl, by omega, a3, HN⟩
          case measure => simp [intOf]; omega
      · have HV := Lib.hid (show a = (m : Int) by rw [HA.out, show k = (cmag m).length by rw [HLN.out]; omega, cv_all])
        go_wp2
        go_ret
        exact ⟨ret_eq (by rw [HV.out]; omega), hb⟩
set_option maxHeartbeats 1600000 in
set_option maxRecDepth 100000 in
theorem round_pos (m : Nat) (hm9 : m ≤ 9223372036854775807) (w : World) :
    Calls Try.prog 3 #[.int .i64 (m : Int)] w fun e w' => e = .returned (.bool true) ∧ Below w.heap.size w w' := by
  have hneg : ¬ (m : Int) < 0 := by omega
  have hm : m ≤ 9223372036854775808 := by omega
  go_enter Try.func3, Try.ntmps3
  go_wp2_with (go_at_call 7; refine (zzCents_any (m : Int) (by omega) (by omega) _).mono ?_; rintro e w1 ⟨S, HS, rfl, hb⟩; refine Hid.out ?_)
  have hS : S.data.toList = cmag m := by
    rw [HS.out]
    unfold ctext
    rw [if_neg (by omega)]
    simp
  obtain ⟨W, hW⟩ : ∃ W, W = (Lib.decDigits (m / 100)).length := ⟨_, rfl⟩
  have hlen : (cmag m).length = W + 3 := by rw [hW]; exact cmag_len' m
  have hsz : S.size = W + 3 := by rw [sz, hS, hlen]
  have hW1 : 1 ≤ W := by rw [hW]; exact List.length_pos_iff.2 (dec_ne _)
  have hW20 : W ≤ 20 := by have := (cmag_len m hm).2; omega
  have hat : ∀ k (h : k < (cmag m).length) (h' : k < S.size), S[k] = (cmag m)[k] := fun k h h' => at_list S _ hS k h' h
  have hS0 : 0 < S.size := by omega
  have hWS : W < S.size := by omega
  have e1 : ((S[W].toNat : Int) != 46) = false := by
    rw [hat W (by omega) hWS]
    have := cmag_point m (by omega)
    simp only [hW]
    rw [this]
    rfl
  have e2 : 1 < W → ((S[0].toNat : Int) == 48) = false := by
    intro h
    rw [hat 0 (by omega) hS0, beq_eq_false_iff_ne]
    have := cmag_head m (by omega) (by omega)
    omega
  have HW := Lib.hid hW
  have HLN := Lib.hid hlen
  have HAT := Lib.hid hat
  have HE2 := Lib.hid e2
  clear hS hat hlen hW e2
  refine Lib.hid ?_
  by_cases hW2 : 1 < W
  · have e2 := HE2.out hW2
    go_wp2
    go_loop [8, 9] (fun v kk => ∃ (k : Nat) (a : Int), k ≤ W + 3 ∧ kk = .int .i64 (k : Int) ∧ v = .int .u64 a ∧ 0 ≤ a ∧ a ≤ 9223372036854775808 ∧ Hid (a = (cv (cmag m) k : Int))) (fun _ kk => W + 3 - (intOf kk).toNat)
    case atStart => exact ⟨0, 0, by omega, rfl, rfl, by omega, by omega, by show (0 : Int) = _; rw [cv_zero]; rfl⟩
    case round =>
      obtain ⟨k, a, hk, rfl, rfl, a0, a1, HA⟩ := hrel
      by_cases hlt : k < W + 3
      · by_cases hp : k = W
        · subst hp
          have ep : ((k : Int) == (k : Int) + 3 - 3) = true := by rw [beq_iff_eq]; omega
          go_wp2
          go_round
          case rel => exact ⟨k + 1, a, by omega, by go_num, rfl, a0, a1, by
            show a = _
            rw [HA.out, cv_point (cmag m) k (by rw [HLN.out]; omega) (by have := cmag_point m (by rw [← HW.out, HLN.out]; omega); simp only [← HW.out] at this; exact this)]⟩
          case measure => simp [intOf] <;> omega
        · have en : ((k : Int) == (W : Int)) = false := by rw [beq_eq_false_iff_ne]; omega
          have hks : k < S.size := by omega
          have hkc : k < (cmag m).length := by rw [HLN.out]; exact hlt
          obtain ⟨z1, z2, a2, a3, HN⟩ := digit_step m k hm hkc (by rw [← HW.out]; exact hp) a (S[k].toNat : Int) HA.out (by rw [HAT.out k hkc hks])
          clear hp
          go_wp2
          go_round
          case rel => exact ⟨k + 1, _, by omega, by go_num, rfl, by omega, a3, HN⟩
          case measure => simp [intOf] <;> omega
      · have HV := Lib.hid (show a = (m : Int) by rw [HA.out, show k = (cmag m).length by rw [HLN.out]; omega, cv_all])
        go_wp2
        go_ret
        exact ⟨ret_eq (by have := HV.out; omega), hb⟩
  · go_wp2
    go_loop [8, 9] (fun v kk => ∃ (k : Nat) (a : Int), k ≤ W + 3 ∧ kk = .int .i64 (k : Int) ∧ v = .int .u64 a ∧ 0 ≤ a ∧ a ≤ 9223372036854775808 ∧ Hid (a = (cv (cmag m) k : Int))) (fun _ kk => W + 3 - (intOf kk).toNat)
    case atStart => exact ⟨0, 0, by omega, rfl, rfl, by omega, by omega, by show (0 : Int) = _; rw [cv_zero]; rfl⟩
    case round =>
      obtain ⟨k, a, hk, rfl, rfl, a0, a1, HA⟩ := hrel
      by_cases hlt : k < W + 3
      · by_cases hp : k = W
        · subst hp
          have ep : ((k : Int) == (k : Int) + 3 - 3) = true := by rw [beq_iff_eq]; omega
          go_wp2
          go_round
          case rel => exact ⟨k + 1, a, by omega, by go_num, rfl, a0, a1, by
            show a = _
            rw [HA.out, cv_point (cmag m) k (by rw [HLN.out]; omega) (by have := cmag_point m (by rw [← HW.out, HLN.out]; omega); simp only [← HW.out] at this; exact this)]⟩
          case measure => simp [intOf] <;> omega
        · have en : ((k : Int) == (W : Int)) = false := by rw [beq_eq_false_iff_ne]; omega
          have hks : k < S.size := by omega
          have hkc : k < (cmag m).length := by rw [HLN.out]; exact hlt
          obtain ⟨z1, z2, a2, a3, HN⟩ := digit_step m k hm hkc (by rw [← HW.out]; exact hp) a (S[k].toNat : Int) HA.out (by rw [HAT.out k hkc hks])
          clear hp
          go_wp2
          go_round
          case rel => exact ⟨k + 1, _, by omega, by go_num, rfl, by omega, a3, HN⟩
          case measure => simp [intOf] <;> omega
      · have HV := Lib.hid (show a = (m : Int) by rw [HA.out, show k = (cmag m).length by rw [HLN.out]; omega, cv_all])
        go_wp2
        go_ret
        exact ⟨ret_eq (by have := HV.out; omega), hb⟩
end Go.Proofs.Qxb6605424a
