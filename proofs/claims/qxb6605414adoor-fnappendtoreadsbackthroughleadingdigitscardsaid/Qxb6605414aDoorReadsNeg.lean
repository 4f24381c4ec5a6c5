/- The walk of FnAppendToReadsBackThroughLeadingDigits, at a negative number. -/
import Derived.Test.Qxb6605414aDoorReadsParts
namespace Go.Proofs.Qxb6605414aDoor
open Go.ChangeShapes Go.WideShapes Go.ChangeAt Go.RowKit Go.Shelf
set_option linter.unusedVariables false

set_option maxHeartbeats 4000000 in
set_option maxRecDepth 100000 in
theorem reads_neg (m : Nat) (h1m : 1 ≤ m) (hm : m ≤ 9223372036854775807) (w : World)
    (htab : Lib.TabIs Tryd.prog w powName .u64 Lib.pow10Tab) :
    Calls Tryd.prog 4 #[.int .i64 (-(m : Int))] w fun e w' => e = .returned (.bool true) ∧ Below w.heap.size w w' := by
  have ht : ((-(m : Int)) == -9223372036854775808) = false := by rw [beq_eq_false_iff_ne]; omega
  have hneg : (-(m : Int)) < 0 := by omega
  go_enter Tryd.func4, Tryd.ntmps4
  go_wp2_with (go_at_call 7; refine (zzAppendTo_any (-(m : Int)) (by omega) (by omega) none 0 [] _ (full_nil _) (by omega) htab).mono ?_; rintro e w1 ⟨v1, rfl, hown1, hnx1⟩; refine Hid.out ?_)
  refine Lib.hid ?_
  rw [Nat.zero_add, List.nil_append] at hown1
  rcases hown1.2 with ⟨-, h0⟩ | ⟨g, cap, cur, rfl, -, -, -, -, -, -⟩
  · have := qtext_ne (-(m : Int))
    omega
  have hcv := run_convert_bytes_back (P := Tryd.prog) w1 22 9 5 ⟨g, 0, none⟩ cap (qtext (-(m : Int))) Tryd.underlying22 Tryd.underlying5 Tryd.underlying9 (fun j hj => hown1.cells (g := g) rfl j _ (by simp [Lib.byteCells, hj]))
  obtain ⟨S, hS⟩ : ∃ S : ByteArray, S = ⟨(qtext (-(m : Int))).toArray⟩ := ⟨_, rfl⟩
  rw [← hS] at hcv
  have hSl : S.data.toList = 45 :: qmag m := by
    rw [hS]
    simp [qtext]
    omega
  have hS0 : 0 < S.size := by rw [sz, hSl]; simp
  have hSm : S.size ≤ 200 := by
    rw [sz, hSl, List.length_cons]
    have := qmag_len m hm
    omega
  have eS : ((S[0].toNat : Int) == 45) = true := by
    rw [at_list S _ hSl 0 hS0 (by simp)]
    simp
  have HS := Lib.hid hSl
  clear hSl hS hown1
  have ed : (!decide (0 < m)) = false := by simp; omega
  have hx : (S.extract 1 S.size).data.toList = Lib.decDigits (m / 1000) ++ frac (m % 1000) := by rw [ext_list, HS.out]; rfl
  have HX := Lib.hid hx
  have hxs : (S.extract 1 S.size).size ≤ maxLen := by simp; unfold maxLen; omega
  have hlen := dec_len16 m hm
  clear hx
  go_wp2_with (go_at_call 9; refine (zzld_split _ _ _ HX.out (dec_all _) (frac_not_dig _) _ hxs).mono ?_; rintro e w2 ⟨D, R, hDR, rfl, nq, rfl⟩; refine Hid.out ?_)
  refine Lib.hid ?_
  obtain ⟨d1, d2, e2, hDe, hDdig, hD0⟩ := whole_facts m hm D hDR.1
  have HDl := Lib.hid hDR.1
  have HRl := Lib.hid hDR.2
  have HDG := Lib.hid hDdig
  have HD0 := Lib.hid hD0
  clear hDR hDdig hD0 hlen
  by_cases hD1 : 1 < D.size
  · have e1 := HD0.out hD1
    go_wp2
    go_loop [7, 8] (fun ip i => ∃ (k : Nat) (a : Int), k ≤ D.size ∧ i = .int .i64 k ∧ ip = .int .u64 a ∧ 0 ≤ a ∧ a ≤ 9999999999999999 ∧ Hid (a = (val (D.data.toList.take k) : Int))) (fun _ i => D.size - (intOf i).toNat)
    case atStart => exact ⟨0, 0, Nat.zero_le _, rfl, rfl, by omega, by omega, rfl⟩
    case round =>
      obtain ⟨k, a, hk, rfl, rfl, a0, a1, HA⟩ := hrel
      by_cases hlt : k < D.size
      · obtain ⟨b1, b2⟩ := HDG.out k hlt
        have HN := Lib.hid (ip_step D k hlt a HA.out b1 d2 HDG.out)
        go_wp2
        go_round
        case rel => exact ⟨k + 1, _, by omega, by go_num, rfl, by omega, HN.out.2, HN.out.1⟩
        case measure => simp [intOf]; omega
      · have HW := Lib.hid (ip_end m D HDl.out k (by omega) a HA.out)
        by_cases hf0 : m % 1000 = 0
        · have hR0 : ¬ 0 < R.size := by rw [sz, HRl.out, qmag_frac0 hf0]; simp
          have ef : (a * 1000 == (m : Int)) = true := by rw [beq_iff_eq, HW.out]; omega
          clear hf0
          go_wp2_with (go_at_call 10; refine (mag_neg m hm _).mono ?_; rintro e w' ⟨rfl, rfl⟩)
          go_ret
          exact ⟨rfl, below_drewN hnx1 _⟩
        · have hR0 : 0 < R.size := by rw [sz, HRl.out, qmag_frac1 hf0]; simp
          have hR1 : ((R[0].toNat : Int) != 46) = false := by rw [at_list R _ (HRl.out.trans (qmag_frac1 hf0)) 0 hR0 (by simp)]; rfl
          have hRm : R.size ≤ 4 := by
            rw [sz, HRl.out, qmag_frac1 hf0, List.length_cons]
            have := fdig_len (m % 1000)
            omega
          have hy : (R.extract 1 R.size).data.toList = fdig (m % 1000) ++ [] := by rw [ext_list, HRl.out, qmag_frac1 hf0]; simp
          have HY := Lib.hid hy
          have hys : (R.extract 1 R.size).size ≤ maxLen := by simp; unfold maxLen; omega
          clear hy
          go_wp2_with (go_at_call 9; refine (zzld_split _ _ _ HY.out (fdig_all _) (fun c l h => by cases h) _ hys).mono ?_; rintro e w3 ⟨F, G, hFG, rfl, nr, rfl⟩; refine Hid.out ?_)
          refine Lib.hid ?_
          obtain ⟨f1, f3, fe0, fe, fdg, q, fq, flast⟩ := frac_facts (m % 1000) (by omega) hf0 F hFG.1
          obtain rfl : G = ByteArray.empty := by
            obtain ⟨⟨l⟩⟩ := G
            have := hFG.2
            simp at this
            subst this
            rfl
          have HF := Lib.hid hFG.1
          have HFD := Lib.hid fdg
          have fe1 : ((q : Int) + 1 == 0) = false := by rw [beq_eq_false_iff_ne]; omega
          have q3 : q ≤ 2 := by omega
          clear hFG fdg hf0 fe0
          go_wp2
          go_loop [9, 12] (fun fp kk => ∃ (k : Nat) (b : Int), k ≤ 3 ∧ kk = .int .i64 k ∧ fp = .int .u64 b ∧ 0 ≤ b ∧ b ≤ 999 ∧ Hid (b = (fv F.data.toList k : Int))) (fun _ kk => 3 - (intOf kk).toNat)
          case atStart => exact ⟨0, 0, by omega, rfl, rfl, by omega, by omega, by show (0 : Int) = _; rw [fv_zero]; rfl⟩
          case round =>
            obtain ⟨k2, b, hk2, rfl, rfl, b0, b9, HB⟩ := hrel
            by_cases hk3 : k2 < 3
            · by_cases hkF : k2 < q + 1
              · obtain ⟨c1, c2⟩ := HFD.out k2 (by omega)
                have HN := Lib.hid (fp_lt F k2 (by omega) hk3 b HB.out HFD.out)
                go_wp2
                go_round
                case rel => exact ⟨k2 + 1, _, by omega, by go_num, rfl, by omega, HN.out.2, HN.out.1⟩
                case measure => simp [intOf]; omega
              · have HN := Lib.hid (fp_ge F k2 (by omega) hk3 b HB.out HFD.out)
                go_wp2
                go_round
                case rel => exact ⟨k2 + 1, _, by omega, by go_num, rfl, by omega, HN.out.2, HN.out.1⟩
                case measure => simp [intOf]; omega
            · have ef : (a * 1000 + b == (m : Int)) = true := by
                rw [beq_iff_eq, HW.out, HB.out, show k2 = 3 by omega, HF.out, fv_fdig _ (by omega)]
                omega
              go_wp2_with (go_at_call 10; refine (mag_neg m hm _).mono ?_; rintro e w' ⟨rfl, rfl⟩)
              go_ret
              exact ⟨rfl, below_drewN hnx1 _⟩
  · go_wp2
    go_loop [7, 8] (fun ip i => ∃ (k : Nat) (a : Int), k ≤ D.size ∧ i = .int .i64 k ∧ ip = .int .u64 a ∧ 0 ≤ a ∧ a ≤ 9999999999999999 ∧ Hid (a = (val (D.data.toList.take k) : Int))) (fun _ i => D.size - (intOf i).toNat)
    case atStart => exact ⟨0, 0, Nat.zero_le _, rfl, rfl, by omega, by omega, rfl⟩
    case round =>
      obtain ⟨k, a, hk, rfl, rfl, a0, a1, HA⟩ := hrel
      by_cases hlt : k < D.size
      · obtain ⟨b1, b2⟩ := HDG.out k hlt
        have HN := Lib.hid (ip_step D k hlt a HA.out b1 d2 HDG.out)
        go_wp2
        go_round
        case rel => exact ⟨k + 1, _, by omega, by go_num, rfl, by omega, HN.out.2, HN.out.1⟩
        case measure => simp [intOf]; omega
      · have HW := Lib.hid (ip_end m D HDl.out k (by omega) a HA.out)
        by_cases hf0 : m % 1000 = 0
        · have hR0 : ¬ 0 < R.size := by rw [sz, HRl.out, qmag_frac0 hf0]; simp
          have ef : (a * 1000 == (m : Int)) = true := by rw [beq_iff_eq, HW.out]; omega
          clear hf0
          go_wp2_with (go_at_call 10; refine (mag_neg m hm _).mono ?_; rintro e w' ⟨rfl, rfl⟩)
          go_ret
          exact ⟨rfl, below_drewN hnx1 _⟩
        · have hR0 : 0 < R.size := by rw [sz, HRl.out, qmag_frac1 hf0]; simp
          have hR1 : ((R[0].toNat : Int) != 46) = false := by rw [at_list R _ (HRl.out.trans (qmag_frac1 hf0)) 0 hR0 (by simp)]; rfl
          have hRm : R.size ≤ 4 := by
            rw [sz, HRl.out, qmag_frac1 hf0, List.length_cons]
            have := fdig_len (m % 1000)
            omega
          have hy : (R.extract 1 R.size).data.toList = fdig (m % 1000) ++ [] := by rw [ext_list, HRl.out, qmag_frac1 hf0]; simp
          have HY := Lib.hid hy
          have hys : (R.extract 1 R.size).size ≤ maxLen := by simp; unfold maxLen; omega
          clear hy
          go_wp2_with (go_at_call 9; refine (zzld_split _ _ _ HY.out (fdig_all _) (fun c l h => by cases h) _ hys).mono ?_; rintro e w3 ⟨F, G, hFG, rfl, nr, rfl⟩; refine Hid.out ?_)
          refine Lib.hid ?_
          obtain ⟨f1, f3, fe0, fe, fdg, q, fq, flast⟩ := frac_facts (m % 1000) (by omega) hf0 F hFG.1
          obtain rfl : G = ByteArray.empty := by
            obtain ⟨⟨l⟩⟩ := G
            have := hFG.2
            simp at this
            subst this
            rfl
          have HF := Lib.hid hFG.1
          have HFD := Lib.hid fdg
          have fe1 : ((q : Int) + 1 == 0) = false := by rw [beq_eq_false_iff_ne]; omega
          have q3 : q ≤ 2 := by omega
          clear hFG fdg hf0 fe0
          go_wp2
          go_loop [9, 12] (fun fp kk => ∃ (k : Nat) (b : Int), k ≤ 3 ∧ kk = .int .i64 k ∧ fp = .int .u64 b ∧ 0 ≤ b ∧ b ≤ 999 ∧ Hid (b = (fv F.data.toList k : Int))) (fun _ kk => 3 - (intOf kk).toNat)
          case atStart => exact ⟨0, 0, by omega, rfl, rfl, by omega, by omega, by show (0 : Int) = _; rw [fv_zero]; rfl⟩
          case round =>
            obtain ⟨k2, b, hk2, rfl, rfl, b0, b9, HB⟩ := hrel
            by_cases hk3 : k2 < 3
            · by_cases hkF : k2 < q + 1
              · obtain ⟨c1, c2⟩ := HFD.out k2 (by omega)
                have HN := Lib.hid (fp_lt F k2 (by omega) hk3 b HB.out HFD.out)
                go_wp2
                go_round
                case rel => exact ⟨k2 + 1, _, by omega, by go_num, rfl, by omega, HN.out.2, HN.out.1⟩
                case measure => simp [intOf]; omega
              · have HN := Lib.hid (fp_ge F k2 (by omega) hk3 b HB.out HFD.out)
                go_wp2
                go_round
                case rel => exact ⟨k2 + 1, _, by omega, by go_num, rfl, by omega, HN.out.2, HN.out.1⟩
                case measure => simp [intOf]; omega
            · have ef : (a * 1000 + b == (m : Int)) = true := by
                rw [beq_iff_eq, HW.out, HB.out, show k2 = 3 by omega, HF.out, fv_fdig _ (by omega)]
                omega
              go_wp2_with (go_at_call 10; refine (mag_neg m hm _).mono ?_; rintro e w' ⟨rfl, rfl⟩)
              go_ret
              exact ⟨rfl, below_drewN hnx1 _⟩
end Go.Proofs.Qxb6605414aDoor
