/- Lemmas for the walk of FnAppendToReadsBackThroughLeadingDigits. -/
import Derived.Test.Qxb6605414aDoorWalks
import Derived.Test.Qxb6605414aDoorDigits
import Derived.Laws.IdiomStrings
namespace Go.Proofs.Qxb6605414aDoor
open Go.ChangeShapes Go.WideShapes Go.ChangeAt Go.RowKit Go.Shelf
set_option linter.unusedVariables false

theorem qmag_ne (m : Nat) : 0 < (qmag m).length := by
  have := List.length_pos_iff.2 (dec_ne (m / 1000))
  unfold qmag
  rw [List.length_append]
  omega
theorem qtext_ne (t : Int) : 0 < (qtext t).length := by
  unfold qtext
  split
  · simp
  · exact qmag_ne _

theorem qmag_len (m : Nat) (hm : m ≤ 9223372036854775807) : (qmag m).length ≤ 50 := by
  unfold qmag
  rw [List.length_append]
  have h1 := dec_len16 m hm
  have h2 : (frac (m % 1000)).length ≤ 4 := by
    by_cases h : m % 1000 = 0
    · rw [qmag_frac0 h]; simp
    · rw [qmag_frac1 h]
      have := fdig_len (m % 1000)
      simp
      omega
  omega

theorem whole_facts (m : Nat) (hm : m ≤ 9223372036854775807) (D : ByteArray) (hDl : D.data.toList = Lib.decDigits (m / 1000)) :
    1 ≤ D.size ∧ D.size ≤ 16 ∧ ((D.size : Int) == 0) = false ∧ ¬ D = ByteArray.empty ∧ (∀ k (h : k < D.size), 48 ≤ (D[k].toNat : Int) ∧ (D[k].toNat : Int) ≤ 57) ∧ ∀ h : 1 < D.size, ((D[0].toNat : Int) == 48) = false := by
  have hlen := dec_len16 m hm
  have d1 : 1 ≤ D.size := by rw [sz, hDl]; exact hlen.1
  have d2 : D.size ≤ 16 := by rw [sz, hDl]; exact hlen.2
  refine ⟨d1, d2, by rw [beq_eq_false_iff_ne]; omega, by rintro rfl; simp at d1, ?_, ?_⟩
  · intro k h
    have hk : k < (Lib.decDigits (m / 1000)).length := by rw [← hDl, ← sz]; exact h
    rw [at_list D _ hDl k h hk]
    have := dec_all (m / 1000) _ (List.getElem_mem hk)
    unfold IsDig at this
    omega
  · intro h
    cases hc : Lib.decDigits (m / 1000) with
    | nil => exact absurd hc (dec_ne _)
    | cons c l =>
      rw [hc] at hDl
      have := dec_head (m / 1000) c l hc (by
        rintro rfl
        rw [sz, hDl] at h
        simp at h)
      rw [at_list D _ hDl 0 (by omega) (by simp), beq_eq_false_iff_ne]
      intro e
      have e' : c.toNat = 48 := by simpa using Int.ofNat.inj e
      exact this (UInt8.toNat_inj.1 (by simpa using e'))

theorem ip_step (D : ByteArray) (k : Nat) (h : k < D.size) (a : Int) (ha : a = (val (D.data.toList.take k) : Int)) (b1 : 48 ≤ (D[k].toNat : Int)) (d2 : D.size ≤ 16)
    (hall : ∀ k (h : k < D.size), 48 ≤ (D[k].toNat : Int) ∧ (D[k].toNat : Int) ≤ 57) :
    a * 10 + ((D[k].toNat : Int) - 48) = (val (D.data.toList.take (k + 1)) : Int) ∧ a * 10 + ((D[k].toNat : Int) - 48) ≤ 9999999999999999 := by
  have hk : k < D.data.toList.length := by rw [← sz]; exact h
  have e : D[k] = D.data.toList[k] := at_list D _ rfl k h hk
  have e1 : a * 10 + ((D[k].toNat : Int) - 48) = (val (D.data.toList.take (k + 1)) : Int) := by
    rw [val_take _ k hk, ← e, ha]
    omega
  refine ⟨e1, ?_⟩
  rw [e1]
  have := val_take_bd D.data.toList (fun c hc => by
    obtain ⟨j, hj, rfl⟩ := List.getElem_of_mem hc
    have := hall j (by rw [sz]; exact hj)
    rw [at_list D _ rfl j (by rw [sz]; exact hj) hj] at this
    unfold IsDig
    omega) (k + 1) (by omega) (by rw [← sz]; exact d2)
  omega

theorem ip_end (m : Nat) (D : ByteArray) (hDl : D.data.toList = Lib.decDigits (m / 1000)) (k : Nat) (hk : D.size ≤ k) (a : Int) (ha : a = (val (D.data.toList.take k) : Int)) : a = (m : Int) / 1000 := by
  rw [ha, List.take_of_length_le (by rw [← sz]; exact hk), hDl, val_dec]
  omega

theorem mag_neg (m : Nat) (hm : m ≤ 9223372036854775807) (w : World) :
    Calls Tryd.prog 10 #[.int .i64 (-(m : Int))] w fun e w' => e = .returned (.int .u64 (m : Int)) ∧ w' = w := by
  refine (mag_any (-(m : Int)) (by omega) (by omega) w).mono ?_
  rintro e w' ⟨rfl, rfl⟩
  exact ⟨ret_int (by omega), rfl⟩

theorem mag_pos (m : Nat) (hm : m ≤ 9223372036854775807) (w : World) :
    Calls Tryd.prog 10 #[.int .i64 (m : Int)] w fun e w' => e = .returned (.int .u64 (m : Int)) ∧ w' = w := by
  refine (mag_any (m : Int) (by omega) (by omega) w).mono ?_
  rintro e w' ⟨rfl, rfl⟩
  exact ⟨ret_int (by omega), rfl⟩

theorem frac_facts (f : Nat) (h : f < 1000) (h0 : f ≠ 0) (F : ByteArray) (hF : F.data.toList = fdig f) :
    1 ≤ F.size ∧ F.size ≤ 3 ∧ ((F.size : Int) == 0) = false ∧ ¬ F = ByteArray.empty ∧ (∀ k (h : k < F.size), 48 ≤ (F[k].toNat : Int) ∧ (F[k].toNat : Int) ≤ 57) ∧
      ∃ (q : Nat) (hq : F.size = q + 1), ((F[q].toNat : Int) == 48) = false := by
  have hlen := fdig_len f
  have d1 : 1 ≤ F.size := by rw [sz, hF]; exact hlen.1
  have d2 : F.size ≤ 3 := by rw [sz, hF]; exact hlen.2
  refine ⟨d1, d2, by rw [beq_eq_false_iff_ne]; omega, by rintro rfl; simp at d1, ?_, F.size - 1, by omega, ?_⟩
  · intro k h
    have hk : k < (fdig f).length := by rw [← hF, ← sz]; exact h
    rw [at_list F _ hF k h hk]
    have := fdig_all f _ (List.getElem_mem hk)
    unfold IsDig at this
    omega
  · have hq : (fdig f).length = F.size - 1 + 1 := by rw [← hF, ← sz]; omega
    rw [at_list F _ hF (F.size - 1) (by omega) (by omega), beq_eq_false_iff_ne]
    have := fdig_last f h h0 (F.size - 1) hq
    omega

theorem below_drewN {B : Nat} {w w1 : World} (h : Below B w w1) (n : Nat) : Below B w (w1.drewN n) := ⟨h.1, h.2, h.3, h.4, h.5⟩

theorem list_dig (F : ByteArray) (hall : ∀ k (h : k < F.size), 48 ≤ (F[k].toNat : Int) ∧ (F[k].toNat : Int) ≤ 57) : ∀ c ∈ F.data.toList, IsDig c := by
  intro c hc
  obtain ⟨j, hj, rfl⟩ := List.getElem_of_mem hc
  have := hall j (by rw [sz]; exact hj)
  rw [at_list F _ rfl j (by rw [sz]; exact hj) hj] at this
  unfold IsDig
  omega

theorem fp_lt (F : ByteArray) (k : Nat) (h : k < F.size) (h3 : k < 3) (b : Int) (hb : b = (fv F.data.toList k : Int)) (hall : ∀ k (h : k < F.size), 48 ≤ (F[k].toNat : Int) ∧ (F[k].toNat : Int) ≤ 57) :
    b * 10 + ((F[k].toNat : Int) - 48) = (fv F.data.toList (k + 1) : Int) ∧ b * 10 + ((F[k].toNat : Int) - 48) ≤ 999 := by
  have hk : k < F.data.toList.length := by rw [← sz]; exact h
  have e : F[k] = F.data.toList[k] := at_list F _ rfl k h hk
  have h1 := hall k h
  have e1 : b * 10 + ((F[k].toNat : Int) - 48) = (fv F.data.toList (k + 1) : Int) := by
    rw [fv_lt _ k hk, ← e, hb]
    omega
  refine ⟨e1, ?_⟩
  rw [e1]
  have := fv_bd F.data.toList (list_dig F hall) (k + 1) (by omega)
  omega

theorem fp_ge (F : ByteArray) (k : Nat) (h : F.size ≤ k) (h3 : k < 3) (b : Int) (hb : b = (fv F.data.toList k : Int)) (hall : ∀ k (h : k < F.size), 48 ≤ (F[k].toNat : Int) ∧ (F[k].toNat : Int) ≤ 57) :
    b * 10 = (fv F.data.toList (k + 1) : Int) ∧ b * 10 ≤ 999 := by
  have hk : F.data.toList.length ≤ k := by rw [← sz]; exact h
  have e1 : b * 10 = (fv F.data.toList (k + 1) : Int) := by
    rw [fv_ge _ k hk h3, hb]
    omega
  refine ⟨e1, ?_⟩
  rw [e1]
  have := fv_bd F.data.toList (list_dig F hall) (k + 1) (by omega)
  omega

theorem qmag_first (m : Nat) : IsDig ((qmag m)[0]'(qmag_ne m)) := by
  have h1 : 0 < (Lib.decDigits (m / 1000)).length := List.length_pos_iff.2 (dec_ne (m / 1000))
  have e : (qmag m)[0]'(qmag_ne m) = (Lib.decDigits (m / 1000))[0] := List.getElem_append_left h1
  rw [e]
  exact dec_all _ _ (List.getElem_mem h1)

theorem full_nil (w : World) : Full w none 0 (Lib.byteCells []) := ⟨fun _ => rfl, rfl, fun b h => by cases h⟩

end Go.Proofs.Qxb6605414aDoor
