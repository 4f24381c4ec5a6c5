/- The plain mathematics of a decimal numeral: no Go in sight. The decimal numeral is the kit's own 'Lib.decDigits'. -/
import Derived.Lib.ItoaLen
namespace Go.Proofs.Qxb6605506a
open Go.Lib (decDigits nDigits decDigits_length nDigits_small nDigits_big)

/-- One digit as a byte. -/
def dgt (k : Nat) : UInt8 := UInt8.ofNat (48 + k % 10)
theorem dgt_toNat (k : Nat) : (dgt k).toNat = 48 + k % 10 := by
  unfold dgt
  simp [UInt8.toNat_ofNat']
  omega
theorem dgt_eq {k : Nat} (h : k < 10) : UInt8.ofNat (48 + k) = dgt k := by unfold dgt; rw [Nat.mod_eq_of_lt h]

def IsDig (c : UInt8) : Prop := 48 ≤ c.toNat ∧ c.toNat ≤ 57
theorem isDig_dgt (k : Nat) : IsDig (dgt k) := by unfold IsDig; rw [dgt_toNat]; omega

theorem dec_small {u : Nat} (h : u < 10) : decDigits u = [dgt u] := by rw [decDigits, dif_pos h, dgt_eq h]
theorem dec_big {u : Nat} (h : ¬ u < 10) : decDigits u = decDigits (u / 10) ++ [dgt u] := by
  rw [decDigits, dif_neg h]; rfl

theorem dec_all (u : Nat) : ∀ c ∈ decDigits u, IsDig c := by
  induction u using Nat.strongRecOn with
  | _ u ih =>
    intro c hc
    by_cases h : u < 10
    · rw [dec_small h] at hc
      rw [List.mem_singleton.1 hc]
      exact isDig_dgt u
    · rw [dec_big h] at hc
      rcases List.mem_append.1 hc with h1 | h1
      · exact ih (u / 10) (by omega) c h1
      · rw [List.mem_singleton.1 h1]
        exact isDig_dgt u

theorem dec_ne (u : Nat) : decDigits u ≠ [] := by
  intro h
  have := decDigits_length u
  rw [h] at this
  have := Go.Lib.nDigits_pos u
  simp at *
  omega

/-- No zero ahead of other digits. -/
theorem dec_head (u : Nat) : ∀ c l, decDigits u = c :: l → l ≠ [] → c ≠ 48 := by
  induction u using Nat.strongRecOn with
  | _ u ih =>
    intro c l hc hl
    by_cases h : u < 10
    · rw [dec_small h] at hc
      simp at hc
      exact absurd hc.2.symm (by simpa using hl)
    · rw [dec_big h] at hc
      cases hd : decDigits (u / 10) with
      | nil => exact absurd hd (dec_ne _)
      | cons c' l' =>
        rw [hd] at hc
        simp at hc
        obtain ⟨rfl, hl'⟩ := hc
        by_cases h2 : u / 10 < 10
        · rw [dec_small h2] at hd
          simp at hd
          rw [← hd.1]
          intro e
          have := congrArg UInt8.toNat e
          rw [dgt_toNat] at this
          simp at this
          omega
        · refine ih (u / 10) (by omega) c' l' hd ?_
          rintro rfl
          have e := decDigits_length (u / 10)
          rw [hd, nDigits_big h2] at e
          have := Go.Lib.nDigits_pos (u / 10 / 10)
          simp at e
          omega

/-- The value of a row of digits. -/
def val (l : List UInt8) : Nat := l.foldl (fun a c => a * 10 + (c.toNat - 48)) 0
theorem val_snoc (l : List UInt8) (c : UInt8) : val (l ++ [c]) = val l * 10 + (c.toNat - 48) := by simp [val]
theorem val_nil : val [] = 0 := rfl
theorem val_dec (u : Nat) : val (decDigits u) = u := by
  induction u using Nat.strongRecOn with
  | _ u ih =>
    by_cases h : u < 10
    · rw [dec_small h]
      simp [val, dgt_toNat]
      omega
    · rw [dec_big h, val_snoc, ih (u / 10) (by omega), dgt_toNat]
      omega

theorem nDigits_le : ∀ (k u : Nat), 1 ≤ k → u < 10 ^ k → nDigits u ≤ k
  | 0, _, h, _ => by omega
  | k + 1, u, _, h => by
    by_cases h10 : u < 10
    · rw [nDigits_small h10]; omega
    · rw [nDigits_big h10]
      by_cases hk : k = 0
      · subst hk; simp at h; omega
      · have := nDigits_le k (u / 10) (by omega) (by rw [Nat.pow_succ] at h; omega)
        omega

theorem foldl_lt : ∀ (l : List UInt8), (∀ c ∈ l, IsDig c) → ∀ a : Nat, l.foldl (fun a c => a * 10 + (c.toNat - 48)) a < (a + 1) * 10 ^ l.length
  | [], _, a => by simp
  | c :: l, h, a => by
    have h1 := foldl_lt l (fun c hc => h c (by simp [hc])) (a * 10 + (c.toNat - 48))
    have h2 := h c (by simp)
    unfold IsDig at h2
    rw [List.foldl_cons, List.length_cons, Nat.pow_succ]
    have h3 : (a * 10 + (c.toNat - 48) + 1) * 10 ^ l.length ≤ ((a + 1) * 10) * 10 ^ l.length := Nat.mul_le_mul_right _ (by omega)
    have h4 : ((a + 1) * 10) * 10 ^ l.length = (a + 1) * (10 ^ l.length * 10) := by rw [Nat.mul_assoc, Nat.mul_comm 10]
    omega
theorem val_lt (l : List UInt8) (h : ∀ c ∈ l, IsDig c) : val l < 10 ^ l.length := by
  have := foldl_lt l h 0
  simpa [val] using this

theorem take_succ' (l : List UInt8) (k : Nat) (h : k < l.length) : l.take (k + 1) = l.take k ++ [l[k]] := List.take_succ_eq_append_getElem h

/-- One step of reading a row of digits. -/
theorem val_take (l : List UInt8) (k : Nat) (h : k < l.length) : val (l.take (k + 1)) = val (l.take k) * 10 + (l[k].toNat - 48) := by
  rw [take_succ' l k h, val_snoc]

/-! ### Strings and lists of bytes -/
theorem sz (S : ByteArray) : S.size = S.data.toList.length := by rw [Array.length_toList]; rfl
theorem at_list (S : ByteArray) (l : List UInt8) (h : S.data.toList = l) (k : Nat) (hk : k < S.size) (hk' : k < l.length) : S[k] = l[k] := by
  subst h
  rw [ByteArray.getElem_eq_getElem_data]
  simp
theorem ext_list (S : ByteArray) (a : Nat) : (S.extract a S.size).data.toList = S.data.toList.drop a := by
  obtain ⟨⟨l⟩⟩ := S
  simp [ByteArray.size]
  exact List.take_of_length_le (by rw [List.length_drop]; exact Nat.le_refl _)

theorem dec_step (q : Nat) : decDigits q = (if q / 10 = 0 then [] else decDigits (q / 10)) ++ [dgt q] := by
  by_cases h : q < 10
  · rw [if_pos (by omega), dec_small h]
    rfl
  · rw [if_neg (by omega), dec_big h]
end Go.Proofs.Qxb6605506a
