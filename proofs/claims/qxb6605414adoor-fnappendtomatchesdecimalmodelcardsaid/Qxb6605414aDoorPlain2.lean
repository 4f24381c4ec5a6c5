/- The plain mathematics of reading a quantity's text back: no Go in sight. -/
import Derived.Test.Qxb6605414aDoorPlain
namespace Go.Proofs.Qxb6605414aDoor
open Go.Lib (decDigits nDigits decDigits_length)

/-- What the law's second loop has after k rounds: the fraction's digits, zeros behind them. -/
def fv (l : List UInt8) (k : Nat) : Nat := val ((l ++ [48, 48, 48]).take k)
theorem fv_zero (l : List UInt8) : fv l 0 = 0 := by simp [fv, val]
theorem fv_lt (l : List UInt8) (k : Nat) (h : k < l.length) : fv l (k + 1) = fv l k * 10 + (l[k].toNat - 48) := by
  unfold fv
  rw [val_take _ k (by simp; omega), List.getElem_append_left h]
theorem fv_ge (l : List UInt8) (k : Nat) (h : l.length ≤ k) (h3 : k < 3) : fv l (k + 1) = fv l k * 10 := by
  unfold fv
  rw [val_take _ k (by simp; omega), List.getElem_append_right h]
  have : ([48, 48, 48] : List UInt8)[k - l.length]'(by simp; omega) = 48 := by
    rcases (show k - l.length = 0 ∨ k - l.length = 1 ∨ k - l.length = 2 from by omega) with e | e | e <;> simp [e]
  rw [this]
  rfl
theorem fv_bd (l : List UInt8) (hl : ∀ c ∈ l, IsDig c) (k : Nat) (h : k ≤ 3) : fv l k ≤ 999 := by
  unfold fv
  have h1 : ∀ c ∈ (l ++ [48, 48, 48]).take k, IsDig c := by
    intro c hc
    rcases List.mem_append.1 (List.mem_of_mem_take hc) with h | h
    · exact hl c h
    · simp at h; subst h; unfold IsDig; decide
  have h2 := val_lt _ h1
  have h3 : ((l ++ [48, 48, 48]).take k).length ≤ 3 := by rw [List.length_take]; omega
  have h4 : 10 ^ ((l ++ [48, 48, 48]).take k).length ≤ 10 ^ 3 := Nat.pow_le_pow_right (by omega) h3
  omega
theorem fv_fdig (f : Nat) (h : f < 1000) : fv (fdig f) 3 = f := by
  unfold fdig
  split
  · simp [fv, val, dgt_toNat]; omega
  · split
    · simp [fv, val, dgt_toNat]; omega
    · simp [fv, val, dgt_toNat]; omega
theorem fdig_len (f : Nat) : 1 ≤ (fdig f).length ∧ (fdig f).length ≤ 3 := by
  unfold fdig
  split
  · simp
  · split <;> simp
theorem fdig_last (f : Nat) (h : f < 1000) (h0 : f ≠ 0) (q : Nat) (hq : (fdig f).length = q + 1) : ((fdig f)[q]'(by omega)).toNat ≠ 48 := by
  have key : ∀ l : List UInt8, l = fdig f → ∀ hql : l.length = q + 1, (l[q]'(by omega)).toNat ≠ 48 := by
    intro l hl hql
    unfold fdig at hl
    split at hl
    · subst hl
      simp at hql
      subst hql
      simp [dgt_toNat]
      omega
    · split at hl
      · subst hl
        simp at hql
        subst hql
        simp [dgt_toNat]
        omega
      · subst hl
        simp at hql
        subst hql
        simp [dgt_toNat]
        omega
  exact key _ rfl hq

/-- The first k digits of a numeral of at most sixteen. -/
theorem val_take_bd (l : List UInt8) (hl : ∀ c ∈ l, IsDig c) (k : Nat) (hk : k ≤ l.length) (h16 : l.length ≤ 16) : val (l.take k) ≤ 9999999999999999 := by
  have h1 := val_lt (l.take k) (fun c hc => hl c (List.mem_of_mem_take hc))
  have h3 : (l.take k).length ≤ 16 := by rw [List.length_take]; omega
  have h4 : 10 ^ (l.take k).length ≤ 10 ^ 16 := Nat.pow_le_pow_right (by omega) h3
  omega

theorem dec_len16 (m : Nat) (h : m ≤ 9223372036854775807) : 1 ≤ (decDigits (m / 1000)).length ∧ (decDigits (m / 1000)).length ≤ 16 := by
  rw [decDigits_length]
  exact ⟨Go.Lib.nDigits_pos _, nDigits_le 16 _ (by omega) (by omega)⟩

theorem qmag_frac0 {m : Nat} (h : m % 1000 = 0) : frac (m % 1000) = [] := by simp [frac, h]
theorem qmag_frac1 {m : Nat} (h : m % 1000 ≠ 0) : frac (m % 1000) = 46 :: fdig (m % 1000) := by simp [frac, h]
theorem frac_not_dig (f : Nat) : ∀ c l, frac f = c :: l → ¬ IsDig c := by
  intro c l h
  unfold frac at h
  split at h
  · cases h
  · cases h
    unfold IsDig
    decide

/-! ### Strings and lists of bytes -/
theorem sz (S : ByteArray) : S.size = S.data.toList.length := by rw [Array.length_toList]; rfl
theorem at_list (S : ByteArray) (l : List UInt8) (h : S.data.toList = l) (k : Nat) (hk : k < S.size) (hk' : k < l.length) : S[k] = l[k] := by
  subst h
  rw [ByteArray.getElem_eq_getElem_data]
  simp
theorem ext_list (S : ByteArray) (a : Nat) : (S.extract a S.size).data.toList = S.data.toList.drop a := by
  obtain ⟨⟨l⟩⟩ := S
  simp [ByteArray.size]
  exact List.take_of_length_le (by rw [List.length_drop]; exact Nat.le_refl _)

end Go.Proofs.Qxb6605414aDoor
