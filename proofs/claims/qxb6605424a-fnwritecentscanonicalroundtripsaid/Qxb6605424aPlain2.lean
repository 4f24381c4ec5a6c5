/- The plain mathematics of reading a text of cents back: no Go in sight. -/
import Derived.Test.Qxb6605424aPlain
namespace Go.Proofs.Qxb6605424a
open Go.Lib (decDigits nDigits decDigits_length)

/-- What the law's loop has after k bytes: the digits among them, read as a number. -/
def cv (l : List UInt8) (k : Nat) : Nat := val ((l.take k).filter (fun c => c != 46))
theorem cv_zero (l : List UInt8) : cv l 0 = 0 := by simp [cv, val]
theorem cv_point (l : List UInt8) (k : Nat) (h : k < l.length) (hp : l[k] = 46) : cv l (k + 1) = cv l k := by
  unfold cv
  rw [take_succ' l k h, List.filter_append, hp]
  simp
theorem cv_digit (l : List UInt8) (k : Nat) (h : k < l.length) (hd : IsDig l[k]) : cv l (k + 1) = cv l k * 10 + (l[k].toNat - 48) := by
  unfold cv
  have hne : (l[k] != 46) = true := by
    rw [bne_iff_ne]
    intro e
    unfold IsDig at hd
    rw [e] at hd
    revert hd
    decide
  rw [take_succ' l k h, List.filter_append, List.filter_cons, hne]
  simp only [↓reduceIte, List.filter_nil]
  rw [val_snoc]
theorem cv_mono (l : List UInt8) (hl : ∀ c ∈ l, IsDig c ∨ c = 46) (k : Nat) (h : k < l.length) : cv l k ≤ cv l (k + 1) := by
  rcases hl _ (List.getElem_mem h) with hd | hp
  · rw [cv_digit l k h hd]; omega
  · rw [cv_point l k h hp]; exact Nat.le_refl _
theorem cv_le (l : List UInt8) (hl : ∀ c ∈ l, IsDig c ∨ c = 46) : ∀ (j k : Nat), k + j ≤ l.length → cv l k ≤ cv l (k + j)
  | 0, k, _ => Nat.le_refl _
  | j + 1, k, h => Nat.le_trans (cv_le l hl j k (by omega)) (cv_mono l hl (k + j) (by omega))
theorem dig_ne {c : UInt8} (h : IsDig c) : (c != 46) = true := by
  rw [bne_iff_ne]
  rintro rfl
  unfold IsDig at h
  revert h
  decide
theorem filter_dec (u : Nat) : (decDigits u).filter (fun c => c != 46) = decDigits u := List.filter_eq_self.2 fun c hc => dig_ne (dec_all u c hc)
theorem cv_all (m : Nat) : cv (cmag m) (cmag m).length = m := by
  unfold cv
  rw [List.take_length]
  unfold cmag
  rw [List.filter_append, filter_dec]
  have e : ([46, dgt (m / 10), dgt m] : List UInt8).filter (fun c => c != 46) = [dgt (m / 10)] ++ [dgt m] := by
    simp [dig_ne (isDig_dgt (m / 10)), dig_ne (isDig_dgt m)]
  rw [e, ← List.append_assoc, val_snoc, val_snoc, val_dec, dgt_toNat, dgt_toNat]
  omega
theorem cmag_chars (m : Nat) : ∀ c ∈ cmag m, IsDig c ∨ c = 46 := by
  intro c hc
  unfold cmag at hc
  rcases List.mem_append.1 hc with h | h
  · exact .inl (dec_all _ c h)
  · simp at h
    rcases h with rfl | rfl | rfl
    · exact .inr rfl
    · exact .inl (isDig_dgt _)
    · exact .inl (isDig_dgt _)
/-- Every beginning reads as at most the whole. -/
theorem cv_bd (m k : Nat) (h : k ≤ (cmag m).length) : cv (cmag m) k ≤ m := by
  have := cv_le (cmag m) (cmag_chars m) ((cmag m).length - k) k (by omega)
  rw [show k + ((cmag m).length - k) = (cmag m).length by omega, cv_all] at this
  exact this
/-- Where the point stands. -/
theorem cmag_point (m : Nat) (h : (decDigits (m / 100)).length < (cmag m).length) : (cmag m)[(decDigits (m / 100)).length] = 46 := by
  have : ∀ l, l = cmag m → ∀ h : (decDigits (m / 100)).length < l.length, l[(decDigits (m / 100)).length] = 46 := by
    intro l hl h
    unfold cmag at hl
    subst hl
    rw [List.getElem_append_right (Nat.le_refl _)]
    simp
  exact this _ rfl h
theorem cmag_digit (m k : Nat) (h : k < (cmag m).length) (hk : k ≠ (decDigits (m / 100)).length) : IsDig (cmag m)[k] := by
  have : ∀ l, l = cmag m → ∀ h : k < l.length, IsDig l[k] := by
    intro l hl h
    unfold cmag at hl
    subst hl
    by_cases hlt : k < (decDigits (m / 100)).length
    · rw [List.getElem_append_left hlt]
      exact dec_all _ _ (List.getElem_mem hlt)
    · rw [List.getElem_append_right (by omega)]
      rw [List.length_append] at h
      simp at h
      rcases (show k - (decDigits (m / 100)).length = 1 ∨ k - (decDigits (m / 100)).length = 2 from by omega) with e | e
      · simp only [e]; exact isDig_dgt _
      · simp only [e]; exact isDig_dgt _
  exact this _ rfl h
theorem cmag_len' (m : Nat) : (cmag m).length = (decDigits (m / 100)).length + 3 := by simp [cmag]
/-- No zero ahead of other digits of the whole part. -/
theorem cmag_head (m : Nat) (h : 0 < (cmag m).length) (h1 : 1 < (decDigits (m / 100)).length) : (cmag m)[0].toNat ≠ 48 := by
  cases hc : decDigits (m / 100) with
  | nil => exact absurd hc (dec_ne _)
  | cons c l =>
    have h2 := dec_head (m / 100) c l hc (by
      rintro rfl
      rw [hc] at h1
      simp at h1)
    have e : ∀ l', l' = cmag m → ∀ h : 0 < l'.length, l'[0] = c := by
      intro l' hl' h
      unfold cmag at hl'
      rw [hc] at hl'
      subst hl'
      rfl
    rw [e _ rfl h]
    intro e'
    exact h2 (UInt8.toNat_inj.1 (by simpa using e'))
end Go.Proofs.Qxb6605424a
