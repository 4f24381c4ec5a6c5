/- Contracts of leadingDigits, ZZLeadingDigits and zzMagnitude at this dump. -/
import Derived.Test.Qxb6605414aDoorRows
import Derived.Test.Qxb6605414aDoorPlain2
import Derived.WalkKit
import Derived.ProofKit
import Derived.OpenShut
import Derived.Deep.QuietTactic
import Derived.BigQuiet
import Derived.Lib.Hide
namespace Go.Proofs.Qxb6605414aDoor
open Go.ChangeShapes Go.WideShapes Go.ChangeAt Go.RowKit
set_option linter.unusedVariables false

/-- Is the byte an ASCII digit? -/
def digB (c : Int) : Bool := decide (48 ≤ c) && decide (c ≤ 57)

theorem ret_strs {a b c d : ByteArray} (h1 : a = c) (h2 : b = d) : Ending.returned (.tuple #[.string a, .string b]) = .returned (.tuple #[.string c, .string d]) := by rw [h1, h2]

set_option maxHeartbeats 400000 in
theorem ld_any (s : ByteArray) (w : World) (hs : s.size ≤ maxLen) :
    Calls Tryd.prog 12 #[.string s] w fun e w' => ∃ n : Nat, n ≤ s.size ∧ (∀ k : Nat, k < n → digB s[k]!.toNat = true) ∧ (n < s.size → digB s[n]!.toNat = false) ∧
      e = .returned (.tuple #[.string (s.extract 0 n), .string (s.extract n s.size)]) ∧ ∃ nq, w' = w.drewN nq := by
  unfold maxLen at hs
  go_enter Tryd.func12, Tryd.ntmps12
  go_wp2
  go_loop [4] (fun i => ∃ k : Nat, k ≤ s.size ∧ i = .int .i64 k ∧ ∀ j : Nat, j < k → digB s[j]!.toNat = true) (fun i => s.size - (intOf i).toNat)
  case atStart => exact ⟨0, Nat.zero_le _, rfl, fun j hj => absurd hj (Nat.not_lt_zero _)⟩
  case round =>
    obtain ⟨k, hk, rfl, hall⟩ := hrel
    have HA : Hid (∀ j : Nat, j < k → digB s[j]!.toNat = true) := hall
    clear hall
    by_cases hlt : k < s.size
    · have HB : Hid (s[k]! = s[k]) := getElem!_pos s k hlt
      go_wp2
      case roundEnd =>
        go_round
        case rel =>
          refine ⟨k + 1, by omega, by go_num, fun j hj => ?_⟩
          by_cases hjk : j = k
          · subst hjk
            rw [HB.out]
            simp [digB]
            omega
          · exact HA.out j (by omega)
        case measure => simp [intOf]; omega
      all_goals
        have HD : Hid (digB s[k]!.toNat = false) := by
          show digB s[k]!.toNat = false
          rw [HB.out]
          simp [digB]
          omega
        go_quiet (fail)
        go_wp2
        go_ret2
        exact ⟨k, by omega, HA.out, fun _ => HD.out, rfl, _, rfl⟩
    · have hke : k = s.size := by omega
      subst hke
      go_wp2
      go_quiet (fail)
      go_wp2
      go_ret2
      exact ⟨_, by omega, HA.out, fun h => absurd h (Nat.lt_irrefl _), ret_strs (by simp) (by simp), _, rfl⟩

theorem zzld_any (s : ByteArray) (w : World) (hs : s.size ≤ maxLen) :
    Calls Tryd.prog 9 #[.string s] w fun e w' => ∃ n : Nat, n ≤ s.size ∧ (∀ k : Nat, k < n → digB s[k]!.toNat = true) ∧ (n < s.size → digB s[n]!.toNat = false) ∧
      e = .returned (.tuple #[.string (s.extract 0 n), .string (s.extract n s.size)]) ∧ ∃ nq, w' = w.drewN nq := by
  go_enter Tryd.func9, Tryd.ntmps9
  go_wp2_with (go_at_call 12; refine (ld_any s _ hs).mono ?_; rintro e w' ⟨n, hn, h1, h2, rfl, nq, rfl⟩)
  go_ret2
  exact ⟨n, hn, h1, h2, rfl, nq, rfl⟩


theorem digB_iff (c : UInt8) : digB (c.toNat : Int) = true ↔ IsDig c := by
  unfold digB IsDig
  simp
  omega

/-- leadingDigits at a string whose first digits and whose rest are known. -/
theorem zzld_split (S : ByteArray) (ds rest : List UInt8) (hS : S.data.toList = ds ++ rest) (hd : ∀ c ∈ ds, IsDig c) (hr : ∀ c l, rest = c :: l → ¬ IsDig c) (w : World) (hs : S.size ≤ maxLen) :
    Calls Tryd.prog 9 #[.string S] w fun e w' => ∃ D R : ByteArray, (D.data.toList = ds ∧ R.data.toList = rest) ∧ e = .returned (.tuple #[.string D, .string R]) ∧ ∃ nq, w' = w.drewN nq := by
  refine (zzld_any S w hs).mono ?_
  rintro e w' ⟨n, hn, h1, h2, rfl, nq, rfl⟩
  have hsz : S.size = ds.length + rest.length := by rw [sz, hS, List.length_append]
  have hnd : n = ds.length := by
    rcases Nat.lt_trichotomy n ds.length with h | h | h
    · have := h2 (by omega)
      rw [getElem!_pos S n (by omega), at_list S _ hS n (by omega) (by simp; omega), List.getElem_append_left h] at this
      have h3 := (digB_iff _).2 (hd _ (List.getElem_mem h))
      rw [h3] at this
      cases this
    · exact h
    · have := h1 ds.length h
      rw [getElem!_pos S ds.length (by omega), at_list S _ hS ds.length (by omega) (by simp; omega), List.getElem_append_right (Nat.le_refl _)] at this
      cases rest with
      | nil => simp at hsz; omega
      | cons c l =>
        simp at this
        exact absurd ((digB_iff c).1 this) (hr c l rfl)
  refine ⟨_, _, ⟨?_, ?_⟩, rfl, nq, rfl⟩
  · rw [ByteArray.data_extract, Array.toList_extract, hS, hnd]
    simp
  · rw [ext_list, hS, hnd]
    simp

theorem ret_int {k : IntKind} {a b : Int} (h : a = b) : Ending.returned (.int k a) = .returned (.int k b) := by rw [h]

/-- zzMagnitude. -/
theorem mag_any (t : Int) (h0 : -9223372036854775808 ≤ t) (h1 : t ≤ 9223372036854775807) (w : World) :
    Calls Tryd.prog 10 #[.int .i64 t] w fun e w' => e = .returned (.int .u64 (t.natAbs : Int)) ∧ w' = w := by
  by_cases h : t < 0
  · go_enter Tryd.func10, Tryd.ntmps10
    go_wp2
    go_ret
    exact ⟨ret_int (by omega), rfl⟩
  · go_enter Tryd.func10, Tryd.ntmps10
    go_wp2
    go_ret
    exact ⟨ret_int (by omega), rfl⟩
end Go.Proofs.Qxb6605414aDoor
