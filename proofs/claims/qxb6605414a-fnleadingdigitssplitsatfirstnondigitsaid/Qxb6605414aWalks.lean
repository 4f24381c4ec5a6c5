import Derived.Test.Qxb6605414aRows
import Derived.WalkKit
import Derived.ProofKit
import Derived.OpenShut
import Derived.ShutString
import Derived.Deep.QuietTactic
import Derived.BigQuiet
namespace Go.Proofs.Qxb6605414a
open Go.ChangeShapes Go.WideShapes Go.ChangeAt Go.RowKit
open Go.ChangeMaps (open_string shut_string)
set_option linter.unusedVariables false

/-- Is the byte an ASCII digit? -/
def digB (c : Int) : Bool := decide (48 ≤ c) && decide (c ≤ 57)

theorem ret_strs {a b c d : ByteArray} (h1 : a = c) (h2 : b = d) : Ending.returned (.tuple #[.string a, .string b]) = .returned (.tuple #[.string c, .string d]) := by rw [h1, h2]

set_option maxHeartbeats 400000 in
theorem ld_any (s : ByteArray) (w : World) (hs : s.size ≤ maxLen) :
    Calls Try.prog 7 #[.string s] w fun e w' => ∃ n : Nat, n ≤ s.size ∧ (∀ k : Nat, k < n → digB s[k]!.toNat = true) ∧ (n < s.size → digB s[n]!.toNat = false) ∧
      e = .returned (.tuple #[.string (s.extract 0 n), .string (s.extract n s.size)]) ∧ ∃ nq, w' = w.drewN nq := by
  unfold maxLen at hs
  go_enter Try.func7, Try.ntmps7
  go_wp2
  go_loop [4] (fun i => ∃ k : Nat, k ≤ s.size ∧ i = .int .i64 k ∧ ∀ j : Nat, j < k → digB s[j]!.toNat = true) (fun i => s.size - (intOf i).toNat)
  case atStart => exact ⟨0, Nat.zero_le _, rfl, fun j hj => absurd hj (Nat.not_lt_zero _)⟩
  case round =>
    obtain ⟨k, hk, rfl, hall⟩ := hrel
    have HA : Hid (∀ j : Nat, j < k → digB s[j]!.toNat = true) := hall
    clear hall
    by_cases hlt : k < s.size
    · have HB : Hid (s[k]! = s[k]) := getElem!_pos s k hlt
      go_wp2
      case roundEnd =>
        go_round
        case rel =>
          refine ⟨k + 1, by omega, by go_num, fun j hj => ?_⟩
          by_cases hjk : j = k
          · subst hjk
            rw [HB.out]
            simp [digB]
            omega
          · exact HA.out j (by omega)
        case measure => simp [intOf]; omega
      all_goals
        have HD : Hid (digB s[k]!.toNat = false) := by
          show digB s[k]!.toNat = false
          rw [HB.out]
          simp [digB]
          omega
        go_quiet (fail)
        go_wp2
        go_ret2
        exact ⟨k, by omega, HA.out, fun _ => HD.out, rfl, _, rfl⟩
    · have hke : k = s.size := by omega
      subst hke
      go_wp2
      go_quiet (fail)
      go_wp2
      go_ret2
      exact ⟨_, by omega, HA.out, fun h => absurd h (Nat.lt_irrefl _), ret_strs (by simp) (by simp), _, rfl⟩

theorem isdig_any (c : Int) (w : World) :
    Calls Try.prog 6 #[.int .u8 c] w fun e w' => e = .returned (.bool (digB c)) ∧ w' = w := by
  by_cases h1 : 48 ≤ c
  · by_cases h2 : c ≤ 57
    · have hd : digB c = true := by simp [digB, h1, h2]
      rw [hd]
      go_enter Try.func6, Try.ntmps6
      go_wp2
      go_ret
      exact ⟨rfl, rfl⟩
    · have hd : digB c = false := by simp [digB, h2]
      rw [hd]
      go_enter Try.func6, Try.ntmps6
      go_wp2
      go_ret
      exact ⟨rfl, rfl⟩
  · have hd : digB c = false := by simp [digB, h1]
    rw [hd]
    go_enter Try.func6, Try.ntmps6
    go_wp2
    go_ret
    exact ⟨rfl, rfl⟩

theorem zzld_any (s : ByteArray) (w : World) (hs : s.size ≤ maxLen) :
    Calls Try.prog 5 #[.string s] w fun e w' => ∃ n : Nat, n ≤ s.size ∧ (∀ k : Nat, k < n → digB s[k]!.toNat = true) ∧ (n < s.size → digB s[n]!.toNat = false) ∧
      e = .returned (.tuple #[.string (s.extract 0 n), .string (s.extract n s.size)]) ∧ ∃ nq, w' = w.drewN nq := by
  go_enter Try.func5, Try.ntmps5
  go_wp2_with (go_at_call 7; refine (ld_any s _ hs).mono ?_; rintro e w' ⟨n, hn, h1, h2, rfl, nq, rfl⟩)
  go_ret2
  exact ⟨n, hn, h1, h2, rfl, nq, rfl⟩

theorem bytes_small (s : ByteArray) (w : World) (h : s.size ≤ 1048576) :
    Calls Try.prog 4 #[.string s] w fun e w' => e = .returned (.bool true) ∧ w' = w := by
  go_enter Try.func4, Try.ntmps4
  go_wp2
  go_ret
  exact ⟨rfl, rfl⟩

theorem bytes_large (s : ByteArray) (w : World) (h : 1048576 < s.size) (hs : s.size ≤ maxLen) :
    Calls Try.prog 4 #[.string s] w fun e w' => e = .returned (.bool false) ∧ w' = w := by
  unfold maxLen at hs
  go_enter Try.func4, Try.ntmps4
  go_wp2
  go_ret
  exact ⟨rfl, rfl⟩

/-- leadingDigits, its two strings under names of their own. -/
theorem zzld_abs (s : ByteArray) (w : World) (hs : s.size ≤ maxLen) :
    Calls Try.prog 5 #[.string s] w fun e w' => ∃ D R : ByteArray, (D.size + R.size = s.size ∧ (∀ k (h1 : k < D.size) (h2 : k < s.size), D[k] = s[k]) ∧
      (∀ k (h1 : k < R.size) (h2 : D.size + k < s.size), R[k] = s[D.size + k]) ∧ (∀ k (h : k < D.size), digB D[k].toNat = true) ∧ (∀ h : 0 < R.size, digB R[0].toNat = false)) ∧
      e = .returned (.tuple #[.string D, .string R]) ∧ ∃ nq, w' = w.drewN nq := by
  refine (zzld_any s w hs).mono ?_
  rintro e w' ⟨n, hn, h1, h2, rfl, nq, rfl⟩
  have hD : (s.extract 0 n).size = n := by simp; omega
  have hR : (s.extract n s.size).size = s.size - n := by simp
  refine ⟨s.extract 0 n, s.extract n s.size, ⟨by omega, ?_, ?_, ?_, ?_⟩, rfl, nq, rfl⟩
  · intro k h1 h2
    rw [ByteArray.getElem_extract]
    simp
  · intro k h1 h2
    rw [ByteArray.getElem_extract]
    simp [hD]
  · intro k h
    have := h1 k (by omega)
    rw [getElem!_pos s k (by omega)] at this
    rw [ByteArray.getElem_extract]
    simpa using this
  · intro h
    have := h2 (by omega)
    rw [getElem!_pos s n (by omega)] at this
    rw [ByteArray.getElem_extract]
    simpa using this
end Go.Proofs.Qxb6605414a
