/- The walks of zzUtoa and zzMagnitudeDigits. -/
import Derived.Test.Qxb6605506aAbs
import Derived.Test.Qxb6605506aTail
import Derived.Test.Qxb6605506aPlain
import Derived.Laws.IdiomStrings
namespace Go.Proofs.Qxb6605506a
open Go.ChangeShapes Go.WideShapes Go.ChangeAt Go.RowKit
set_option linter.unusedVariables false

theorem arr27 : Try.prog.underlying 27 = some (.array (Try.prog.arrayLen 27) (Try.prog.elem 27)) := by kernel_rfl
theorem len27 : Try.prog.arrayLen 27 = 20 := by kernel_rfl
theorem size27 (W : World) : (sizeOf (Try.prog.elem 27)).run Try.prog W = .ok 1 W := by kernel_rfl

/-- 'buf[k:]' -/
theorem slice27 (W : World) (b k L : Nat) (h : k + L = 20) (h1 : 1 ≤ L) :
    (Instr.sliceAt 27 (.pointer (some ⟨b, 0, none⟩)) (some (.int .i64 (k : Int))) none none).run Try.prog W = .ok (.slice (some ⟨b, k, none⟩) L L) W := by
  rw [run_sliceAt_array_l W 27 ⟨b, 0, none⟩ arr27 .i64 (k : Int) (by omega) (by rw [len27]; omega), size27, len27]
  have e1 : ¬ (20 = k) := by omega
  have e2 : 20 - k = L := by omega
  simp [Result.andThen, slicedAt, e1, e2, Addr.add_lit]

theorem cells_news {w : World} {b k : Nat} {l : List UInt8} (h : From w b k l) : ∀ j (hj : j < l.length), w.cell? ((⟨b, k, none⟩ : Addr).add j) = some (.int .u8 (l[j].toNat : Int)) := by
  intro j hj
  rw [Addr.add_lit]
  exact h j hj

theorem dec_len (m : Nat) (h : m ≤ 9223372036854775808) : 1 ≤ (Lib.decDigits m).length ∧ (Lib.decDigits m).length ≤ 19 := by
  rw [Lib.decDigits_length]
  exact ⟨Lib.nDigits_pos m, nDigits_le 19 m (by omega) (by omega)⟩

theorem zero_text (S : ByteArray) (h : S = ⟨#[48]⟩) : S.data.toList = Lib.decDigits 0 := by
  rw [h, dec_small (by omega)]
  rfl

set_option maxHeartbeats 1600000 in
set_option maxRecDepth 100000 in
theorem utoa_pos (m : Nat) (h1 : 1 ≤ m) (hm : m ≤ 9223372036854775808) (w : World) :
    Calls Try.prog 5 #[.int .u64 (m : Int)] w fun e w' => ∃ S : ByteArray, Hid (S.data.toList = Lib.decDigits m) ∧ e = .returned (.string S) ∧ Below w.heap.size w w' := by
  have HL := Lib.hid (dec_len m hm)
  have e0 : ((m : Int) == 0) = false := by rw [beq_eq_false_iff_ne]; omega
  go_enter Try.func5, Try.ntmps5
  go_wp2
  go_loopw [0, 4] (fun u i wr => ∃ (k q : Nat) (l : List UInt8), k ≤ 20 ∧ i = .int .i64 k ∧ u = .int .u64 (q : Int) ∧ q ≤ 9223372036854775808 ∧ Hid (k + l.length = 20 ∧ Lib.decDigits m = (if q = 0 then [] else Lib.decDigits q) ++ l) ∧ Rowy wr w.heap.size 20 ∧ From wr w.heap.size k l ∧ Below w.heap.size w wr ∧ wr.heap.size = w.heap.size + 1) (fun _ i _ => (intOf i).toNat)
  case atStart => exact ⟨20, m, [], by omega, rfl, rfl, hm, ⟨rfl, by rw [if_neg (by omega), List.append_nil]⟩, Rowy.new _ _ _ _ rfl, From.nil _ _ _, (Below.refl _ _).alloc (Nat.le_refl _) _, by simp⟩
  case round =>
    obtain ⟨k, q, l, hk, rfl, rfl, hq, HI, hr, hf, hb, hsz⟩ := hrel
    obtain ⟨hkl, hcm⟩ := HI.out
    have HD := Lib.hid (show 48 + (q : Int) % 10 = ((dgt q).toNat : Int) by rw [dgt_toNat]; omega)
    by_cases hq0 : q = 0
    · subst hq0
      rw [if_pos rfl, List.nil_append] at hcm
      have hl1 : 1 ≤ l.length := by have := HL.out.1; rw [hcm] at this; exact this
      have HC := Lib.hid hcm
      have HKL := Lib.hid hkl
      clear hcm hkl HI HD
      have hsl := fun W => slice27 W w.heap.size k l.length HKL.out hl1
      have hcv := run_convert_bytes_back (P := Try.prog) wr 28 9 5 ⟨w.heap.size, k, none⟩ l.length l Try.underlying28 Try.underlying5 Try.underlying9 (cells_news hf)
      obtain ⟨S, hS⟩ : ∃ S : ByteArray, S = ⟨l.toArray⟩ := ⟨_, rfl⟩
      rw [← hS] at hcv
      have HS : Hid (S.data.toList = Lib.decDigits m) := by
        show S.data.toList = Lib.decDigits m
        rw [hS, HC.out]
      clear hS
      go_wp2
      go_ret
      exact ⟨S, HS, rfl, hb⟩
    · rw [if_neg hq0] at hcm
      have hk1 : 1 ≤ k := by have := HL.out.2; rw [hcm, List.length_append] at this; omega
      obtain ⟨k, rfl⟩ : ∃ k', k = k' + 1 := ⟨k - 1, by omega⟩
      obtain ⟨v0, hv0⟩ := hr.any k (by omega)
      have hfr := hr.free k (by omega)
      have hqp : 0 < q := by omega
      have HC := Lib.hid hcm
      have HKL := Lib.hid hkl
      clear hcm hkl HI
      clear hq0
      go_wp2
      go_roundw
      case rel => exact ⟨k, q / 10, dgt q :: l, by omega, by go_num, by go_num, by omega, ⟨by have := HKL.out; simp; omega, by rw [← List.singleton_append, ← List.append_assoc, ← dec_step, HC.out]⟩, hr.set _ _, hf.cons hr (by omega) (dgt q) _ HD.out, hb.setCell (by simp) _, by simp [hsz]⟩
      case measure => simp [intOf]

theorem utoa_any (m : Nat) (hm : m ≤ 9223372036854775808) (w : World) :
    Calls Try.prog 5 #[.int .u64 (m : Int)] w fun e w' => ∃ S : ByteArray, Hid (S.data.toList = Lib.decDigits m) ∧ e = .returned (.string S) ∧ Below w.heap.size w w' := by
  by_cases h : 1 ≤ m
  · exact utoa_pos m h hm w
  · obtain rfl : m = 0 := by omega
    go_enter Try.func5, Try.ntmps5
    go_wp2
    go_ret
    exact ⟨_, zero_text _ rfl, rfl, Below.refl _ _⟩
set_option maxHeartbeats 1600000 in
set_option maxRecDepth 100000 in
theorem mag_pos (m : Nat) (h1 : 1 ≤ m) (hm9 : m ≤ 9223372036854775807) (w : World) :
    Calls Try.prog 6 #[.int .i64 (m : Int)] w fun e w' => ∃ S : ByteArray, Hid (S.data.toList = Lib.decDigits m) ∧ e = .returned (.string S) ∧ Below w.heap.size w w' := by
  have hm : m ≤ 9223372036854775808 := by omega
  have HL := Lib.hid (dec_len m hm)
  have e0 : ((m : Int) == 0) = false := by rw [beq_eq_false_iff_ne]; omega
  go_enter Try.func6, Try.ntmps6
  go_wp2
  go_loopw [0, 4] (fun u i wr => ∃ (k q : Nat) (l : List UInt8), k ≤ 20 ∧ i = .int .i64 k ∧ u = .int .i64 (q : Int) ∧ q ≤ 9223372036854775807 ∧ Hid (k + l.length = 20 ∧ Lib.decDigits m = (if q = 0 then [] else Lib.decDigits q) ++ l) ∧ Rowy wr w.heap.size 20 ∧ From wr w.heap.size k l ∧ Below w.heap.size w wr ∧ wr.heap.size = w.heap.size + 1) (fun _ i _ => (intOf i).toNat)
  case atStart => exact ⟨20, m, [], by omega, rfl, rfl, hm9, ⟨rfl, by rw [if_neg (by omega), List.append_nil]⟩, Rowy.new _ _ _ _ rfl, From.nil _ _ _, (Below.refl _ _).alloc (Nat.le_refl _) _, by simp⟩
  case round =>
    obtain ⟨k, q, l, hk, rfl, rfl, hq, HI, hr, hf, hb, hsz⟩ := hrel
    obtain ⟨hkl, hcm⟩ := HI.out
    have HD := Lib.hid (show 48 + (q : Int) % 10 = ((dgt q).toNat : Int) by rw [dgt_toNat]; omega)
    by_cases hq0 : q = 0
    · subst hq0
      rw [if_pos rfl, List.nil_append] at hcm
      have hl1 : 1 ≤ l.length := by have := HL.out.1; rw [hcm] at this; exact this
      have HC := Lib.hid hcm
      have HKL := Lib.hid hkl
      clear hcm hkl HI HD
      have hsl := fun W => slice27 W w.heap.size k l.length HKL.out hl1
      have hcv := run_convert_bytes_back (P := Try.prog) wr 28 9 5 ⟨w.heap.size, k, none⟩ l.length l Try.underlying28 Try.underlying5 Try.underlying9 (cells_news hf)
      obtain ⟨S, hS⟩ : ∃ S : ByteArray, S = ⟨l.toArray⟩ := ⟨_, rfl⟩
      rw [← hS] at hcv
      have HS : Hid (S.data.toList = Lib.decDigits m) := by
        show S.data.toList = Lib.decDigits m
        rw [hS, HC.out]
      clear hS
      go_wp2
      go_ret
      exact ⟨S, HS, rfl, hb⟩
    · rw [if_neg hq0] at hcm
      have hk1 : 1 ≤ k := by have := HL.out.2; rw [hcm, List.length_append] at this; omega
      obtain ⟨k, rfl⟩ : ∃ k', k = k' + 1 := ⟨k - 1, by omega⟩
      obtain ⟨v0, hv0⟩ := hr.any k (by omega)
      have hfr := hr.free k (by omega)
      have hqp : 0 < q := by omega
      have HC := Lib.hid hcm
      have HKL := Lib.hid hkl
      clear hcm hkl HI
      have en : ((q : Int) != 0) = true := by rw [bne_iff_ne]; omega
      clear hq0
      go_wp2
      go_roundw
      case rel => exact ⟨k, q / 10, dgt q :: l, by omega, by go_num, by go_num, by omega, ⟨by have := HKL.out; simp; omega, by rw [← List.singleton_append, ← List.append_assoc, ← dec_step, HC.out]⟩, hr.set _ _, hf.cons hr (by omega) (dgt q) _ HD.out, hb.setCell (by simp) _, by simp [hsz]⟩
      case measure => simp [intOf]

set_option maxHeartbeats 1600000 in
set_option maxRecDepth 100000 in
theorem mag_neg (m : Nat) (h1 : 1 ≤ m) (hm9 : m ≤ 9223372036854775808) (w : World) :
    Calls Try.prog 6 #[.int .i64 (-(m : Int))] w fun e w' => ∃ S : ByteArray, Hid (S.data.toList = Lib.decDigits m) ∧ e = .returned (.string S) ∧ Below w.heap.size w w' := by
  have hm : m ≤ 9223372036854775808 := by omega
  have HL := Lib.hid (dec_len m hm)
  have e0 : (-(m : Int) == 0) = false := by rw [beq_eq_false_iff_ne]; omega
  go_enter Try.func6, Try.ntmps6
  go_wp2
  go_loopw [0, 4] (fun u i wr => ∃ (k q : Nat) (l : List UInt8), k ≤ 20 ∧ i = .int .i64 k ∧ u = .int .i64 (-(q : Int)) ∧ q ≤ 9223372036854775808 ∧ Hid (k + l.length = 20 ∧ Lib.decDigits m = (if q = 0 then [] else Lib.decDigits q) ++ l) ∧ Rowy wr w.heap.size 20 ∧ From wr w.heap.size k l ∧ Below w.heap.size w wr ∧ wr.heap.size = w.heap.size + 1) (fun _ i _ => (intOf i).toNat)
  case atStart => exact ⟨20, m, [], by omega, rfl, rfl, hm9, ⟨rfl, by rw [if_neg (by omega), List.append_nil]⟩, Rowy.new _ _ _ _ rfl, From.nil _ _ _, (Below.refl _ _).alloc (Nat.le_refl _) _, by simp⟩
  case round =>
    obtain ⟨k, q, l, hk, rfl, rfl, hq, HI, hr, hf, hb, hsz⟩ := hrel
    obtain ⟨hkl, hcm⟩ := HI.out
    have HD := Lib.hid (show 48 + (q : Int) % 10 = ((dgt q).toNat : Int) by rw [dgt_toNat]; omega)
    by_cases hq0 : q = 0
    · subst hq0
      rw [if_pos rfl, List.nil_append] at hcm
      have hl1 : 1 ≤ l.length := by have := HL.out.1; rw [hcm] at this; exact this
      have HC := Lib.hid hcm
      have HKL := Lib.hid hkl
      clear hcm hkl HI HD
      have hsl := fun W => slice27 W w.heap.size k l.length HKL.out hl1
      have hcv := run_convert_bytes_back (P := Try.prog) wr 28 9 5 ⟨w.heap.size, k, none⟩ l.length l Try.underlying28 Try.underlying5 Try.underlying9 (cells_news hf)
      obtain ⟨S, hS⟩ : ∃ S : ByteArray, S = ⟨l.toArray⟩ := ⟨_, rfl⟩
      rw [← hS] at hcv
      have HS : Hid (S.data.toList = Lib.decDigits m) := by
        show S.data.toList = Lib.decDigits m
        rw [hS, HC.out]
      clear hS
      go_wp2
      go_ret
      exact ⟨S, HS, rfl, hb⟩
    · rw [if_neg hq0] at hcm
      have hk1 : 1 ≤ k := by have := HL.out.2; rw [hcm, List.length_append] at this; omega
      obtain ⟨k, rfl⟩ : ∃ k', k = k' + 1 := ⟨k - 1, by omega⟩
      obtain ⟨v0, hv0⟩ := hr.any k (by omega)
      have hfr := hr.free k (by omega)
      have hqp : 0 < q := by omega
      have HC := Lib.hid hcm
      have HKL := Lib.hid hkl
      clear hcm hkl HI
      have en : (-(q : Int) != 0) = true := by rw [bne_iff_ne]; omega
      clear hq0
      by_cases hd : q % 10 = 0
      · go_wp2
        go_roundw
        case rel => exact ⟨k, q / 10, dgt q :: l, by omega, by go_num, by go_num, by omega, ⟨by have := HKL.out; simp; omega, by rw [← List.singleton_append, ← List.append_assoc, ← dec_step, HC.out]⟩, hr.set _ _, hf.cons hr (by omega) (dgt q) _ (by rw [dgt_toNat]; omega), hb.setCell (by simp) _, by simp [hsz]⟩
        case measure => simp [intOf]
      · go_wp2
        go_roundw
        case rel => exact ⟨k, q / 10, dgt q :: l, by omega, by go_num, by go_num, by omega, ⟨by have := HKL.out; simp; omega, by rw [← List.singleton_append, ← List.append_assoc, ← dec_step, HC.out]⟩, hr.set _ _, hf.cons hr (by omega) (dgt q) _ (by rw [dgt_toNat]; omega), hb.setCell (by simp) _, by simp [hsz]⟩
        case measure => simp [intOf]

theorem mag_any (x : Int) (h0 : -9223372036854775808 ≤ x) (h1 : x ≤ 9223372036854775807) (w : World) :
    Calls Try.prog 6 #[.int .i64 x] w fun e w' => ∃ S : ByteArray, Hid (S.data.toList = Lib.decDigits x.natAbs) ∧ e = .returned (.string S) ∧ Below w.heap.size w w' := by
  by_cases hz : x = 0
  · subst hz
    go_enter Try.func6, Try.ntmps6
    go_wp2
    go_ret
    exact ⟨_, zero_text _ rfl, rfl, Below.refl _ _⟩
  · by_cases hneg : x < 0
    · obtain ⟨m, rfl⟩ : ∃ m : Nat, x = -(m : Int) := ⟨x.natAbs, by omega⟩
      rw [Int.natAbs_neg, Int.natAbs_natCast]
      exact mag_neg m (by omega) (by omega) w
    · obtain ⟨m, rfl⟩ : ∃ m : Nat, x = (m : Int) := ⟨x.toNat, by omega⟩
      rw [Int.natAbs_natCast]
      exact mag_pos m (by omega) (by omega) w
end Go.Proofs.Qxb6605506a
