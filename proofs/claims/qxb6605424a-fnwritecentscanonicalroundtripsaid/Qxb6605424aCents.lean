/- The walk of writeCents. -/
import Derived.Test.Qxb6605424aAbs
import Derived.Test.Qxb6605424aTail
import Derived.Test.Qxb6605424aPlain
import Derived.Laws.IdiomStrings
namespace Go.Proofs.Qxb6605424a
open Go.ChangeShapes Go.WideShapes Go.ChangeAt Go.RowKit
set_option linter.unusedVariables false

theorem arr28 : Try.prog.underlying 28 = some (.array (Try.prog.arrayLen 28) (Try.prog.elem 28)) := by kernel_rfl
theorem len28 : Try.prog.arrayLen 28 = 21 := by kernel_rfl
theorem size28 (W : World) : (sizeOf (Try.prog.elem 28)).run Try.prog W = .ok 1 W := by kernel_rfl

/-- 'b[k:]' -/
theorem slice28 (W : World) (b k L : Nat) (h : k + L = 21) (h1 : 1 ≤ L) :
    (Instr.sliceAt 28 (.pointer (some ⟨b, 0, none⟩)) (some (.int .i64 (k : Int))) none none).run Try.prog W = .ok (.slice (some ⟨b, k, none⟩) L L) W := by
  rw [run_sliceAt_array_l W 28 ⟨b, 0, none⟩ arr28 .i64 (k : Int) (by omega) (by rw [len28]; omega), size28, len28]
  have e1 : ¬ (21 = k) := by omega
  have e2 : 21 - k = L := by omega
  simp [Result.andThen, slicedAt, e1, e2, Addr.add_lit]

theorem cells_news {w : World} {b k : Nat} {l : List UInt8} (h : From w b k l) : ∀ j (hj : j < l.length), w.cell? ((⟨b, k, none⟩ : Addr).add j) = some (.int .u8 (l[j].toNat : Int)) := by
  intro j hj
  rw [Addr.add_lit]
  exact h j hj

/-- What is written when the loop's head is met: the place, what is left of the number, the bytes. -/
def Part (m p q : Nat) (l : List UInt8) : Prop :=
  (p = 0 ∧ q = m ∧ l = []) ∨ (p = 1 ∧ q = m / 10 ∧ l = [dgt m]) ∨ (p = 2 ∧ q = m / 100 ∧ l = [dgt (m / 10), dgt m]) ∨ (3 ≤ p ∧ cmag m = (if q = 0 then [] else Lib.decDigits q) ++ l)

theorem dec_step (q : Nat) : Lib.decDigits q = (if q / 10 = 0 then [] else Lib.decDigits (q / 10)) ++ [dgt q] := by
  by_cases h : q < 10
  · rw [if_pos (by omega), dec_small h]
    rfl
  · rw [if_neg (by omega), dec_big h]

set_option maxHeartbeats 1600000 in
set_option maxRecDepth 100000 in
theorem cents_any (c : Int) (h0 : -9223372036854775808 ≤ c) (h1 : c ≤ 9223372036854775807) (w : World) :
    Calls Try.prog 9 #[.int .i64 c] w fun e w' => ∃ S : ByteArray, Hid (S.data.toList = ctext c) ∧ e = .returned (.string S) ∧ Below w.heap.size w w' := by
  obtain ⟨m, hm⟩ : ∃ m : Nat, m = c.natAbs := ⟨_, rfl⟩
  have hm1 : m ≤ 9223372036854775808 := by omega
  have hmag : ∀ w, Calls Try.prog 10 #[.int .i64 c] w fun e w' => e = .returned (.int .u64 (m : Int)) ∧ w = w' := fun w => by
    rw [hm]
    exact (abs_inner c h0 h1 w).mono fun e w' h => ⟨h.1, h.2.symm⟩
  have HM := Lib.hid hm
  have HMG := Lib.hid hmag
  clear hm hmag
  have HL := Lib.hid (cmag_len m hm1)
  go_enter Try.func9, Try.ntmps9
  go_wp2_with (go_at_call 10; refine (HMG.out _).mono ?_; rintro e w' ⟨rfl, rfl⟩)
  go_loopw [4, 5, 6] (fun i u pl wr => ∃ (k q p : Nat) (l : List UInt8), k ≤ 21 ∧ p ≤ 21 ∧ i = .int .i64 k ∧ u = .int .u64 q ∧ pl = .int .i64 p ∧ q ≤ 9223372036854775808 ∧ Hid (k + l.length = 21 ∧ k + p ≤ 21 ∧ Part m p q l) ∧ Rowy wr w.heap.size 21 ∧ From wr w.heap.size k l ∧ Below w.heap.size w wr ∧ wr.heap.size = w.heap.size + 1) (fun i _ _ _ => (intOf i).toNat)
  case atStart => exact ⟨21, m, 0, [], by omega, by omega, rfl, rfl, rfl, hm1, ⟨rfl, by omega, .inl ⟨rfl, rfl, rfl⟩⟩, Rowy.new _ _ _ _ rfl, From.nil _ _ _, (Below.refl _ _).alloc (Nat.le_refl _) _, by simp⟩
  case round =>
    obtain ⟨k, q, p, l, hk, hp, rfl, rfl, rfl, hq, HI, hr, hf, hb, hsz⟩ := hrel
    have HD := Lib.hid (show 48 + (q : Int) % 10 = ((dgt q).toNat : Int) by rw [dgt_toNat]; omega)
    obtain ⟨hkl, hkp, hpart⟩ := HI.out
    rcases hpart with ⟨rfl, hqm, rfl⟩ | ⟨rfl, hqm, rfl⟩ | ⟨rfl, hqm, rfl⟩ | ⟨hp3, hcm⟩
    · obtain rfl : k = 21 := by simpa using hkl
      obtain ⟨v0, hv0⟩ := hr.any 20 (by omega)
      have hfr := hr.free 20 (by omega)
      have HQ := Lib.hid hqm
      clear hkl hkp hqm HI
      go_wp2
      go_roundw
      case rel => exact ⟨20, q / 10, 1, [dgt q], by omega, by omega, by go_num, by go_num, by go_num, by omega, ⟨rfl, by omega, .inr (.inl ⟨rfl, by rw [HQ.out], by rw [HQ.out]⟩)⟩, hr.set _ _, hf.cons hr (by omega) (dgt q) _ HD.out, hb.setCell (by simp) _, by simp [hsz]⟩
      case measure => simp [intOf]
    · obtain rfl : k = 20 := by simpa using hkl
      obtain ⟨v0, hv0⟩ := hr.any 19 (by omega)
      have hfr := hr.free 19 (by omega)
      have HQ := Lib.hid hqm
      clear hkl hkp hqm HI
      go_wp2
      go_roundw
      case rel => exact ⟨19, q / 10, 2, [dgt q, dgt m], by omega, by omega, by go_num, by go_num, by go_num, by omega, ⟨rfl, by omega, .inr (.inr (.inl ⟨rfl, by rw [HQ.out]; omega, by rw [HQ.out]⟩))⟩, hr.set _ _, hf.cons hr (by omega) (dgt q) _ HD.out, hb.setCell (by simp) _, by simp [hsz]⟩
      case measure => simp [intOf]
    · obtain rfl : k = 19 := by simpa using hkl
      have hr2 := hr.set ⟨w.heap.size, 18, none⟩ (.int .u8 46)
      have hf2 := hf.cons hr (by omega) (46 : UInt8) 46 rfl
      obtain ⟨v0, hv0⟩ := hr.any 18 (by omega)
      have hfr := hr.free 18 (by omega)
      obtain ⟨v1, hv1⟩ := hr2.any 17 (by omega)
      have hfr1 := hr.free 17 (by omega)
      have HQ := Lib.hid hqm
      clear hkl hkp hqm HI
      go_wp2
      go_roundw
      case rel => exact ⟨17, q / 10, 3, dgt q :: 46 :: [dgt (m / 10), dgt m], by omega, by omega, by go_num, by go_num, by go_num, by omega, ⟨rfl, by omega, .inr (.inr (.inr ⟨by omega, by rw [← List.singleton_append, ← List.append_assoc, ← dec_step, HQ.out]; rfl⟩))⟩, hr2.set _ _, hf2.cons hr2 (by omega) (dgt q) _ HD.out, (hb.setCell (by simp) _).setCell (by simp) _, by simp [hsz]⟩
      case measure => simp [intOf]
    · by_cases hq0 : q = 0
      · subst hq0
        rw [if_pos rfl, List.nil_append] at hcm
        have hk1 : 1 ≤ k := by have := HL.out.2; rw [hcm] at this; omega
        have hl4 : 4 ≤ l.length := by have := HL.out.1; rw [hcm] at this; exact this
        have HC := Lib.hid hcm
        have HKL := Lib.hid hkl
        clear hcm hkl hkp HI HD
        by_cases hneg : c < 0
        · obtain ⟨k, rfl⟩ : ∃ k', k = k' + 1 := ⟨k - 1, by omega⟩
          obtain ⟨v0, hv0⟩ := hr.any k (by omega)
          have hfr := hr.free k (by omega)
          have hf2 := hf.cons hr (by omega) (45 : UInt8) 45 rfl
          have hsl := fun W => slice28 W w.heap.size k (l.length + 1) (by have := HKL.out; omega) (by omega)
          have hcv := run_convert_bytes_back (P := Try.prog) (wr.setCell ⟨w.heap.size, k, none⟩ (.int .u8 45)) 29 9 5 ⟨w.heap.size, k, none⟩ (l.length + 1) (45 :: l) Try.underlying29 Try.underlying5 Try.underlying9 (cells_news hf2)
          obtain ⟨S, hS⟩ : ∃ S : ByteArray, S = ⟨(45 :: l).toArray⟩ := ⟨_, rfl⟩
          rw [← hS, List.length_cons] at hcv
          have HS : Hid (S.data.toList = ctext c) := by
            show S.data.toList = ctext c
            rw [hS]
            unfold ctext
            rw [if_pos hneg, ← HM.out, HC.out]
          clear hS
          go_wp2
          go_ret
          exact ⟨S, HS, rfl, hb.setCell (by simp) _⟩
        · have hsl := fun W => slice28 W w.heap.size k l.length HKL.out (by omega)
          have hcv := run_convert_bytes_back (P := Try.prog) wr 29 9 5 ⟨w.heap.size, k, none⟩ l.length l Try.underlying29 Try.underlying5 Try.underlying9 (cells_news hf)
          obtain ⟨S, hS⟩ : ∃ S : ByteArray, S = ⟨l.toArray⟩ := ⟨_, rfl⟩
          rw [← hS] at hcv
          have HS : Hid (S.data.toList = ctext c) := by
            show S.data.toList = ctext c
            rw [hS]
            unfold ctext
            rw [if_neg hneg, ← HM.out, HC.out]
          clear hS
          go_wp2
          go_ret
          exact ⟨S, HS, rfl, hb⟩
      · rw [if_neg hq0] at hcm
        have hk1 : 1 ≤ k := by have := HL.out.2; rw [hcm, List.length_append] at this; omega
        obtain ⟨k, rfl⟩ : ∃ k', k = k' + 1 := ⟨k - 1, by omega⟩
        obtain ⟨v0, hv0⟩ := hr.any k (by omega)
        have hfr := hr.free k (by omega)
        have e2 : ((p : Int) == 2) = false := by rw [beq_eq_false_iff_ne]; omega
        have hqp : 0 < q := by omega
        have HC := Lib.hid hcm
        have HKL := Lib.hid hkl
        clear hcm hkl HI
        go_wp2
        go_roundw
        case rel => exact ⟨k, q / 10, p + 1, dgt q :: l, by omega, by omega, by go_num, by go_num, by go_num, by omega, ⟨by have := HKL.out; simp; omega, by omega, .inr (.inr (.inr ⟨by omega, by rw [← List.singleton_append, ← List.append_assoc, ← dec_step, HC.out]⟩))⟩, hr.set _ _, hf.cons hr (by omega) (dgt q) _ HD.out, hb.setCell (by simp) _, by simp [hsz]⟩
        case measure => simp [intOf]
/-- ZZwriteCents hands on. -/
theorem zzCents_any (c : Int) (h0 : -9223372036854775808 ≤ c) (h1 : c ≤ 9223372036854775807) (w : World) :
    Calls Try.prog 7 #[.int .i64 c] w fun e w' => ∃ S : ByteArray, Hid (S.data.toList = ctext c) ∧ e = .returned (.string S) ∧ Below w.heap.size w w' := by
  go_enter Try.func7, Try.ntmps7
  go_wp2_with (go_at_call 9; refine (cents_any c h0 h1 _).mono ?_; rintro e w1 ⟨S, HS, rfl, hb⟩)
  go_ret
  exact ⟨S, HS, rfl, hb⟩
end Go.Proofs.Qxb6605424a
