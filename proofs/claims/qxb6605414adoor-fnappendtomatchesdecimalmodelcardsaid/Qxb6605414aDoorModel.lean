/- The walk of zzModelQuantity. -/
import Derived.Test.Qxb6605414aDoorDigits
import Derived.Test.Qxb6605414aDoorTail
import Derived.Test.Qxb6605414aDoorWalks
namespace Go.Proofs.Qxb6605414aDoor
open Go.ChangeShapes Go.WideShapes Go.ChangeAt Go.RowKit Go.Shelf
set_option linter.unusedVariables false

theorem arr34 : Tryd.prog.underlying 34 = some (.array (Tryd.prog.arrayLen 34) (Tryd.prog.elem 34)) := by kernel_rfl
theorem arr35 : Tryd.prog.underlying 35 = some (.array (Tryd.prog.arrayLen 35) (Tryd.prog.elem 35)) := by kernel_rfl
theorem len34 : Tryd.prog.arrayLen 34 = 20 := by kernel_rfl
theorem len35 : Tryd.prog.arrayLen 35 = 24 := by kernel_rfl
theorem size34 (W : World) : (sizeOf (Tryd.prog.elem 34)).run Tryd.prog W = .ok 1 W := by kernel_rfl
theorem size35 (W : World) : (sizeOf (Tryd.prog.elem 35)).run Tryd.prog W = .ok 1 W := by kernel_rfl

/-- 'buf[k:]' -/
theorem slice34 (W : World) (b k L : Nat) (h : k + L = 20) (h1 : 1 ≤ L) :
    (Instr.sliceAt 34 (.pointer (some ⟨b, 0, none⟩)) (some (.int .i64 (k : Int))) none none).run Tryd.prog W = .ok (.slice (some ⟨b, k, none⟩) L L) W := by
  rw [run_sliceAt_array_l W 34 ⟨b, 0, none⟩ arr34 .i64 (k : Int) (by omega) (by rw [len34]; omega), size34, len34]
  have e1 : ¬ (20 = k) := by omega
  have e2 : 20 - k = L := by omega
  simp [Result.andThen, slicedAt, e1, e2, Addr.add_lit]

/-- 'padded[:h]' -/
theorem slice35h (W : World) (b h : Nat) (hh : h ≤ 24) :
    (Instr.sliceAt 35 (.pointer (some ⟨b, 0, none⟩)) none (some (.int .i64 (h : Int))) none).run Tryd.prog W = .ok (.slice (some ⟨b, 0, none⟩) h 24) W := by
  rw [run_sliceAt_array_h W 35 ⟨b, 0, none⟩ arr35 .i64 (h : Int) (by omega) (by rw [len35]; omega), size35, len35]
  simp [Result.andThen, slicedAt, Addr.add_lit]

/-- 'padded[l:l+3]' -/
theorem slice35lh (W : World) (b l : Nat) (hh : l + 3 ≤ 24) :
    (Instr.sliceAt 35 (.pointer (some ⟨b, 0, none⟩)) (some (.int .i64 (l : Int))) (some (.int .i64 ((l : Int) + 3))) none).run Tryd.prog W = .ok (.slice (some ⟨b, l, none⟩) 3 (24 - l)) W := by
  rw [run_sliceAt_array_lh W 35 ⟨b, 0, none⟩ arr35 .i64 .i64 (l : Int) ((l : Int) + 3) (by omega) (by omega) (by rw [len35]; omega), size35, len35]
  have e1 : ¬ (24 = l) := by omega
  have e2 : ((l : Int) + 3).toNat - l = 3 := by omega
  simp [Result.andThen, slicedAt, e1, e2, Addr.add_lit]

/-- The three digits of the fraction, by their place. -/
def zf (m i : Nat) : Int := (([dgt (m / 100), dgt (m / 10), dgt m].getD i 0).toNat : Int)
theorem From.zf {w : World} {b k m i : Nat} (h : From w b k [dgt (m / 100), dgt (m / 10), dgt m]) (hi : i < 3) : w.cell? ⟨b, k + i, none⟩ = some (.int .u8 (zf m i)) := by
  rw [h i (by simpa using hi)]
  rcases (show i = 0 ∨ i = 1 ∨ i = 2 from by omega) with rfl | rfl | rfl <;> rfl

theorem zf0 (m : Nat) : zf m 0 = 48 + ((m / 100 % 10 : Nat) : Int) := by simp [zf, dgt_toNat]
theorem zf1 (m : Nat) : zf m 1 = 48 + ((m / 10 % 10 : Nat) : Int) := by simp [zf, dgt_toNat]
theorem zf2 (m : Nat) : zf m 2 = 48 + ((m % 10 : Nat) : Int) := by simp [zf, dgt_toNat]
theorem frac_none (m : Nat) (h : ∀ i, 0 ≤ i → i < 3 → zf m i = 48) : frac (m % 1000) = [] := by
  have a := h 0 (by omega) (by omega)
  have b := h 1 (by omega) (by omega)
  have c := h 2 (by omega) (by omega)
  rw [zf0] at a
  rw [zf1] at b
  rw [zf2] at c
  exact qmag_frac0 (by omega)
theorem dgt_mod (a b : Nat) (h : a % 10 = b % 10) : dgt a = dgt b := by unfold dgt; rw [h]
theorem frac_some (m F : Nat) (hF : F < 3) (h : ∀ i, F + 1 ≤ i → i < 3 → zf m i = 48) (hz : zf m F ≠ 48) : frac (m % 1000) = 46 :: [dgt (m / 100), dgt (m / 10), dgt m].take (F + 1) := by
  have e1 : dgt (m % 1000 / 100) = dgt (m / 100) := dgt_mod _ _ (by omega)
  have e2 : dgt (m % 1000 / 10) = dgt (m / 10) := dgt_mod _ _ (by omega)
  have e3 : dgt (m % 1000) = dgt m := dgt_mod _ _ (by omega)
  rcases (show F = 0 ∨ F = 1 ∨ F = 2 from by omega) with rfl | rfl | rfl
  · have b := h 1 (by omega) (by omega)
    have c := h 2 (by omega) (by omega)
    rw [zf1] at b
    rw [zf2] at c
    rw [zf0] at hz
    rw [qmag_frac1 (by omega)]
    unfold fdig
    rw [if_neg (by omega), if_neg (by omega), e1]
    rfl
  · have c := h 2 (by omega) (by omega)
    rw [zf2] at c
    rw [zf1] at hz
    rw [qmag_frac1 (by omega)]
    unfold fdig
    rw [if_neg (by omega), if_pos (by omega), e1, e2]
    rfl
  · rw [zf2] at hz
    rw [qmag_frac1 (by omega)]
    unfold fdig
    rw [if_pos (by omega), e1, e2, e3]
    rfl
theorem text_neg0 (t : Int) (m : Nat) (hm : m = t.natAbs) (h : t < 0) (hf : frac (m % 1000) = []) : qtext t = 45 :: Lib.decDigits (m / 1000) := by
  unfold qtext
  rw [if_pos h, ← hm, qmag, hf, List.append_nil]
theorem text_pos0 (t : Int) (m : Nat) (hm : m = t.natAbs) (h : ¬ t < 0) (hf : frac (m % 1000) = []) : qtext t = Lib.decDigits (m / 1000) := by
  unfold qtext
  rw [if_neg h, ← hm, qmag, hf, List.append_nil]
theorem text_neg (t : Int) (m F : Nat) (hm : m = t.natAbs) (h : t < 0) (hf : frac (m % 1000) = 46 :: [dgt (m / 100), dgt (m / 10), dgt m].take (F + 1)) : qtext t = 45 :: (Lib.decDigits (m / 1000) ++ 46 :: [dgt (m / 100), dgt (m / 10), dgt m].take (F + 1)) := by
  unfold qtext
  rw [if_pos h, ← hm, qmag, hf]
theorem text_pos (t : Int) (m F : Nat) (hm : m = t.natAbs) (h : ¬ t < 0) (hf : frac (m % 1000) = 46 :: [dgt (m / 100), dgt (m / 10), dgt m].take (F + 1)) : qtext t = Lib.decDigits (m / 1000) ++ 46 :: [dgt (m / 100), dgt (m / 10), dgt m].take (F + 1) := by
  unfold qtext
  rw [if_neg h, ← hm, qmag, hf]

/-- 'make([]byte, 0, 26)' -/
def zeros26 : Array Value := Array.replicate 26 (.int .u8 0)
theorem make26 (W : World) : (Instr.makeSlice 22 (.int .i64 0) (.int .i64 26)).run Tryd.prog W = .ok (.slice (some ⟨W.heap.size, 0, none⟩) 0 26) (W.alloc (.cells zeros26 5)) := by kernel_rfl

/-- What is owned, under another spelling of the bytes. -/
theorem own_eq {w : World} {B : Nat} {e : TypeId} {v : Value} {n : Nat} {xs : List Value} {l : List UInt8} (h : w.ownsRow B e 1 v n xs) (he : Lib.byteCells l = xs) : w.ownsRow B e 1 v l.length (Lib.byteCells l) := by
  subst he
  have h1 := h.1
  rw [Lib.byteCells_length, Nat.mul_one] at h1
  rw [h1]
  exact h

set_option maxHeartbeats 1600000 in
set_option maxRecDepth 100000 in
theorem model_any (t : Int) (h0 : -9223372036854775807 ≤ t) (h1 : t ≤ 9223372036854775807) (w : World) :
    Calls Tryd.prog 8 #[.int .i64 t] w fun e w' => ∃ v', e = .returned v' ∧ w'.ownsRow w.heap.size 5 1 v' (qtext t).length (Lib.byteCells (qtext t)) ∧ Below w.heap.size w w' := by
  obtain ⟨i0, hi, hz0, hz1, hz2⟩ := info_parts infoByte
  obtain ⟨m, hm⟩ : ∃ m : Nat, m = t.natAbs := ⟨_, rfl⟩
  have hm1 : m ≤ 9223372036854775807 := by omega
  have hmag : ∀ w, Calls Tryd.prog 10 #[.int .i64 t] w fun e w' => e = .returned (.int .u64 (m : Int)) ∧ w = w' := fun w => by
    rw [hm]
    exact (mag_any t (by omega) h1 w).mono fun e w' h => ⟨h.1, h.2.symm⟩
  have HM := Lib.hid hm
  have HMG := Lib.hid hmag
  clear hm hmag
  have HL := Lib.hid (show (Lib.decDigits m).length ≤ 20 by rw [Lib.decDigits_length]; exact Lib.nDigits_le20 _ (by omega))
  go_enter Tryd.func8, Tryd.ntmps8
  go_wp2_with (go_at_call 10; refine (HMG.out _).mono ?_; rintro e w' ⟨rfl, rfl⟩)
  go_loopw [4, 6] (fun u i wr => ∃ (k q : Nat) (l : List UInt8), k ≤ 20 ∧ i = .int .i64 k ∧ u = .int .u64 q ∧ q ≤ 9223372036854775807 ∧ Hid (k + l.length = 20 ∧ Lib.decDigits m = Lib.decDigits q ++ l) ∧ Rowy wr w.heap.size 20 ∧ From wr w.heap.size k l ∧ Below w.heap.size w wr ∧ wr.heap.size = w.heap.size + 1) (fun _ i _ => (intOf i).toNat)
  case atStart => exact ⟨20, m, [], by omega, rfl, rfl, hm1, ⟨rfl, by simp⟩, Rowy.new _ _ _ _ rfl, From.nil _ _ _, (Below.refl _ _).alloc (Nat.le_refl _) _, by simp⟩
  case round =>
    obtain ⟨k, q, l, hk, rfl, rfl, hq, HI, hr, hf, hb, hsz⟩ := hrel
    have hk1 : 1 ≤ k := by
      have h1 := HI.out.1
      have h2 := congrArg List.length HI.out.2
      have h3 := List.length_pos_iff.2 (dec_ne q)
      have h4 := HL.out
      rw [List.length_append] at h2
      omega
    obtain ⟨k, rfl⟩ : ∃ k', k = k' + 1 := ⟨k - 1, by omega⟩
    obtain ⟨v0, hv0⟩ := hr.any k (by omega)
    have hfr := hr.free k (by omega)
    have hd : 48 + (q : Int) % 10 = ((dgt q).toNat : Int) := by rw [dgt_toNat]; omega
    have HD := Lib.hid hd
    clear hd
    by_cases hq10 : q < 10
    · have e0 : ((q : Int) / 10 == 0) = true := by rw [beq_iff_eq]; omega
      obtain ⟨L, hL⟩ : ∃ L, L = (Lib.decDigits m).length := ⟨_, rfl⟩
      have hdm : Lib.decDigits m = dgt q :: l := by rw [HI.out.2, dec_small hq10]; rfl
      have hkL : k + L = 20 := by rw [hL, hdm, List.length_cons]; have := HI.out.1; omega
      have hL1 : 1 ≤ L := by rw [hL, hdm, List.length_cons]; omega
      have hL20 : L ≤ 20 := by omega
      have hsl := fun W => slice34 W w.heap.size k L hkL hL1
      have HK := Lib.hid hkL
      have HDM := Lib.hid hdm
      have HLL := Lib.hid hL
      clear hkL hdm hL
      go_wp2
      go_loopw [9, 10] (fun n kk wr2 => ∃ j : Nat, n = .int .i64 j ∧ kk = .int .i64 ((L : Int) + j) ∧ j ≤ 4 ∧ (j = 0 ∨ L + j ≤ 4) ∧ Rowy wr2 (w.heap.size + 1) 24 ∧ From wr2 (w.heap.size + 1) 0 (List.replicate j 48) ∧ From wr2 w.heap.size k (Lib.decDigits m) ∧ Below w.heap.size w wr2 ∧ wr2.heap.size = w.heap.size + 2) (fun _ kk _ => 4 - (intOf kk).toNat)
      case atStart =>
        have hb1 := hb.setCell (p := ⟨w.heap.size, k, none⟩) (Nat.le_refl _) (.int .u8 (48 + (q : Int) % 10))
        have hs1 : (wr.setCell ⟨w.heap.size, k, none⟩ (.int .u8 (48 + (q : Int) % 10))).heap.size = w.heap.size + 1 := by simp [hsz]
        have hf1 : From (wr.setCell ⟨w.heap.size, k, none⟩ (.int .u8 (48 + (q : Int) % 10))) w.heap.size k (Lib.decDigits m) := by rw [HDM.out]; exact hf.cons hr (by omega) (dgt q) _ HD.out
        generalize wr.setCell ⟨w.heap.size, k, none⟩ (.int .u8 (48 + (q : Int) % 10)) = W1 at hb1 hs1 hf1 ⊢
        refine ⟨0, rfl, by simp, by omega, .inl rfl, ?_, From.nil _ _ _, hf1.below ((Below.refl (w.heap.size + 1) W1).alloc (by omega) _) (by omega), hb1.alloc (by omega) _, by simp [hs1]⟩
        rw [← hs1]
        exact Rowy.new W1 _ 35 24 rfl
      case round =>
        clear hr hf hb hsz hv0 hfr
        obtain ⟨j, rfl, rfl, hj4, hjL, hr2, hf2, hfb, hb2, hsz2⟩ := hrel
        by_cases hlt : L + j < 4
        · obtain ⟨v2, hv2⟩ := hr2.any j (by omega)
          have hfr2 := hr2.free j (by omega)
          have HF2 : Hid (From (wr.setCell ⟨w.heap.size + 1, j, none⟩ (.int .u8 48)) (w.heap.size + 1) 0 (List.replicate (j + 1) 48)) := by
            have := hf2.snoc hr2 (by simp; omega) 48 48 rfl
            rw [Nat.zero_add, List.length_replicate, ← List.replicate_succ'] at this
            exact this
          go_wp2
          go_roundw
          case rel => exact ⟨j + 1, by go_num, by go_num, by omega, .inr (by omega), hr2.set _ _, HF2.out, hfb.other (by omega) _, hb2.setCell (by simp) _, by simp [hsz2]⟩
          case measure => simp [intOf]; omega
        · have HJ := Lib.hid (show j = 4 - L by omega)
          clear hjL
          go_wp2
          go_loopw [9, 11] (fun n kk wr3 => ∃ (i : Nat) (c : Int), kk = .int .i64 i ∧ n = .int .i64 c ∧ i ≤ L ∧ 0 ≤ c ∧ c ≤ 24 ∧ Hid (c = j + i) ∧ Rowy wr3 (w.heap.size + 1) 24 ∧ From wr3 (w.heap.size + 1) 0 (List.replicate j 48 ++ (Lib.decDigits m).take i) ∧ From wr3 w.heap.size k (Lib.decDigits m) ∧ Below w.heap.size w wr3 ∧ wr3.heap.size = w.heap.size + 2) (fun _ kk _ => L - (intOf kk).toNat)
          case atStart =>
            exact ⟨0, j, rfl, rfl, by omega, by omega, by omega, by simp [Hid], hr2, by simpa using hf2, hfb, hb2, hsz2⟩
          case round =>
            clear hr2 hf2 hfb hb2 hsz2
            obtain ⟨i, c, rfl, rfl, hiL, hc0, hc24, HC, hr3, hf3, hfb3, hb3, hsz3⟩ := hrel
            obtain ⟨cn, rfl⟩ : ∃ cn : Nat, c = cn := ⟨c.toNat, by omega⟩
            have hcn : cn = j + i := by have := HC.out; omega
            have hjL : j + L ≤ 20 := by have := HJ.out; omega
            have HCN := Lib.hid hcn
            by_cases hlt : i < L
            · have hil : i < (Lib.decDigits m).length := by rw [← HLL.out]; exact hlt
              obtain ⟨z, hz⟩ : ∃ z : Int, z = ((Lib.decDigits m)[i].toNat : Int) := ⟨_, rfl⟩
              have hcell : wr.cell? ⟨w.heap.size, k + i, none⟩ = some (.int .u8 z) := by rw [hz]; exact hfb3 i hil
              have hc20 : cn < 24 := by omega
              obtain ⟨v3, hv3⟩ := hr3.any cn (by omega)
              have hfr3 := hr3.free cn (by omega)
              have HF3 : Hid (From (wr.setCell ⟨w.heap.size + 1, cn, none⟩ (.int .u8 z)) (w.heap.size + 1) 0 (List.replicate j 48 ++ (Lib.decDigits m).take (i + 1))) := by
                have hlen : (List.replicate j 48 ++ (Lib.decDigits m).take i).length = cn := by
                  rw [List.length_append, List.length_replicate, List.length_take]
                  omega
                have := hf3.snoc hr3 (by rw [hlen]; omega) (Lib.decDigits m)[i] z hz
                rw [Nat.zero_add, hlen, List.append_assoc, ← take_succ' _ i hil] at this
                exact this
              clear hcn hz
              go_wp2
              go_roundw
              case rel => exact ⟨i + 1, _, by go_num, rfl, by omega, by omega, by omega, by have := HCN.out; simp [Hid]; omega, hr3.set _ _, HF3.out, hfb3.other (by omega) _, hb3.setCell (by simp) _, by simp [hsz3]⟩
              case measure => simp [intOf]; omega
            · have hp : List.replicate j 48 ++ (Lib.decDigits m).take i = Lib.decDigits (m / 1000) ++ [dgt (m / 100), dgt (m / 10), dgt m] := by
                rw [List.take_of_length_le (by rw [← HLL.out]; omega), ← dec_pad m, ← HLL.out, ← HJ.out]
              rw [hp] at hf3
              clear hp
              obtain ⟨V, hV⟩ : ∃ V, V = (Lib.decDigits (m / 1000)).length := ⟨_, rfl⟩
              have hV1 := dec_len16 m hm1
              have hcV : cn = V + 3 := by
                have h1 := congrArg List.length (dec_pad m)
                rw [List.length_append, List.length_append, List.length_replicate, ← HLL.out, ← HJ.out, ← hV] at h1
                simp at h1
                omega
              subst hcV
              rw [← hV] at hV1
              obtain ⟨hV0, hV16⟩ := hV1
              have HV := Lib.hid hV
              clear hV hcn
              have hs1 := fun W => slice35h W (w.heap.size + 1) V (by omega)
              have hmk := fun W => make26 W
              have hs2 := fun W => slice35lh W (w.heap.size + 1) V (by omega)
              have hw : From wr (w.heap.size + 1) 0 (Lib.decDigits (m / 1000)) := by
                have := hf3.take V
                rw [HV.out, List.take_left] at this
                exact this
              have hfr : From wr (w.heap.size + 1) V [dgt (m / 100), dgt (m / 10), dgt m] := by
                have := hf3.drop V (by rw [List.length_append, ← HV.out]; omega)
                rw [HV.out, List.drop_left, Nat.zero_add] at this
                rw [HV.out]
                exact this
              clear hf3 hr3 hfb3
              go_wp2
              go_loop [14] (fun f => ∃ F : Nat, f = .int .i64 F ∧ F ≤ 3 ∧ Hid (∀ i, F ≤ i → i < 3 → zf m i = 48)) (fun f => (intOf f).toNat)
              case atStart => exact ⟨3, rfl, by omega, fun i h1 h2 => by omega⟩
              case round =>
                obtain ⟨F, rfl, hF3, HFZ⟩ := hrel
                by_cases hF0 : F = 0
                · subst hF0
                  have hown0 : (wr.alloc (.cells zeros26 5)).ownsRow (w.heap.size + 2) 5 1 (.slice (some ⟨w.heap.size + 2, 0, none⟩) 0 26) 0 [] := by
                    have := World.ownsRow_made (base := w.heap.size + 2) (e := 5) (size := 1) wr zeros26 26 (by omega) (by unfold maxLen; omega) rfl
                    rw [hsz3] at this
                    exact this
                  have hnx0 : Below (w.heap.size + 2) wr (wr.alloc (.cells zeros26 5)) := (Below.refl _ _).alloc (by omega) _
                  have hminus : ((wr.alloc (.cells zeros26 5)).alloc (.cells #[.int .u8 45] 5)).cell? ⟨w.heap.size + 2 + 1, 0, none⟩ = some (.int .u8 45) := by
                    have := World.cell?_alloc_new (wr.alloc (.cells zeros26 5)) #[.int .u8 45] 5 0
                    rw [World.size_alloc, hsz3] at this
                    exact this
                  by_cases htn : t < 0
                  · have hq1 := hnx0.size
                    go_wp2_with (at_builtin; refine wpList_append_own _ rfl _ _ 22 rfl (w.heap.size + 2) 5 i0 (.int .u8 0) 1 1 Tryd.underlying22 hi hz0 hz1 hz2 rfl (by decide) _ _ _ rfl (hown0.alloc _) ⟨w.heap.size + 2 + 1, 0, none⟩ 1 1 [Value.int .u8 45] rfl rfl (by intro j u hj; match j, hj with | 0, hj => simp at hj; subst hj; simpa [Addr.add] using hminus) (by intro u hu; simp at hu; subst hu; rfl) (by unfold maxLen; omega) (by omega) (by simp; omega) ?_)
                    intro v1 w1 hown1 hgrow1 _
                    refine Hid.out ?_
                    have hnx1 : Below (w.heap.size + 2) wr w1 := (hnx0.alloc (by omega) _).grown hgrow1 (by simp; omega) (fun k hk => (hown0.lt k hk).1)
                    clear hgrow1
                    refine Lib.hid ?_
                    have hq2 := hnx1.size
                    go_wp2_with (at_builtin; refine wpList_append_own _ rfl _ _ 22 rfl (w.heap.size + 2) 5 i0 (.int .u8 0) 1 1 Tryd.underlying22 hi hz0 hz1 hz2 rfl (by decide) _ _ _ rfl hown1 ⟨w.heap.size + 1, 0, none⟩ V 24 (Lib.byteCells (Lib.decDigits (m / 1000))) rfl (by rw [Lib.byteCells_length, HV.out]; simp) (hw.below hnx1 (by omega)).news (byteCells_one _) (by unfold maxLen; omega) (by omega) (by omega) ?_)
                    intro v2 w2 hown2 hgrow2 _
                    refine Hid.out ?_
                    have hnx2 : Below (w.heap.size + 2) wr w2 := hnx1.grown hgrow2 (by omega) (fun k hk => (hown1.lt k hk).1)
                    clear hgrow2
                    refine Lib.hid ?_
                    go_wp2
                    go_ret
                    refine ⟨v2, rfl, ?_, hb3.trans (hnx2.mono (by omega))⟩
                    have h9 := ownsRow_base (B' := w.heap.size) hown2 (by omega)
                    exact own_eq h9 (by rw [text_neg0 t m HM.out (by omega) (frac_none m HFZ.out)] <;> simp [Lib.byteCells])
                  · have hq2 := hnx0.size
                    go_wp2_with (at_builtin; refine wpList_append_own _ rfl _ _ 22 rfl (w.heap.size + 2) 5 i0 (.int .u8 0) 1 1 Tryd.underlying22 hi hz0 hz1 hz2 rfl (by decide) _ _ _ rfl hown0 ⟨w.heap.size + 1, 0, none⟩ V 24 (Lib.byteCells (Lib.decDigits (m / 1000))) rfl (by rw [Lib.byteCells_length, HV.out]; simp) (hw.below hnx0 (by omega)).news (byteCells_one _) (by unfold maxLen; omega) (by omega) (by omega) ?_)
                    intro v2 w2 hown2 hgrow2 _
                    refine Hid.out ?_
                    have hnx2 : Below (w.heap.size + 2) wr w2 := hnx0.grown hgrow2 (by omega) (fun k hk => (hown0.lt k hk).1)
                    clear hgrow2
                    refine Lib.hid ?_
                    go_wp2
                    go_ret
                    refine ⟨v2, rfl, ?_, hb3.trans (hnx2.mono (by omega))⟩
                    have h9 := ownsRow_base (B' := w.heap.size) hown2 (by omega)
                    exact own_eq h9 (by rw [text_pos0 t m HM.out (by omega) (frac_none m HFZ.out)] <;> simp [Lib.byteCells])
                · obtain ⟨F, rfl⟩ : ∃ F', F = F' + 1 := ⟨F - 1, by omega⟩
                  have hcf : wr.cell? ⟨w.heap.size + 1, V + F, none⟩ = some (.int .u8 (zf m F)) := hfr.zf (by omega)
                  by_cases hz : zf m F = 48
                  · have ez : (zf m F == 48) = true := by rw [beq_iff_eq]; exact hz
                    have HZ := Lib.hid hz
                    clear hz
                    go_wp2
                    go_round
                    case rel => exact ⟨F, by go_num, by omega, fun i h1 h2 => by
                      by_cases e : i = F
                      · rw [e]; exact HZ.out
                      · exact HFZ.out i (by omega) h2⟩
                    case measure => simp [intOf]
                  · have ez : (zf m F == 48) = false := by rw [beq_eq_false_iff_ne]; exact hz
                    have hzn : Hid (zf m F ≠ 48) := hz
                    clear hz
                    have hown0 : (wr.alloc (.cells zeros26 5)).ownsRow (w.heap.size + 2) 5 1 (.slice (some ⟨w.heap.size + 2, 0, none⟩) 0 26) 0 [] := by
                      have := World.ownsRow_made (base := w.heap.size + 2) (e := 5) (size := 1) wr zeros26 26 (by omega) (by unfold maxLen; omega) rfl
                      rw [hsz3] at this
                      exact this
                    have hnx0 : Below (w.heap.size + 2) wr (wr.alloc (.cells zeros26 5)) := (Below.refl _ _).alloc (by omega) _
                    have hminus : ((wr.alloc (.cells zeros26 5)).alloc (.cells #[.int .u8 45] 5)).cell? ⟨w.heap.size + 2 + 1, 0, none⟩ = some (.int .u8 45) := by
                      have := World.cell?_alloc_new (wr.alloc (.cells zeros26 5)) #[.int .u8 45] 5 0
                      rw [World.size_alloc, hsz3] at this
                      exact this
                    by_cases htn : t < 0
                    · have hq1 := hnx0.size
                      go_wp2_with (at_builtin; refine wpList_append_own _ rfl _ _ 22 rfl (w.heap.size + 2) 5 i0 (.int .u8 0) 1 1 Tryd.underlying22 hi hz0 hz1 hz2 rfl (by decide) _ _ _ rfl (hown0.alloc _) ⟨w.heap.size + 2 + 1, 0, none⟩ 1 1 [Value.int .u8 45] rfl rfl (by intro j u hj; match j, hj with | 0, hj => simp at hj; subst hj; simpa [Addr.add] using hminus) (by intro u hu; simp at hu; subst hu; rfl) (by unfold maxLen; omega) (by omega) (by simp; omega) ?_)
                      intro v1 w1 hown1 hgrow1 _
                      refine Hid.out ?_
                      have hnx1 : Below (w.heap.size + 2) wr w1 := (hnx0.alloc (by omega) _).grown hgrow1 (by simp; omega) (fun k hk => (hown0.lt k hk).1)
                      clear hgrow1
                      refine Lib.hid ?_
                      have hq2 := hnx1.size
                      go_wp2_with (at_builtin; refine wpList_append_own _ rfl _ _ 22 rfl (w.heap.size + 2) 5 i0 (.int .u8 0) 1 1 Tryd.underlying22 hi hz0 hz1 hz2 rfl (by decide) _ _ _ rfl hown1 ⟨w.heap.size + 1, 0, none⟩ V 24 (Lib.byteCells (Lib.decDigits (m / 1000))) rfl (by rw [Lib.byteCells_length, HV.out]; simp) (hw.below hnx1 (by omega)).news (byteCells_one _) (by unfold maxLen; omega) (by omega) (by omega) ?_)
                      intro v2 w2 hown2 hgrow2 _
                      refine Hid.out ?_
                      have hnx2 : Below (w.heap.size + 2) wr w2 := hnx1.grown hgrow2 (by omega) (fun k hk => (hown1.lt k hk).1)
                      clear hgrow2
                      refine Lib.hid ?_
                      have hq3 := hnx2.size
                      go_wp2_with (at_builtin; refine wpList_append_own _ rfl _ _ 22 rfl (w.heap.size + 2) 5 i0 (.int .u8 0) 1 1 Tryd.underlying22 hi hz0 hz1 hz2 rfl (by decide) _ _ _ rfl (hown2.alloc _) ⟨w2.heap.size, 0, none⟩ 1 1 [Value.int .u8 46] rfl rfl (by intro j u hj; match j, hj with | 0, hj => simp at hj; subst hj; simp [Addr.add]) (by intro u hu; simp at hu; subst hu; rfl) (by unfold maxLen; omega) (by omega) (by simp; omega) ?_)
                      intro v3 w3 hown3 hgrow3 _
                      refine Hid.out ?_
                      have hnx3 : Below (w.heap.size + 2) wr w3 := (hnx2.alloc (by omega) _).grown hgrow3 (by simp; omega) (fun k hk => (hown2.lt k hk).1)
                      clear hgrow3
                      refine Lib.hid ?_
                      have hF9 := hfr.take (F + 1)
                      have hq4 := hnx3.size
                      go_wp2_with (at_builtin; refine wpList_append_own _ rfl _ _ 22 rfl (w.heap.size + 2) 5 i0 (.int .u8 0) 1 1 Tryd.underlying22 hi hz0 hz1 hz2 rfl (by decide) _ _ _ rfl hown3 ⟨w.heap.size + 1, V, none⟩ (F + 1) (24 - V) (Lib.byteCells ([dgt (m / 100), dgt (m / 10), dgt m].take (F + 1))) rfl (by rw [Lib.byteCells_length, List.length_take]; simp; omega) (hF9.below hnx3 (by omega)).news (byteCells_one _) (by unfold maxLen; omega) (by omega) (by omega) ?_)
                      intro v4 w4 hown4 hgrow4 _
                      refine Hid.out ?_
                      have hnx4 : Below (w.heap.size + 2) wr w4 := hnx3.grown hgrow4 (by omega) (fun k hk => (hown3.lt k hk).1)
                      clear hgrow4
                      refine Lib.hid ?_
                      go_wp2
                      go_ret
                      refine ⟨v4, rfl, ?_, hb3.trans (hnx4.mono (by omega))⟩
                      have h9 := ownsRow_base (B' := w.heap.size) hown4 (by omega)
                      exact own_eq h9 (by rw [text_neg t m F HM.out (by omega) (frac_some m F (by omega) HFZ.out hzn.out)] <;> simp [Lib.byteCells])
                    · have hq2 := hnx0.size
                      go_wp2_with (at_builtin; refine wpList_append_own _ rfl _ _ 22 rfl (w.heap.size + 2) 5 i0 (.int .u8 0) 1 1 Tryd.underlying22 hi hz0 hz1 hz2 rfl (by decide) _ _ _ rfl hown0 ⟨w.heap.size + 1, 0, none⟩ V 24 (Lib.byteCells (Lib.decDigits (m / 1000))) rfl (by rw [Lib.byteCells_length, HV.out]; simp) (hw.below hnx0 (by omega)).news (byteCells_one _) (by unfold maxLen; omega) (by omega) (by omega) ?_)
                      intro v2 w2 hown2 hgrow2 _
                      refine Hid.out ?_
                      have hnx2 : Below (w.heap.size + 2) wr w2 := hnx0.grown hgrow2 (by omega) (fun k hk => (hown0.lt k hk).1)
                      clear hgrow2
                      refine Lib.hid ?_
                      have hq3 := hnx2.size
                      go_wp2_with (at_builtin; refine wpList_append_own _ rfl _ _ 22 rfl (w.heap.size + 2) 5 i0 (.int .u8 0) 1 1 Tryd.underlying22 hi hz0 hz1 hz2 rfl (by decide) _ _ _ rfl (hown2.alloc _) ⟨w2.heap.size, 0, none⟩ 1 1 [Value.int .u8 46] rfl rfl (by intro j u hj; match j, hj with | 0, hj => simp at hj; subst hj; simp [Addr.add]) (by intro u hu; simp at hu; subst hu; rfl) (by unfold maxLen; omega) (by omega) (by simp; omega) ?_)
                      intro v3 w3 hown3 hgrow3 _
                      refine Hid.out ?_
                      have hnx3 : Below (w.heap.size + 2) wr w3 := (hnx2.alloc (by omega) _).grown hgrow3 (by simp; omega) (fun k hk => (hown2.lt k hk).1)
                      clear hgrow3
                      refine Lib.hid ?_
                      have hF9 := hfr.take (F + 1)
                      have hq4 := hnx3.size
                      go_wp2_with (at_builtin; refine wpList_append_own _ rfl _ _ 22 rfl (w.heap.size + 2) 5 i0 (.int .u8 0) 1 1 Tryd.underlying22 hi hz0 hz1 hz2 rfl (by decide) _ _ _ rfl hown3 ⟨w.heap.size + 1, V, none⟩ (F + 1) (24 - V) (Lib.byteCells ([dgt (m / 100), dgt (m / 10), dgt m].take (F + 1))) rfl (by rw [Lib.byteCells_length, List.length_take]; simp; omega) (hF9.below hnx3 (by omega)).news (byteCells_one _) (by unfold maxLen; omega) (by omega) (by omega) ?_)
                      intro v4 w4 hown4 hgrow4 _
                      refine Hid.out ?_
                      have hnx4 : Below (w.heap.size + 2) wr w4 := hnx3.grown hgrow4 (by omega) (fun k hk => (hown3.lt k hk).1)
                      clear hgrow4
                      refine Lib.hid ?_
                      go_wp2
                      go_ret
                      refine ⟨v4, rfl, ?_, hb3.trans (hnx4.mono (by omega))⟩
                      have h9 := ownsRow_base (B' := w.heap.size) hown4 (by omega)
                      exact own_eq h9 (by rw [text_pos t m F HM.out (by omega) (frac_some m F (by omega) HFZ.out hzn.out)] <;> simp [Lib.byteCells])
    · have e0 : ((q : Int) / 10 == 0) = false := by rw [beq_eq_false_iff_ne]; omega
      go_wp2
      go_roundw
      case rel => exact ⟨k, q / 10, dgt q :: l, by omega, by go_num, by go_num, by omega, ⟨by have := HI.out.1; simp; omega, by rw [HI.out.2, dec_big hq10]; simp⟩, hr.set _ _, hf.cons hr (by omega) (dgt q) _ HD.out, hb.setCell (by simp) _, by simp [hsz]⟩
      case measure => simp [intOf]
end Go.Proofs.Qxb6605414aDoor
