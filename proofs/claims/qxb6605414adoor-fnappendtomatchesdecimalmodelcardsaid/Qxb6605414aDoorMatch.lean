/- The walk of FnAppendToMatchesDecimalModel. -/
import Derived.Test.Qxb6605414aDoorModel
import Derived.Test.Qxb6605414aDoorClone
import Derived.Test.Qxb6605414aDoorReadsParts
namespace Go.Proofs.Qxb6605414aDoor
open Go.ChangeShapes Go.WideShapes Go.ChangeAt Go.RowKit Go.Shelf
set_option linter.unusedVariables false

/-- An owned row's bytes. -/
theorem from_owns {w : World} {B g n cap : Nat} {l : List UInt8} (h : w.ownsRow B 5 1 (.slice (some ⟨g, 0, none⟩) n cap) n (Lib.byteCells l)) : From w g 0 l := by
  intro j hj
  have := h.cells (g := g) rfl j (.int .u8 (l[j].toNat : Int)) (by simp [Lib.byteCells, hj])
  rw [Addr.add_lit] at this
  exact this

theorem lt_owns {w : World} {B g n cap : Nat} {xs : List Value} (h : w.ownsRow B 5 1 (.slice (some ⟨g, 0, none⟩) n cap) n xs) : g < w.heap.size := (h.lt g rfl).2

theorem full_from {w : World} {g n : Nat} {xs : List UInt8} (hn : xs.length = n) (h : From w g 0 xs) : Full w (some ⟨g, 0, none⟩) n (Lib.byteCells xs) :=
  ⟨(fun h => by cases h), by rw [Lib.byteCells_length, hn], fun b hb => by cases hb; exact h.news⟩

theorem qtext_len (t : Int) (h0 : -9223372036854775807 ≤ t) (h1 : t ≤ 9223372036854775807) : (qtext t).length ≤ 60 := by
  have := qmag_len t.natAbs (by omega)
  unfold qtext
  split
  · simp; omega
  · omega

set_option maxHeartbeats 1600000 in
set_option maxRecDepth 100000 in
theorem match_some (t : Int) (h0 : -9223372036854775807 ≤ t) (h1 : t ≤ 9223372036854775807) (ad : Addr) (len cap : Nat) (xs : List UInt8) (w : World) (hlen : xs.length = len) (hlim : len ≤ 1048576)
    (hcells : ∀ j u, (Lib.byteCells xs)[j]? = some u → w.cell? (ad.add j) = some u) (htab : Lib.TabIs Tryd.prog w powName .u64 Lib.pow10Tab) :
    Calls Tryd.prog 3 #[.int .i64 t, .slice (some ad) len cap] w fun e w' => e = .returned (.bool true) ∧ Below w.heap.size w w' := by
  have ht : (t == -9223372036854775808) = false := by rw [beq_eq_false_iff_ne]; omega
  have HT := Lib.hid (Lib.tabBelow_of_tabIs htab)
  have HC := Lib.hid hcells
  have HL := Lib.hid hlen
  clear hcells hlen htab
  go_enter Tryd.func3, Tryd.ntmps3
  go_wp2_with (first
    | (go_at_call 5; refine (bytes_small t _ len cap _ hlim).mono ?_; rintro e w' ⟨rfl, rfl⟩)
    | (go_at_call 6; refine (clone_some ad len cap xs _ HL.out hlim HC.out).mono ?_; rintro e w1 ⟨rfl, hf1, hnx1, hlt1⟩; refine Hid.out ?_))
  have hF1 := full_from HL.out hf1
  have hT1 := HT.out w1 hnx1
  refine Lib.hid ?_
  go_wp2_with (go_at_call 7; refine (zzAppendTo_any t h0 h1 _ len xs _ hF1 (by omega) hT1).mono ?_; rintro e w2 ⟨v2, rfl, hown2, hnx2⟩; refine Hid.out ?_)
  refine Lib.hid ?_
  go_wp2_with (go_at_call 8; refine (model_any t h0 h1 _).mono ?_; rintro e w3 ⟨v3, rfl, hown3, hnx3⟩; refine Hid.out ?_)
  have hq := qtext_ne t
  obtain ⟨q, hqe⟩ : ∃ q, q = (qtext t).length := ⟨_, rfl⟩
  rw [← hqe] at hq hown2 hown3
  rcases hown2.2 with ⟨-, h9⟩ | ⟨g2, cap2, cur2, rfl, -, -, -, -, -, -⟩
  · omega
  rcases hown3.2 with ⟨-, h9⟩ | ⟨g3, cap3, cur3, rfl, -, -, -, -, -, -⟩
  · omega
  have fg := (from_owns hown2).below hnx3 (lt_owns hown2)
  have fw := from_owns hown3
  have fb := (hf1.below hnx2 (by omega)).below hnx3 (by have := hnx2.size; omega)
  have hnx : Below w.heap.size w w3 := (hnx1.trans (hnx2.mono (by omega))).trans (hnx3.mono (by have := hnx2.size; omega))
  have hq60 : q ≤ 60 := by rw [hqe]; exact qtext_len t h0 h1
  have HQ := Lib.hid hqe
  clear hown2 hown3 hf1 hF1 hT1 hnx1 hnx2 hnx3 hqe hlt1
  refine Lib.hid ?_
  go_wp2
  go_loopw [7] (fun i wr => ∃ (k d : Nat), k ≤ len ∧ i = .int .i64 k ∧ wr = w3.drewN d) (fun i _ => len - (intOf i).toNat)
  case atStart => exact ⟨0, 0, by omega, rfl, rfl⟩
  case round =>
    obtain ⟨k, d, hk, rfl, rfl⟩ := hrel
    by_cases hlt : k < len
    · have hkx : k < xs.length := by rw [HL.out]; exact hlt
      obtain ⟨z, hz⟩ : ∃ z : Int, z = (xs[k].toNat : Int) := ⟨_, rfl⟩
      have c1 : w3.cell? ⟨g2, k, none⟩ = some (.int .u8 z) := by
        have := fg k (by rw [List.length_append]; omega)
        rw [List.getElem_append_left hkx, Nat.zero_add, ← hz] at this
        exact this
      have c2 : w3.cell? ⟨w.heap.size, k, none⟩ = some (.int .u8 z) := by
        have := fb k hkx
        rw [Nat.zero_add, ← hz] at this
        exact this
      have i1 : (k : Int) < (len : Int) := by omega
      have i2 : (k : Int) < (len : Int) + (q : Int) := by omega
      clear hz
      go_wp2
      go_quiet (fail)
      go_wp2
      go_roundw
      case rel => exact ⟨k + 1, _, by omega, by go_num, rfl⟩
      case measure => simp [intOf]; omega
    · go_wp2
      go_loopw [8] (fun i wr => ∃ (k d : Nat), k ≤ q ∧ i = .int .i64 k ∧ wr = w3.drewN d) (fun i _ => q - (intOf i).toNat)
      case atStart => exact ⟨0, d, by omega, rfl, rfl⟩
      case round =>
        obtain ⟨k2, d2, hk2, rfl, rfl⟩ := hrel
        by_cases hlt2 : k2 < q
        · have hkq : k2 < (qtext t).length := by rw [← HQ.out]; exact hlt2
          obtain ⟨z, hz⟩ : ∃ z : Int, z = ((qtext t)[k2].toNat : Int) := ⟨_, rfl⟩
          have c1 : w3.cell? ⟨g2, len + k2, none⟩ = some (.int .u8 z) := by
            have := fg (len + k2) (by rw [List.length_append, HL.out]; omega)
            rw [List.getElem_append_right (by rw [HL.out]; omega), Nat.zero_add] at this
            rw [this, hz]
            congr
            rw [HL.out]
            omega
          have c2 : w3.cell? ⟨g3, k2, none⟩ = some (.int .u8 z) := by
            have := fw k2 hkq
            rw [Nat.zero_add, ← hz] at this
            exact this
          have i1 : (k2 : Int) < (q : Int) := by omega
          have i2 : (len : Int) + (k2 : Int) < (len : Int) + (q : Int) := by omega
          clear hz
          go_wp2
          go_quiet (fail)
          go_wp2
          go_roundw
          case rel => exact ⟨k2 + 1, _, by omega, by go_num, rfl⟩
          case measure => simp [intOf]; omega
        · go_wp2
          go_ret
          exact ⟨rfl, below_drewN hnx _⟩
set_option maxHeartbeats 1600000 in
set_option maxRecDepth 100000 in
theorem match_nil (t : Int) (h0 : -9223372036854775807 ≤ t) (h1 : t ≤ 9223372036854775807) (w : World) (htab : Lib.TabIs Tryd.prog w powName .u64 Lib.pow10Tab) :
    Calls Tryd.prog 3 #[.int .i64 t, .slice none 0 0] w fun e w' => e = .returned (.bool true) ∧ Below w.heap.size w w' := by
  have ht : (t == -9223372036854775808) = false := by rw [beq_eq_false_iff_ne]; omega
  have HT := Lib.hid htab
  clear htab
  go_enter Tryd.func3, Tryd.ntmps3
  go_wp2_with (first
    | (go_at_call 5; refine (bytes_small t _ 0 0 _ (by omega)).mono ?_; rintro e w' ⟨rfl, rfl⟩)
    | (go_at_call 6; refine (clone_nil _).mono ?_; rintro e w1 ⟨rfl, rfl⟩)
    | (go_at_call 7; refine (zzAppendTo_any t h0 h1 none 0 [] _ (full_nil _) (by omega) HT.out).mono ?_; rintro e w2 ⟨v2, rfl, hown2, hnx2⟩; refine Hid.out ?_))
  rw [Nat.zero_add, List.nil_append] at hown2
  refine Lib.hid ?_
  go_wp2_with (go_at_call 8; refine (model_any t h0 h1 _).mono ?_; rintro e w3 ⟨v3, rfl, hown3, hnx3⟩; refine Hid.out ?_)
  have hq := qtext_ne t
  obtain ⟨q, hqe⟩ : ∃ q, q = (qtext t).length := ⟨_, rfl⟩
  rw [← hqe] at hq hown2 hown3
  rcases hown2.2 with ⟨-, h9⟩ | ⟨g2, cap2, cur2, rfl, -, -, -, -, -, -⟩
  · omega
  rcases hown3.2 with ⟨-, h9⟩ | ⟨g3, cap3, cur3, rfl, -, -, -, -, -, -⟩
  · omega
  have fg := (from_owns hown2).below hnx3 (lt_owns hown2)
  have fw := from_owns hown3
  have hnx : Below w.heap.size w w3 := hnx2.trans (hnx3.mono (by have := hnx2.size; omega))
  have hq60 : q ≤ 60 := by rw [hqe]; exact qtext_len t h0 h1
  have HQ := Lib.hid hqe
  clear hown2 hown3 hnx2 hnx3 hqe
  refine Lib.hid ?_
  go_wp2
  go_loopw [7] (fun i wr => ∃ (k d : Nat), k ≤ 0 ∧ i = .int .i64 k ∧ wr = w3.drewN d) (fun i _ => 0 - (intOf i).toNat)
  case atStart => exact ⟨0, 0, by omega, rfl, rfl⟩
  case round =>
    obtain ⟨k, d, hk, rfl, rfl⟩ := hrel
    obtain rfl : k = 0 := by omega
    go_wp2
    go_loopw [8] (fun i wr => ∃ (k d : Nat), k ≤ q ∧ i = .int .i64 k ∧ wr = w3.drewN d) (fun i _ => q - (intOf i).toNat)
    case atStart => exact ⟨0, d, by omega, rfl, rfl⟩
    case round =>
      obtain ⟨k2, d2, hk2, rfl, rfl⟩ := hrel
      by_cases hlt2 : k2 < q
      · have hkq : k2 < (qtext t).length := by rw [← HQ.out]; exact hlt2
        obtain ⟨z, hz⟩ : ∃ z : Int, z = ((qtext t)[k2].toNat : Int) := ⟨_, rfl⟩
        have c1 : w3.cell? ⟨g2, k2, none⟩ = some (.int .u8 z) := by
          have := fg k2 hkq
          rw [Nat.zero_add, ← hz] at this
          exact this
        have c2 : w3.cell? ⟨g3, k2, none⟩ = some (.int .u8 z) := by
          have := fw k2 hkq
          rw [Nat.zero_add, ← hz] at this
          exact this
        have i1 : (k2 : Int) < (q : Int) := by omega
        clear hz
        go_wp2
        go_quiet (fail)
        go_wp2
        go_roundw
        case rel => exact ⟨k2 + 1, _, by omega, by go_num, rfl⟩
        case measure => simp [intOf]; omega
      · go_wp2
        go_ret
        exact ⟨rfl, below_drewN hnx _⟩

end Go.Proofs.Qxb6605414aDoor
