import Derived.Test.Qxb6605414aDoorRows
import Derived.Test.Qxb6605414aDoorPlain
import Derived.Test.Qxb6605414aDoorShelf
import Derived.Test.Qxb6605414aDoorAppend
import Derived.WalkKit
import Derived.ProofKit
import Derived.OpenShut
import Derived.Deep.QuietTactic
import Derived.BigQuiet
import Derived.Lib.Hide
namespace Go.Proofs.Qxb6605414aDoor
open Go.ChangeShapes Go.WideShapes Go.ChangeAt Go.RowKit Go.Shelf
set_option linter.unusedVariables false

/-- strconv.AppendInt at this dump, onto a full slice. -/
theorem appendInt_f (i : Int) (u : Nat) (hi : i = u) (h1 : u ≤ 9223372036854775807) (ao : Option Addr) (n : Nat) (xs : List Value) (w : World) (hF : Full w ao n xs) (hlim : n + 20 ≤ 140737488355328)
    (htab : Lib.TabIs Tryd.prog w powName .u64 Lib.pow10Tab) :
    Calls Tryd.prog 13 #[.slice ao n n, .int .i64 i, .int .i64 10] w fun e w' => ∃ v' N XS, e = .returned v' ∧ w'.ownsRow w.heap.size 5 1 v' N XS ∧ (N = n + (Lib.decDigits u).length ∧ XS = xs ++ Lib.byteCells (Lib.decDigits u)) ∧ Below w.heap.size w w' := by
  subst hi
  refine (appendInt_full Tryd.lays176 n u h1 ao xs w hF hlim htab).mono ?_
  rintro e w' ⟨v', rfl, h2, h3⟩
  exact ⟨v', _, _, rfl, h2, ⟨rfl, rfl⟩, h3⟩

/-- strconv.AppendInt at this dump, onto a slice that the call owns. -/
theorem appendInt_o (B : Nat) (i : Int) (u : Nat) (hi : i = u) (h1 : u ≤ 9223372036854775807) (sv : Value) (n : Nat) (xs : List Value) (w : World) (hown : w.ownsRow B 5 1 sv n xs) (hBw : B ≤ w.heap.size) (hlim : n + 21 ≤ 140737488355328)
    (htab : Lib.TabBelow Tryd.prog B w powName .u64 Lib.pow10Tab) :
    Calls Tryd.prog 13 #[sv, .int .i64 i, .int .i64 10] w fun e w' => ∃ v' N XS, e = .returned v' ∧ w'.ownsRow B 5 1 v' N XS ∧ (N = n + (Lib.decDigits u).length ∧ XS = xs ++ Lib.byteCells (Lib.decDigits u)) ∧ Below B w w' := by
  subst hi
  refine (Any.strconv_AppendInt_10 Tryd.lays176 B n u (by omega) (by omega) sv xs w hown hBw hlim htab).mono ?_
  rintro e w' ⟨v', rfl, h2, h3, _⟩
  rw [Lib.itoa_nonneg] at h2
  exact ⟨v', _, _, rfl, h2, ⟨rfl, rfl⟩, h3⟩

/-- A slice's length. -/
def slen : Value → Nat
  | .slice _ n _ => n
  | _ => 0

/-- An owned row, cut shorter. -/
theorem ownsRow_prefix {w : World} {B : Nat} {e : TypeId} {g n cap : Nat} {xs : List Value} (h : w.ownsRow B e 1 (.slice (some ⟨g, 0, none⟩) n cap) n xs) (k : Nat) (hk : k ≤ n) : w.ownsRow B e 1 (.slice (some ⟨g, 0, none⟩) k cap) k (xs.take k) := by
  obtain ⟨hl, ⟨h0, -⟩ | ⟨g', cap', cur, hv, hb, hh, hn, hc, hs, ht⟩⟩ := h
  · cases h0
  · cases hv
    refine ⟨by rw [List.length_take, hl]; omega, .inr ⟨g, cap, cur, rfl, hb, hh, by omega, hc, hs, ?_⟩⟩
    rw [← ht, List.take_take]
    congr 1
    omega

/-- The four cells that appendTo lays behind the whole part. -/
def tailCells (m : Nat) : List Value := [Value.int .u8 46, Value.int .u8 (48 + (m : Int) % 1000 / 100), Value.int .u8 (48 + (m : Int) % 1000 / 10 % 10), Value.int .u8 (48 + (m : Int) % 10)]

theorem cell_dgt {k : Nat} {z : Int} (h : z = 48 + ((k % 10 : Nat) : Int)) : Value.int .u8 ((dgt k).toNat : Int) = Value.int .u8 z := by
  rw [dgt_toNat, h]
  simp

theorem frac_len (m : Nat) (hf : m % 1000 ≠ 0) : (frac (m % 1000)).length = if m % 10 ≠ 0 then 4 else if m / 10 % 10 ≠ 0 then 3 else 2 := by
  unfold frac fdig
  rw [if_neg hf]
  have e1 : m % 1000 % 10 = m % 10 := by omega
  have e2 : m % 1000 / 10 % 10 = m / 10 % 10 := by omega
  rw [e1, e2]
  split
  · rfl
  · split <;> rfl

theorem frac_cells (m : Nat) (hf : m % 1000 ≠ 0) : (tailCells m).take (frac (m % 1000)).length = Lib.byteCells (frac (m % 1000)) := by
  rw [frac_len m hf]
  unfold frac fdig tailCells
  rw [if_neg hf]
  have e1 : m % 1000 % 10 = m % 10 := by omega
  have e2 : m % 1000 / 10 % 10 = m / 10 % 10 := by omega
  have c1 := cell_dgt (k := m % 1000 / 100) (z := 48 + (m : Int) % 1000 / 100) (by omega)
  have c2 := cell_dgt (k := m % 1000 / 10) (z := 48 + (m : Int) % 1000 / 10 % 10) (by omega)
  have c3 := cell_dgt (k := m % 1000) (z := 48 + (m : Int) % 10) (by omega)
  rw [e1, e2]
  split
  · simp [Lib.byteCells, c1, c2, c3]
  · split
    · simp [Lib.byteCells, c1, c2]
    · simp [Lib.byteCells, c1]

/-- The row as appendTo leaves it, the end struck: the number's text. -/
theorem own_tail {w : World} {B g n cap N : Nat} {xs : List UInt8} {XS : List Value} {m : Nat} (hf : m % 1000 ≠ 0)
    (hNX : N = n + (Lib.decDigits (m / 1000)).length ∧ XS = Lib.byteCells xs ++ Lib.byteCells (Lib.decDigits (m / 1000)))
    (hx : XS.length = N) (h : w.ownsRow B 5 1 (.slice (some ⟨g, 0, none⟩) (N + 4) cap) (N + 4) (XS ++ tailCells m)) (k : Nat) (hk : k = (frac (m % 1000)).length) :
    w.ownsRow B 5 1 (.slice (some ⟨g, 0, none⟩) (N + k) cap) (n + (qmag m).length) (Lib.byteCells (xs ++ qmag m)) := by
  have hk4 : k ≤ 4 := by rw [hk, frac_len m hf]; split <;> (try split) <;> omega
  have h1 := ownsRow_prefix h (N + k) (by omega)
  have e1 : (XS ++ tailCells m).take (N + k) = Lib.byteCells (xs ++ qmag m) := by
    rw [List.take_append, hx, Nat.add_sub_cancel_left, List.take_of_length_le (by omega), hk, frac_cells m hf, hNX.2]
    simp [Lib.byteCells, qmag]
  have e2 : N + k = n + (qmag m).length := by
    rw [hNX.1, hk, qmag, List.length_append]
    omega
  rw [e1] at h1
  rw [e2] at h1 ⊢
  exact h1

theorem own_tail_neg {w : World} {B g n cap N : Nat} {xs : List UInt8} {XS : List Value} {m : Nat} (hf : m % 1000 ≠ 0)
    (hNX : N = n + 1 + (Lib.decDigits (m / 1000)).length ∧ XS = Lib.byteCells (xs ++ [45]) ++ Lib.byteCells (Lib.decDigits (m / 1000)))
    (hx : XS.length = N) (h : w.ownsRow B 5 1 (.slice (some ⟨g, 0, none⟩) (N + 4) cap) (N + 4) (XS ++ tailCells m)) (k : Nat) (hk : k = (frac (m % 1000)).length) :
    w.ownsRow B 5 1 (.slice (some ⟨g, 0, none⟩) (N + k) cap) (n + 1 + (qmag m).length) (Lib.byteCells (xs ++ 45 :: qmag m)) := by
  have := own_tail hf hNX hx h k hk
  rw [List.append_assoc, List.singleton_append] at this
  exact this

theorem infoByte : (Tryd.prog.info? 5).map (fun i => (i.zero, i.size, i.bytes)) = some (some (.int .u8 0), 1, 1) := by kernel_rfl

set_option maxHeartbeats 800000 in
set_option maxRecDepth 100000 in
theorem appendTo_pos (m : Nat) (hm : m ≤ 9223372036854775807) (ao : Option Addr) (n : Nat) (xs : List UInt8) (w : World) (hF : Full w ao n (Lib.byteCells xs)) (hlim : n + 100 ≤ 140737488355328)
    (htab : Lib.TabIs Tryd.prog w powName .u64 Lib.pow10Tab) :
    Calls Tryd.prog 11 #[.agg #[.int .i64 m], .slice ao n n] w fun e w' => ∃ v', e = .returned v' ∧ w'.ownsRow w.heap.size 5 1 v' (n + (qmag m).length) (Lib.byteCells (xs ++ qmag m)) ∧ Below w.heap.size w w' := by
  obtain ⟨i0, hi, hz0, hz1, hz2⟩ := info_parts infoByte
  have hT := Lib.tabBelow_of_tabIs htab
  have hb1 : ∀ o, Below w.heap.size w (w.alloc o) := fun o => (Below.refl _ _).alloc (Nat.le_refl _) o
  have hF1 : Full (w.alloc (.cells #[.int .i64 (m : Int)] 33)) ao n (Lib.byteCells xs) := hF.later (hb1 _)
  have hT1 : Lib.TabIs Tryd.prog (w.alloc (.cells #[.int .i64 (m : Int)] 33)) powName .u64 Lib.pow10Tab := hT _ (hb1 _)
  have hlen : (Lib.decDigits (m / 1000)).length ≤ 20 := by rw [Lib.decDigits_length]; exact Lib.nDigits_le20 _ (by omega)
  by_cases hf0 : m % 1000 = 0
  · have e0 : ((m : Int) % 1000 == 0) = true := by rw [beq_iff_eq]; omega
    go_enter Tryd.func11, Tryd.ntmps11
    go_wp2_with (go_at_call 13; refine (appendInt_f _ (m / 1000) (by omega) (by omega) ao n _ _ hF1 (by omega) hT1).mono ?_; rintro e w2 ⟨v2, N, XS, rfl, hown2, hNX, hnx2⟩)
    go_ret
    obtain ⟨rfl, rfl⟩ := hNX
    refine ⟨v2, rfl, ?_, (hb1 _).trans (hnx2.mono (by simp))⟩
    have h9 := ownsRow_base hown2 (show w.heap.size ≤ _ by simp)
    have e1 : qmag m = Lib.decDigits (m / 1000) := by simp [qmag, frac, hf0]
    rw [e1]
    simpa [Lib.byteCells] using h9
  · have e0 : ((m : Int) % 1000 == 0) = false := by rw [beq_eq_false_iff_ne]; omega
    go_enter Tryd.func11, Tryd.ntmps11
    go_wp2_with (go_at_call 13; refine (appendInt_f _ (m / 1000) (by omega) (by omega) ao n _ _ hF1 (by omega) hT1).mono ?_; rintro e w2 ⟨v2, N, XS, rfl, hown2, hNX, hnx2⟩; refine Hid.out ?_)
    refine Lib.hid ?_
    have hN : N ≤ n + 20 := by omega
    have HNX := Lib.hid hNX
    clear hNX
    have hsz2 := hnx2.size
    simp at hsz2
    have hown3 := ownsRow_base hown2 (show w.heap.size ≤ _ by simp)
    clear hown2
    go_wp2_with (at_builtin; refine wpList_append_own _ rfl _ _ 22 rfl w.heap.size 5 i0 (.int .u8 0) 1 1 Tryd.underlying22 hi hz0 hz1 hz2 rfl (by decide) _ _ _ rfl (hown3.alloc _) ⟨w2.heap.size, 0, none⟩ 4 4 (tailCells m) rfl rfl ?c1 ?c2 ?c3 ?c4 ?c5 ?_)
    case c1 => intro j u hj; match j, hj with
      | 0, hj => simp [tailCells] at hj; subst hj; simp [Addr.add]
      | 1, hj => simp [tailCells] at hj; subst hj; simp [Addr.add]
      | 2, hj => simp [tailCells] at hj; subst hj; simp [Addr.add]
      | 3, hj => simp [tailCells] at hj; subst hj; simp [Addr.add]
    case c2 => intro u hu; simp [tailCells] at hu; rcases hu with rfl | rfl | rfl | rfl <;> rfl
    case c3 => unfold maxLen; omega
    case c4 => omega
    case c5 => simp; omega
    intro v3 w3 hown4 hgrow _
    refine Hid.out ?_
    have hnx3 : Below w.heap.size w w3 := by
      have h1 : Below w.heap.size w w2 := (hb1 _).trans (hnx2.mono (by simp))
      exact (h1.alloc (by omega) _).grown hgrow (by simp; omega) (fun k hk => (hown3.lt k hk).1)
    rcases hown4.2 with ⟨-, h0⟩ | ⟨g, cap, cur, rfl, hg1, hg2, hg3, hg4, hg5, hg6⟩
    · omega
    have hXl : XS.length = N := by simpa using hown3.1
    have cell : ∀ j u, (XS ++ tailCells m)[j]? = some u → w3.cell? ⟨g, j, none⟩ = some u := by
      intro j u hj
      have := hown4.cells (g := g) rfl j u hj
      rw [Addr.add_lit, Nat.zero_add] at this
      exact this
    have k3 : w3.cell? ⟨g, N + 3, none⟩ = some (.int .u8 (48 + (m : Int) % 10)) := cell _ _ (by rw [List.getElem?_append_right (by omega), hXl]; simp [tailCells])
    have k2 : w3.cell? ⟨g, N + 2, none⟩ = some (.int .u8 (48 + (m : Int) % 1000 / 10 % 10)) := cell _ _ (by rw [List.getElem?_append_right (by omega), hXl]; simp [tailCells])
    have k1 : w3.cell? ⟨g, N + 1, none⟩ = some (.int .u8 (48 + (m : Int) % 1000 / 100)) := cell _ _ (by rw [List.getElem?_append_right (by omega), hXl]; simp [tailCells])
    have HO := Lib.hid hown4
    have HX := Lib.hid hXl
    clear hown4 cell hXl hgrow hown3 hnx2 hg2 hg5 hg6
    refine Lib.hid ?_
    go_wp2
    go_loop [1] (fun v => ∃ L : Nat, (L = N + 4 ∨ (L = N + 3 ∧ m % 10 = 0) ∨ (L = N + 2 ∧ m % 10 = 0 ∧ m / 10 % 10 = 0)) ∧ v = .slice (some ⟨g, 0, none⟩) L cap) (fun v => slen v)
    case atStart => exact ⟨_, .inl rfl, rfl⟩
    case round =>
      obtain ⟨L, hL, rfl⟩ := hrel
      rcases hL with rfl | ⟨rfl, hd1⟩ | ⟨rfl, hd1, hd2⟩
      · by_cases hd : m % 10 = 0
        · have et : ((48 + (m : Int) % 10) == 48) = true := by rw [beq_iff_eq]; omega
          have HD := Lib.hid hd
          clear hd
          go_wp2
          go_round
          case rel => exact ⟨_, .inr (.inl ⟨rfl, HD.out⟩), rfl⟩
          case measure => simp [slen]
        · have et : ((48 + (m : Int) % 10) == 48) = false := by rw [beq_eq_false_iff_ne]; omega
          go_wp2
          go_ret
          exact ⟨_, rfl, own_tail hf0 HNX.out HX.out HO.out 4 (by rw [frac_len m hf0, if_pos hd]), hnx3⟩
      · have HD := Lib.hid hd1
        by_cases hd : m / 10 % 10 = 0
        · have et : ((48 + (m : Int) % 1000 / 10 % 10) == 48) = true := by rw [beq_iff_eq]; omega
          have HE := Lib.hid hd
          clear hd hd1
          go_wp2
          go_round
          case rel => exact ⟨_, .inr (.inr ⟨rfl, HD.out, HE.out⟩), rfl⟩
          case measure => simp [slen]
        · have et : ((48 + (m : Int) % 1000 / 10 % 10) == 48) = false := by rw [beq_eq_false_iff_ne]; omega
          clear hd1
          go_wp2
          go_ret
          exact ⟨_, rfl, own_tail hf0 HNX.out HX.out HO.out 3 (by rw [frac_len m hf0, if_neg (by simp [HD.out]), if_pos hd]), hnx3⟩
      · have HD := Lib.hid hd1
        have HE := Lib.hid hd2
        have et : ((48 + (m : Int) % 1000 / 100) == 48) = false := by rw [beq_eq_false_iff_ne]; omega
        clear hd1 hd2
        go_wp2
        go_ret
        exact ⟨_, rfl, own_tail hf0 HNX.out HX.out HO.out 2 (by rw [frac_len m hf0, if_neg (by simp [HD.out]), if_neg (by simp [HE.out])]), hnx3⟩
set_option maxHeartbeats 800000 in
set_option maxRecDepth 100000 in
theorem appendTo_neg (m : Nat) (h1m : 1 ≤ m) (hm : m ≤ 9223372036854775807) (ao : Option Addr) (n : Nat) (xs : List UInt8) (w : World) (hF : Full w ao n (Lib.byteCells xs)) (hlim : n + 100 ≤ 140737488355328)
    (htab : Lib.TabIs Tryd.prog w powName .u64 Lib.pow10Tab) :
    Calls Tryd.prog 11 #[.agg #[.int .i64 (-(m : Int))], .slice ao n n] w fun e w' => ∃ v', e = .returned v' ∧ w'.ownsRow w.heap.size 5 1 v' (n + 1 + (qmag m).length) (Lib.byteCells (xs ++ 45 :: qmag m)) ∧ Below w.heap.size w w' := by
  obtain ⟨i0, hi, hz0, hz1, hz2⟩ := info_parts infoByte
  have hT := Lib.tabBelow_of_tabIs htab
  have hb1 : ∀ o, Below w.heap.size w (w.alloc o) := fun o => (Below.refl _ _).alloc (Nat.le_refl _) o
  have hF1 : ∀ o1 o2, Full ((w.alloc o1).alloc o2) ao n (Lib.byteCells xs) := fun o1 o2 => hF.later ((hb1 o1).alloc (by simp) o2)
  have hlen : (Lib.decDigits (m / 1000)).length ≤ 20 := by rw [Lib.decDigits_length]; exact Lib.nDigits_le20 _ (by omega)
  by_cases hf0 : m % 1000 = 0
  · have e0 : ((m : Int) % 1000 == 0) = true := by rw [beq_iff_eq]; omega
    go_enter Tryd.func11, Tryd.ntmps11
    go_wp2_with (at_builtin; refine wpList_append_grows _ rfl _ _ 22 rfl 5 i0 (.int .u8 0) 1 1 Tryd.underlying22 hi hz0 hz1 hz2 rfl (by decide) ao n n (Lib.byteCells xs) rfl ?d1 ?d2 ?d3 ⟨w.heap.size + 1, 0, none⟩ 1 1 [Value.int .u8 45] rfl rfl ?c1 ?c2 ?cf ?c3 ?c4 ?_)
    case d1 => exact fun h => ⟨hF.nil h, hF.nil h⟩
    case d2 => rw [hF.len, Nat.mul_one]
    case d3 => exact (hF1 _ _).cells
    case c1 => intro j u hj; match j, hj with
      | 0, hj => simp at hj; subst hj; simp [Addr.add]
    case c2 => intro u hu; simp at hu; subst hu; rfl
    case cf => omega
    case c3 => unfold maxLen; omega
    case c4 => omega
    intro v1 w1 hown1 hgrow1
    refine Hid.out ?_
    have hnx1 : Below w.heap.size w w1 := (((Below.refl _ _).alloc (Nat.le_refl _) _).alloc (by simp) _).grown hgrow1 (by simp; omega) (fun k hk => by cases hk)
    have hownb := ownsRow_base (B' := w.heap.size) hown1 (by omega)
    have e45 : Lib.byteCells xs ++ [Value.int .u8 45] = Lib.byteCells (xs ++ [45]) := by simp [Lib.byteCells]
    rw [e45] at hownb
    clear e45
    have hsz1 : w.heap.size ≤ w1.heap.size := hnx1.size
    have hT1 := hT.on hnx1
    clear hown1 hgrow1
    refine Lib.hid ?_
    go_wp2_with (go_at_call 13; refine (appendInt_o w.heap.size _ (m / 1000) (by omega) (by omega) v1 (n + 1) _ _ hownb hsz1 (by omega) hT1).mono ?_; rintro e w2 ⟨v2, N, XS, rfl, hown2, hNX, hnx2⟩)
    go_ret
    obtain ⟨rfl, rfl⟩ := hNX
    refine ⟨v2, rfl, ?_, hnx1.trans hnx2⟩
    have h9 := hown2
    have e1 : qmag m = Lib.decDigits (m / 1000) := by simp [qmag, frac, hf0]
    rw [e1]
    simpa [Lib.byteCells] using h9
  · have e0 : ((m : Int) % 1000 == 0) = false := by rw [beq_eq_false_iff_ne]; omega
    go_enter Tryd.func11, Tryd.ntmps11
    go_wp2_with (at_builtin; refine wpList_append_grows _ rfl _ _ 22 rfl 5 i0 (.int .u8 0) 1 1 Tryd.underlying22 hi hz0 hz1 hz2 rfl (by decide) ao n n (Lib.byteCells xs) rfl ?d1 ?d2 ?d3 ⟨w.heap.size + 1, 0, none⟩ 1 1 [Value.int .u8 45] rfl rfl ?c1 ?c2 ?cf ?c3 ?c4 ?_)
    case d1 => exact fun h => ⟨hF.nil h, hF.nil h⟩
    case d2 => rw [hF.len, Nat.mul_one]
    case d3 => exact (hF1 _ _).cells
    case c1 => intro j u hj; match j, hj with
      | 0, hj => simp at hj; subst hj; simp [Addr.add]
    case c2 => intro u hu; simp at hu; subst hu; rfl
    case cf => omega
    case c3 => unfold maxLen; omega
    case c4 => omega
    intro v1 w1 hown1 hgrow1
    refine Hid.out ?_
    have hnx1 : Below w.heap.size w w1 := (((Below.refl _ _).alloc (Nat.le_refl _) _).alloc (by simp) _).grown hgrow1 (by simp; omega) (fun k hk => by cases hk)
    have hownb := ownsRow_base (B' := w.heap.size) hown1 (by omega)
    have e45 : Lib.byteCells xs ++ [Value.int .u8 45] = Lib.byteCells (xs ++ [45]) := by simp [Lib.byteCells]
    rw [e45] at hownb
    clear e45
    have hsz1 : w.heap.size ≤ w1.heap.size := hnx1.size
    have hT1 := hT.on hnx1
    clear hown1 hgrow1
    refine Lib.hid ?_
    go_wp2_with (go_at_call 13; refine (appendInt_o w.heap.size _ (m / 1000) (by omega) (by omega) v1 (n + 1) _ _ hownb hsz1 (by omega) hT1).mono ?_; rintro e w2 ⟨v2, N, XS, rfl, hown2, hNX, hnx2⟩; refine Hid.out ?_)
    refine Lib.hid ?_
    have hN : N ≤ n + 21 := by omega
    have HNX := Lib.hid hNX
    clear hNX
    have hsz2 := hnx2.size
    have hown3 := hown2
    clear hown2
    go_wp2_with (at_builtin; refine wpList_append_own _ rfl _ _ 22 rfl w.heap.size 5 i0 (.int .u8 0) 1 1 Tryd.underlying22 hi hz0 hz1 hz2 rfl (by decide) _ _ _ rfl (hown3.alloc _) ⟨w2.heap.size, 0, none⟩ 4 4 (tailCells m) rfl rfl ?c1 ?c2 ?c3 ?c4 ?c5 ?_)
    case c1 => intro j u hj; match j, hj with
      | 0, hj => simp [tailCells] at hj; subst hj; simp [Addr.add]
      | 1, hj => simp [tailCells] at hj; subst hj; simp [Addr.add]
      | 2, hj => simp [tailCells] at hj; subst hj; simp [Addr.add]
      | 3, hj => simp [tailCells] at hj; subst hj; simp [Addr.add]
    case c2 => intro u hu; simp [tailCells] at hu; rcases hu with rfl | rfl | rfl | rfl <;> rfl
    case c3 => unfold maxLen; omega
    case c4 => omega
    case c5 => simp; omega
    intro v3 w3 hown4 hgrow _
    refine Hid.out ?_
    have hnx3 : Below w.heap.size w w3 := by
      have h1 : Below w.heap.size w w2 := hnx1.trans hnx2
      exact (h1.alloc (by omega) _).grown hgrow (by simp; omega) (fun k hk => (hown3.lt k hk).1)
    rcases hown4.2 with ⟨-, h0⟩ | ⟨g, cap, cur, rfl, hg1, hg2, hg3, hg4, hg5, hg6⟩
    · omega
    have hXl : XS.length = N := by simpa using hown3.1
    have cell : ∀ j u, (XS ++ tailCells m)[j]? = some u → w3.cell? ⟨g, j, none⟩ = some u := by
      intro j u hj
      have := hown4.cells (g := g) rfl j u hj
      rw [Addr.add_lit, Nat.zero_add] at this
      exact this
    have k3 : w3.cell? ⟨g, N + 3, none⟩ = some (.int .u8 (48 + (m : Int) % 10)) := cell _ _ (by rw [List.getElem?_append_right (by omega), hXl]; simp [tailCells])
    have k2 : w3.cell? ⟨g, N + 2, none⟩ = some (.int .u8 (48 + (m : Int) % 1000 / 10 % 10)) := cell _ _ (by rw [List.getElem?_append_right (by omega), hXl]; simp [tailCells])
    have k1 : w3.cell? ⟨g, N + 1, none⟩ = some (.int .u8 (48 + (m : Int) % 1000 / 100)) := cell _ _ (by rw [List.getElem?_append_right (by omega), hXl]; simp [tailCells])
    have HO := Lib.hid hown4
    have HX := Lib.hid hXl
    clear hown4 cell hXl hgrow hown3 hnx2 hg2 hg5 hg6
    refine Lib.hid ?_
    go_wp2
    go_loop [1] (fun v => ∃ L : Nat, (L = N + 4 ∨ (L = N + 3 ∧ m % 10 = 0) ∨ (L = N + 2 ∧ m % 10 = 0 ∧ m / 10 % 10 = 0)) ∧ v = .slice (some ⟨g, 0, none⟩) L cap) (fun v => slen v)
    case atStart => exact ⟨_, .inl rfl, rfl⟩
    case round =>
      obtain ⟨L, hL, rfl⟩ := hrel
      rcases hL with rfl | ⟨rfl, hd1⟩ | ⟨rfl, hd1, hd2⟩
      · by_cases hd : m % 10 = 0
        · have et : ((48 + (m : Int) % 10) == 48) = true := by rw [beq_iff_eq]; omega
          have HD := Lib.hid hd
          clear hd
          go_wp2
          go_round
          case rel => exact ⟨_, .inr (.inl ⟨rfl, HD.out⟩), rfl⟩
          case measure => simp [slen]
        · have et : ((48 + (m : Int) % 10) == 48) = false := by rw [beq_eq_false_iff_ne]; omega
          go_wp2
          go_ret
          exact ⟨_, rfl, own_tail_neg hf0 HNX.out HX.out HO.out 4 (by rw [frac_len m hf0, if_pos hd]), hnx3⟩
      · have HD := Lib.hid hd1
        by_cases hd : m / 10 % 10 = 0
        · have et : ((48 + (m : Int) % 1000 / 10 % 10) == 48) = true := by rw [beq_iff_eq]; omega
          have HE := Lib.hid hd
          clear hd hd1
          go_wp2
          go_round
          case rel => exact ⟨_, .inr (.inr ⟨rfl, HD.out, HE.out⟩), rfl⟩
          case measure => simp [slen]
        · have et : ((48 + (m : Int) % 1000 / 10 % 10) == 48) = false := by rw [beq_eq_false_iff_ne]; omega
          clear hd1
          go_wp2
          go_ret
          exact ⟨_, rfl, own_tail_neg hf0 HNX.out HX.out HO.out 3 (by rw [frac_len m hf0, if_neg (by simp [HD.out]), if_pos hd]), hnx3⟩
      · have HD := Lib.hid hd1
        have HE := Lib.hid hd2
        have et : ((48 + (m : Int) % 1000 / 100) == 48) = false := by rw [beq_eq_false_iff_ne]; omega
        clear hd1 hd2
        go_wp2
        go_ret
        exact ⟨_, rfl, own_tail_neg hf0 HNX.out HX.out HO.out 2 (by rw [frac_len m hf0, if_neg (by simp [HD.out]), if_neg (by simp [HE.out])]), hnx3⟩

/-- appendTo: what it appends, for every number but the least. -/
theorem appendTo_any (t : Int) (h0 : -9223372036854775807 ≤ t) (h1 : t ≤ 9223372036854775807) (ao : Option Addr) (n : Nat) (xs : List UInt8) (w : World) (hF : Full w ao n (Lib.byteCells xs)) (hlim : n + 100 ≤ 140737488355328)
    (htab : Lib.TabIs Tryd.prog w powName .u64 Lib.pow10Tab) :
    Calls Tryd.prog 11 #[.agg #[.int .i64 t], .slice ao n n] w fun e w' => ∃ v', e = .returned v' ∧ w'.ownsRow w.heap.size 5 1 v' (n + (qtext t).length) (Lib.byteCells (xs ++ qtext t)) ∧ Below w.heap.size w w' := by
  by_cases hneg : t < 0
  · obtain ⟨m, rfl⟩ : ∃ m : Nat, t = -(m : Int) := ⟨t.natAbs, by omega⟩
    refine (appendTo_neg m (by omega) (by omega) ao n xs w hF hlim htab).mono ?_
    rintro e w' ⟨v', rfl, h2, h3⟩
    refine ⟨v', rfl, ?_, h3⟩
    have e1 : qtext (-(m : Int)) = 45 :: qmag m := by unfold qtext; rw [if_pos hneg]; simp
    have e2 : n + 1 + (qmag m).length = n + (qtext (-(m : Int))).length := by rw [e1, List.length_cons]; omega
    rw [e2, ← e1] at h2
    exact h2
  · obtain ⟨m, rfl⟩ : ∃ m : Nat, t = (m : Int) := ⟨t.toNat, by omega⟩
    have e1 : qtext (m : Int) = qmag m := by unfold qtext; rw [if_neg hneg]; simp
    rw [e1]
    exact appendTo_pos m (by omega) ao n xs w hF hlim htab

/-- ZZAppendTo hands on. -/
theorem zzAppendTo_any (t : Int) (h0 : -9223372036854775807 ≤ t) (h1 : t ≤ 9223372036854775807) (ao : Option Addr) (n : Nat) (xs : List UInt8) (w : World) (hF : Full w ao n (Lib.byteCells xs)) (hlim : n + 100 ≤ 140737488355328)
    (htab : Lib.TabIs Tryd.prog w powName .u64 Lib.pow10Tab) :
    Calls Tryd.prog 7 #[.int .i64 t, .slice ao n n] w fun e w' => ∃ v', e = .returned v' ∧ w'.ownsRow w.heap.size 5 1 v' (n + (qtext t).length) (Lib.byteCells (xs ++ qtext t)) ∧ Below w.heap.size w w' := by
  go_enter Tryd.func7, Tryd.ntmps7
  go_wp2_with (go_at_call 11; refine (appendTo_any t h0 h1 ao n xs _ hF hlim htab).mono ?_; rintro e w2 ⟨v2, rfl, hown2, hnx2⟩)
  go_ret
  exact ⟨v2, rfl, hown2, hnx2⟩

end Go.Proofs.Qxb6605414aDoor
