/- strconv.AppendInt at base 10, at a number that is not negative, ONTO A SLICE THAT IS FULL (its capacity is its length; nil too), whosever it is: what comes back owns the old bytes and the numeral in a new row; nothing that was there has turned. The walks are the kit's own for a slice that the call owns (AppendUint10, AppendInt10, AppendIntPublic10), turned to the arm that grows. -/
import Derived.Shelf.Strconv.AppendIntPublic10
import Derived.ArgAppend
import Derived.Test.Qxb6605414aDoorRows
namespace Go.Proofs.Qxb6605414aDoor
open Go.Shelf Go.RowKit Go.Sort Go.Lib

/-- The table's name, as the row lists it. -/
abbrev powName : String := ((Rows.fnAppendToMatchesDecimalModelRow.laid[2]?).map (·.1)).getD ""

theorem ownsRow_base {w : World} {B B' : Nat} {e : TypeId} {s : Nat} {v : Value} {n : Nat} {xs : List Value} (h : w.ownsRow B e s v n xs) (hb : B' ≤ B) : w.ownsRow B' e s v n xs := by
  obtain ⟨h1, h2 | ⟨g, cap, cur, r1, r2, r3⟩⟩ := h
  · exact ⟨h1, .inl h2⟩
  · exact ⟨h1, .inr ⟨g, cap, cur, r1, Nat.le_trans hb r2, r3⟩⟩

/-- A slice of bytes that is full: its elements' cells. -/
structure Full (w : World) (ao : Option Addr) (n : Nat) (xs : List Value) : Prop where
  nil : ao = none → n = 0
  len : xs.length = n
  cells : ∀ b, ao = some b → ∀ j u, xs[j]? = some u → w.cell? (b.add j) = some u

theorem Full.later {w w' : World} {ao : Option Addr} {n : Nat} {xs : List Value} (h : Full w ao n xs) (hb : Below w.heap.size w w') : Full w' ao n xs :=
  ⟨h.nil, h.len, fun b hb' j u hj => by
    have hc := h.cells b hb' j u hj
    have hlt : (b.add j).block < w.heap.size := World.block_lt_of_cell? w _ hc
    rw [hb.cell hlt]; exact hc⟩

/-- 'append(b, s...)', b full, s a string that is not empty. -/
theorem run_append_full_string {P : Program} (w : World) (t u ty e : TypeId) (i : TypeInfo) (ht : P.underlying t = some (.slice e)) (hu : P.underlying u = some .string) (hi : P.info? e = some i) (hz : i.zero = some (.int .u8 0))
    (hsize : i.size = 1) (hby : i.bytes = 1) (ao : Option Addr) (n : Nat) (xs : List Value) (hF : Full w ao n xs) (s : ByteArray) (hpos : 0 < s.size)
    (hbytes : n + s.size ≤ 140737488355328) :
    ∃ v' w', (Builtin.append_ #[t, u] ty #[.slice ao n n, .string s]).run P w = .ok v' w' ∧ w'.ownsRow w.heap.size e 1 v' (n + s.size) (xs ++ strCells s) ∧ w.grownBy w' none := by
  cases ao with
  | none =>
    obtain rfl := hF.nil rfl
    obtain rfl : xs = [] := List.eq_nil_of_length_eq_zero hF.len
    obtain ⟨v', w', hrun, r1, r2, _⟩ := run_append_own_string (P := P) w w.heap.size t u ty e i ht hu hi hz hsize hby (.slice none 0 0) 0 [] (World.ownsRow_nil w _ e 1) s (by unfold maxLen; omega) hbytes (Nat.le_refl _)
    exact ⟨v', w', hrun, r1, r2⟩
  | some b =>
    have hlen : (xs ++ strCells s).length = (n + s.size) * 1 := by rw [List.length_append, hF.len, strCells_length, Nat.mul_one]
    have hr := run_append_grow_string (P := P) w t u ty e i (.int .u8 0) ht hu hi hz b n n xs (by rw [hsize, hF.len, Nat.mul_one]) (hF.cells b rfl) s (by omega) (by omega) (by rw [hby]; exact growslice_fits (by omega) (by omega))
    have hge := grownCap_ge w (n + s.size) n e
    have hcm : grownCap w (n + s.size) n e ≤ maxLen := grownCap_le_maxLen w (n + s.size) n e (by unfold maxLen; omega)
    refine ⟨_, _, hr, ⟨hlen, .inr ⟨w.heap.size, _, _, rfl, Nat.le_refl _, heap_alloc_new w.drew _, hge, hcm, ?_, ?_⟩⟩, ⟨rfl, rfl, rfl, by simp, fun k hk _ => heap_alloc_old w.drew _ (by exact hk)⟩⟩
    · have hz1 : (Value.int IntKind.u8 0).cells.size = 1 := rfl
      simp only [Array.size_append, List.size_toArray, size_zeroCells, hz1, hF.len, strCells_length]
      omega
    · simp only [Array.toList_append, List.append_assoc]
      rw [← List.append_assoc, ← hlen]
      exact List.take_left

theorem wpList_append_full_string {P : Program} (w : World) {ops : Array Oper} {rest : List Oper} {o : Oper} {a : Act} {Q : Exit → Act → World → Prop} (hgd : o.guard = none) (sl x : Operand) (t u : TypeId)
    (ho : o.op = .call { callee := .builtin .append, args := #[sl, x], argTypes := #[t, u] })
    (e : TypeId) (i : TypeInfo) (ht : P.underlying t = some (.slice e)) (hu : P.underlying u = some .string) (hi : P.info? e = some i) (hz : i.zero = some (.int .u8 0))
    (hsize : i.size = 1) (hby : i.bytes = 1)
    (ao : Option Addr) (n : Nat) (xs : List Value) (hs : a.eval sl = .slice ao n n) (hF : Full w ao n xs) (s : ByteArray) (hx : a.eval x = .string s) (hpos : 0 < s.size)
    (hbytes : n + s.size ≤ 140737488355328)
    (h : ∀ v' w', w'.ownsRow w.heap.size e 1 v' (n + s.size) (xs ++ strCells s) → w.grownBy w' none → wpList P ops Q rest (a.put o.dst v') w') : wpList P ops Q (o :: rest) a w := by
  refine wpList_plain hgd fun K hK => ?_
  obtain ⟨v', w', hrun, r1, r2⟩ := run_append_full_string (P := P) w t u o.type e i ht hu hi hz hsize hby ao n xs hF s hpos hbytes
  unfold Oper.wp
  simp [execOp, ho, resolve, invoke, builtin, hs, hx, hrun, Result.andThen]
  exact hK _ _ (h v' w' r1 r2)

variable {P : Program} {ρ : Ren}

set_option maxHeartbeats 6400000 in
set_option maxRecDepth 100000 in
/-- internal/strconv.AppendUint(dst, i, 10), i below 100, dst full. -/
theorem appendUint_full_small (L : LaysM.n288 P ρ) (n u : Nat) (hu : u < 100) (ao : Option Addr) (xs : List Value) (w : World) (hF : Full w ao n xs) (hlim : n + 20 ≤ 140737488355328) :
    Calls P (ρ.f 288) #[.slice ao n n, .int .u64 u, .int .i64 10] w fun e w' => ∃ v', e = .returned v' ∧ w'.ownsRow w.heap.size (ρ.t 5) 1 v' (n + (Lib.decDigits u).length) (xs ++ Lib.byteCells (Lib.decDigits u)) ∧ Below w.heap.size w w' := by
  have mixed := L.mixed
  have t5 := L.t5; have a5 := L.a5; have z5 := L.z5; have v5 := L.v5
  have t37 := L.t37; have u37 := run_underlying L.t37; have a37 := L.a37; have z37 := L.z37; have v37 := L.v37
  have t53 := L.t53; have a53 := L.a53; have z53 := L.z53; have v53 := L.v53
  have t3 := L.t3; have a3 := L.a3; have z3 := L.z3; have v3 := L.v3
  have t4 := L.t4; have a4 := L.a4; have z4 := L.z4; have v4 := L.v4
  have t9 := L.t9; have a9 := L.a9; have z9 := L.z9; have v9 := L.v9
  have t171 := L.t171; have a171 := L.a171; have z171 := L.z171; have v171 := L.v171
  have t0 := L.t0; have a0 := L.a0; have z0 := L.z0; have v0 := L.v0
  have t173 := L.t173; have a173 := L.a173; have z173 := L.z173; have v173 := L.v173
  have e283 : ∀ args w, (callFunc (ρ.f 283) args).run P w = .ok (.enter (ρ.f 283) args) w := enters_of L.f283 (by kernel_rfl) rfl
  obtain ⟨i0, hi, hz0, hz1, hz2⟩ := info_parts L.i5
  have hlen : 1 ≤ (Lib.decDigits u).length ∧ (Lib.decDigits u).length ≤ 20 := by
    rw [Lib.decDigits_length]
    refine ⟨Lib.nDigits_pos u, ?_⟩
    by_cases h10 : u < 10
    · rw [Lib.nDigits_small h10]; omega
    · rw [Lib.nDigits_big h10, Lib.nDigits_small (show u / 10 < 10 by omega)]; omega
  have hsz : (⟨(Lib.decDigits u).toArray⟩ : ByteArray).size = (Lib.decDigits u).length := by simp [ByteArray.size]
  go_enter L.f288, Body.n288_ntmps ρ
  go_wp2_with (first
    | (go_at_fn (ρ.f 283); refine (Any.internal_strconv_small { L with } u hu _).mono ?_; rintro e w' ⟨rfl, rfl⟩)
    | (at_builtin; refine wpList_append_full_string _ rfl _ _ (ρ.t 37) (ρ.t 9) rfl (ρ.t 5) i0 L.t37 L.t9 hi hz0 hz1 hz2 ao n xs rfl hF ⟨(Lib.decDigits u).toArray⟩ rfl (by rw [hsz]; omega) (by rw [hsz]; omega) ?_))
  intro v' w1 hown' hgrow
  go_wp2
  go_ret
  refine ⟨v', rfl, ?_, (Below.refl _ _).grown hgrow (Nat.le_refl _) (fun k hk => by cases hk)⟩
  first | exact hown' | (rw [hsz] at hown'; exact hown')

set_option maxHeartbeats 12800000 in
set_option maxRecDepth 100000 in
/-- internal/strconv.AppendUint(dst, i, 10), i from 100 on, dst full. -/
theorem appendUint_full_big (L : LaysM.n288 P ρ) (n u : Nat) (hu : 100 ≤ u) (hu64 : u < 18446744073709551616) (ao : Option Addr) (xs : List Value) (w : World) (hF : Full w ao n xs) (hlim : n + 20 ≤ 140737488355328)
    (htab : Lib.TabIs P w powName .u64 Lib.pow10Tab) :
    Calls P (ρ.f 288) #[.slice ao n n, .int .u64 u, .int .i64 10] w fun e w' => ∃ v', e = .returned v' ∧ w'.ownsRow w.heap.size (ρ.t 5) 1 v' (n + (Lib.decDigits u).length) (xs ++ Lib.byteCells (Lib.decDigits u)) ∧ Below w.heap.size w w' := by
  have mixed := L.mixed
  have t5 := L.t5; have a5 := L.a5; have z5 := L.z5; have v5 := L.v5
  have t37 := L.t37; have u37 := run_underlying L.t37; have a37 := L.a37; have z37 := L.z37; have v37 := L.v37
  have t53 := L.t53; have a53 := L.a53; have z53 := L.z53; have v53 := L.v53
  have t3 := L.t3; have a3 := L.a3; have z3 := L.z3; have v3 := L.v3
  have t4 := L.t4; have a4 := L.a4; have z4 := L.z4; have v4 := L.v4
  have t9 := L.t9; have a9 := L.a9; have z9 := L.z9; have v9 := L.v9
  have t171 := L.t171; have a171 := L.a171; have z171 := L.z171; have v171 := L.v171
  have t0 := L.t0; have a0 := L.a0; have z0 := L.z0; have v0 := L.v0
  have t173 := L.t173; have a173 := L.a173; have z173 := L.z173; have v173 := L.v173
  have e284 : ∀ args w, (callFunc (ρ.f 284) args).run P w = .ok (.enter (ρ.f 284) args) w := enters_of L.f284 (by kernel_rfl) rfl
  have e285 : ∀ args w, (callFunc (ρ.f 285) args).run P w = .ok (.enter (ρ.f 285) args) w := enters_of L.f285 (by kernel_rfl) rfl
  obtain ⟨i0, hi, hz0, hz1, hz2⟩ := info_parts L.i5
  have hu1 : 1 ≤ u := by omega
  have hnd20 : Lib.nDigits u ≤ 20 := by have := Lib.numDigits_eq u hu1 hu64; split at this <;> omega
  have hndp := Lib.nDigits_pos u
  have hal : P.arrayLen (ρ.t 171) = 24 := by simp [Program.arrayLen, L.t171]
  have hsl : ∀ W, (Instr.sliceAt (ρ.t 171) (.pointer (some ⟨w.heap.size, 0, none⟩)) none (some (.int .i64 (Lib.nDigits u : Int))) none).run P W = .ok (.slice (some ⟨w.heap.size, 0, none⟩) (Lib.nDigits u) 24) W := fun W => by
    rw [run_sliceAt_array_h W (ρ.t 171) ⟨w.heap.size, 0, none⟩ (by simp [Program.arrayLen, Program.elem, L.t171]) .i64 (Lib.nDigits u : Int) (by omega) (by rw [hal]; omega)]
    go_simp
  have hH0 := Lib.holds_zero0 w (ρ.t 171) (Lib.nDigits u) (by omega)
  have hfmt := Any.internal_strconv_formatBase10 { L with } w.heap.size 0 24 u (Array.replicate (Lib.nDigits u) 0) (w.alloc (.cells Lib.zeros24 (ρ.t 171))) hH0 (by rw [Array.size_replicate]; exact Lib.lt_pow_nDigits u) hu64 (by rw [Array.size_replicate]; omega)
  rw [Array.size_replicate] at hfmt
  have HH0 := Lib.hid hH0
  have iu : (100 : Int) ≤ (u : Int) := by omega
  clear hH0 hal
  go_enter L.f288, Body.n288_ntmps ρ
  go_wp2_with (first
    | (go_at_fn (ρ.f 284); refine (Any.internal_strconv_numDigits { L with } u hu1 hu64 _ (Lib.tabIs_alloc htab _)).mono ?_; rintro e w' ⟨rfl, rfl⟩))
  go_at_fn (ρ.f 285)
  refine hfmt.mono ?_
  rintro e w' ⟨rfl, k, v', dk, rfl, hFm⟩
  have hcells : ∀ j u', (Lib.byteCells (Lib.decDigits u))[j]? = some u' → ((putRow (fun (b : UInt8) => Value.int .u8 (b.toNat : Int)) (w.alloc (.cells Lib.zeros24 (ρ.t 171))) w.heap.size 0 dk).drewN k).cell? ((⟨w.heap.size, 0, none⟩ : Addr).add j) = some u' := by
    intro j u' hj
    have hjl : j < (Lib.decDigits u).length := by
      have h5 := (List.getElem?_eq_some_iff.1 hj).1
      rwa [Lib.byteCells_length] at h5
    have e5 : (Lib.byteCells (Lib.decDigits u))[j]? = some (Value.int .u8 ((Lib.decDigits u)[j].toNat : Int)) := by simp [Lib.byteCells, hjl]
    rw [e5] at hj
    cases hj
    rw [Lib.row_is_numeral hFm j hjl, Lib.add_plain, World.cell?_drewN]
    exact cell?_putRow (fun (b : UInt8) => Value.int .u8 (b.toNat : Int)) _ w.heap.size 0 _ dk HH0.out (by rw [hFm.size, Array.size_replicate]) j (by rw [hFm.size]; rw [Lib.decDigits_length] at hjl; exact hjl)
  obtain ⟨os, eo⟩ := Lib.fin_at w (.cells Lib.zeros24 (ρ.t 171)) dk k 0
  have hnx2 : Below w.heap.size w ((putRow (fun (b : UInt8) => Value.int .u8 (b.toNat : Int)) (w.alloc (.cells Lib.zeros24 (ρ.t 171))) w.heap.size 0 dk).drewN k) := by rw [eo]; exact Lib.below_grow _ w (Nat.le_refl _) k os
  have hsz2 : w.heap.size ≤ ((putRow (fun (b : UInt8) => Value.int .u8 (b.toNat : Int)) (w.alloc (.cells Lib.zeros24 (ρ.t 171))) w.heap.size 0 dk).drewN k).heap.size := by rw [eo]; exact Lib.size_grow w k os
  generalize (putRow (fun (b : UInt8) => Value.int .u8 (b.toNat : Int)) (w.alloc (.cells Lib.zeros24 (ρ.t 171))) w.heap.size 0 dk).drewN k = W2 at hcells hnx2 hsz2 ⊢
  clear eo HH0 hfmt
  have hF2 := hF.later hnx2
  go_wp2_with (at_builtin; refine wpList_append_grows _ rfl _ _ (ρ.t 37) rfl (ρ.t 5) i0 (.int .u8 0) 1 1 L.t37 hi hz0 hz1 hz2 rfl (by decide) ao n n xs rfl ?d1 ?d2 ?d3 ⟨w.heap.size, 0, none⟩ (Lib.nDigits u) 24 (Lib.byteCells (Lib.decDigits u)) rfl ?c0 hcells ?c2 ?cf ?c3 ?c4 ?_)
  case d1 => exact fun h => ⟨hF2.nil h, hF2.nil h⟩
  case d2 => rw [hF2.len, Nat.mul_one]
  case d3 => exact hF2.cells
  case c0 => rw [Lib.byteCells_length, Lib.decDigits_length, Nat.mul_one]
  case c2 => intro u' hu'; simp only [Lib.byteCells, List.mem_map] at hu'; obtain ⟨b, _, rfl⟩ := hu'; rfl
  case cf => omega
  case c3 => unfold maxLen; omega
  case c4 => omega
  intro v2 w3 hown' hgrow
  go_wp2
  go_ret
  refine ⟨v2, rfl, ?_, hnx2.grown hgrow hsz2 (fun k hk => by cases hk)⟩
  rw [Lib.decDigits_length]
  exact ownsRow_base hown' hsz2

theorem appendUint_full (L : LaysM.n288 P ρ) (n u : Nat) (hu64 : u < 18446744073709551616) (ao : Option Addr) (xs : List Value) (w : World) (hF : Full w ao n xs) (hlim : n + 20 ≤ 140737488355328)
    (htab : Lib.TabIs P w powName .u64 Lib.pow10Tab) :
    Calls P (ρ.f 288) #[.slice ao n n, .int .u64 u, .int .i64 10] w fun e w' => ∃ v', e = .returned v' ∧ w'.ownsRow w.heap.size (ρ.t 5) 1 v' (n + (Lib.decDigits u).length) (xs ++ Lib.byteCells (Lib.decDigits u)) ∧ Below w.heap.size w w' := by
  by_cases h : u < 100
  · exact appendUint_full_small L n u h ao xs w hF hlim
  · exact appendUint_full_big L n u (by omega) hu64 ao xs w hF hlim htab

set_option maxHeartbeats 6400000 in
set_option maxRecDepth 100000 in
theorem appendInt_full_inner (L : LaysM.n249 P ρ) (n u : Nat) (h1 : u ≤ 9223372036854775807) (ao : Option Addr) (xs : List Value) (w : World) (hF : Full w ao n xs) (hlim : n + 20 ≤ 140737488355328)
    (htab : Lib.TabIs P w powName .u64 Lib.pow10Tab) :
    Calls P (ρ.f 249) #[.slice ao n n, .int .i64 u, .int .i64 10] w fun e w' => ∃ v', e = .returned v' ∧ w'.ownsRow w.heap.size (ρ.t 5) 1 v' (n + (Lib.decDigits u).length) (xs ++ Lib.byteCells (Lib.decDigits u)) ∧ Below w.heap.size w w' := by
  have mixed := L.mixed
  have t5 := L.t5; have a5 := L.a5; have z5 := L.z5; have v5 := L.v5
  have t37 := L.t37; have u37 := run_underlying L.t37; have a37 := L.a37; have z37 := L.z37; have v37 := L.v37
  have t2 := L.t2; have a2 := L.a2; have z2 := L.z2; have v2 := L.v2
  have t3 := L.t3; have a3 := L.a3; have z3 := L.z3; have v3 := L.v3
  have t53 := L.t53; have a53 := L.a53; have z53 := L.z53; have v53 := L.v53
  have t4 := L.t4; have a4 := L.a4; have z4 := L.z4; have v4 := L.v4
  have e288 : ∀ args w, (callFunc (ρ.f 288) args).run P w = .ok (.enter (ρ.f 288) args) w := enters_of L.f288 (by kernel_rfl) rfl
  have hu64 : u < 18446744073709551616 := by omega
  go_enter L.f249, Body.n249_ntmps ρ
  go_wp2_with (go_at_fn (ρ.f 288); refine (appendUint_full { L with } n u hu64 ao xs w hF hlim htab).mono ?_; rintro e w2 ⟨v2, rfl, hown2, hnx2⟩)
  go_wp2
  first | go_ret | go_ret2
  exact ⟨v2, rfl, hown2, hnx2⟩

set_option maxRecDepth 100000 in
theorem appendInt_full (L : LaysM.n176 P ρ) (n u : Nat) (h1 : u ≤ 9223372036854775807) (ao : Option Addr) (xs : List Value) (w : World) (hF : Full w ao n xs) (hlim : n + 20 ≤ 140737488355328)
    (htab : Lib.TabIs P w powName .u64 Lib.pow10Tab) :
    Calls P (ρ.f 176) #[.slice ao n n, .int .i64 u, .int .i64 10] w fun e w' => ∃ v', e = .returned v' ∧ w'.ownsRow w.heap.size (ρ.t 5) 1 v' (n + (Lib.decDigits u).length) (xs ++ Lib.byteCells (Lib.decDigits u)) ∧ Below w.heap.size w w' := by
  have mixed := L.mixed
  have t5 := L.t5; have a5 := L.a5; have z5 := L.z5; have v5 := L.v5
  have t37 := L.t37; have u37 := run_underlying L.t37; have a37 := L.a37; have z37 := L.z37; have v37 := L.v37
  have t2 := L.t2; have a2 := L.a2; have z2 := L.z2; have v2 := L.v2
  have t3 := L.t3; have a3 := L.a3; have z3 := L.z3; have v3 := L.v3
  have e249 : ∀ args w, (callFunc (ρ.f 249) args).run P w = .ok (.enter (ρ.f 249) args) w := enters_of L.f249 (by kernel_rfl) rfl
  go_enter L.f176, Body.n176_ntmps ρ
  go_wp2_with (go_at_fn (ρ.f 249); refine (appendInt_full_inner { L with } n u h1 ao xs w hF hlim htab).mono ?_; rintro e w2 ⟨v2, rfl, hown2, hnx2⟩)
  go_wp2
  go_ret
  exact ⟨v2, rfl, hown2, hnx2⟩

end Go.Proofs.Qxb6605414aDoor
