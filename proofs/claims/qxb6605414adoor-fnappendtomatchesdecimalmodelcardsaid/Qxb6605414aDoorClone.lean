/- Contracts of zzBytes_.. and zzCloneBytes. -/
import Derived.Test.Qxb6605414aDoorTail
import Derived.Test.Qxb6605414aDoorWalks
import Derived.Laws.CopyOwn
import Derived.Lib.LazyBuf
namespace Go.Proofs.Qxb6605414aDoor
open Go.ChangeShapes Go.WideShapes Go.ChangeAt Go.RowKit Go.Shelf
set_option linter.unusedVariables false

theorem bytes_small (t : Int) (ao : Option Addr) (len cap : Nat) (w : World) (h : len ≤ 1048576) :
    Calls Tryd.prog 5 #[.int .i64 t, .slice ao len cap] w fun e w' => e = .returned (.bool true) ∧ w = w' := by
  go_enter Tryd.func5, Tryd.ntmps5
  go_wp2
  go_ret
  exact ⟨rfl, rfl⟩

theorem bytes_large (t : Int) (ao : Option Addr) (len cap : Nat) (w : World) (h : 1048576 < len) (hs : len ≤ 9223372036854775807) :
    Calls Tryd.prog 5 #[.int .i64 t, .slice ao len cap] w fun e w' => e = .returned (.bool false) ∧ w = w' := by
  go_enter Tryd.func5, Tryd.ntmps5
  go_wp2
  go_ret
  exact ⟨rfl, rfl⟩

theorem clone_nil (w : World) : Calls Tryd.prog 6 #[.slice none 0 0] w fun e w' => e = .returned (.slice none 0 0) ∧ w = w' := by
  have heq := fun W => run_eql_slice_nil (P := Tryd.prog) W 22 5 none 0 0 Tryd.underlying22
  go_enter Tryd.func6, Tryd.ntmps6
  go_wp2
  go_ret
  exact ⟨rfl, rfl⟩

set_option maxHeartbeats 800000 in
theorem clone_some (ad : Addr) (len cap : Nat) (xs : List UInt8) (w : World) (hlen : xs.length = len) (hlim : len ≤ 1048576) (hcells : ∀ j u, (Lib.byteCells xs)[j]? = some u → w.cell? (ad.add j) = some u) :
    Calls Tryd.prog 6 #[.slice (some ad) len cap] w fun e w' => e = .returned (.slice (some ⟨w.heap.size, 0, none⟩) len len) ∧ From w' w.heap.size 0 xs ∧ Below w.heap.size w w' ∧ w.heap.size < w'.heap.size := by
  obtain ⟨i0, hi, hz0, hz1, hz2⟩ := info_parts infoByte
  have heq := fun W => run_eql_slice_nil (P := Tryd.prog) W 22 5 (some ad) len cap Tryd.underlying22
  have HL := Lib.hid hlen
  clear hlen
  have HC := Lib.hid hcells
  clear hcells
  go_enter Tryd.func6, Tryd.ntmps6
  go_wp2_with (at_make; refine wpList_make_full _ rfl _ _ 22 rfl w.heap.size 5 i0 (.int .u8 0) 1 Tryd.underlying22 hi hz0 hz1 _ _ _ _ len rfl rfl rfl rfl (by rw [hz2]; omega) (by unfold maxLen; omega) (Nat.le_refl _) ?_)
  intro w1 hown1 hgrow1
  refine Hid.out ?_
  have hnx1 : Below w.heap.size w w1 := (Below.refl _ _).grown hgrow1 (Nat.le_refl _) (fun k hk => by cases hk)
  rcases hown1.2 with ⟨h9, -⟩ | ⟨g, cap', cur, hv, -, hg, -, -, hcs, -⟩
  · cases h9
  cases hv
  have hlt : w.heap.size < w1.heap.size := (Array.getElem?_eq_some_iff.1 hg).1
  have hg' : w1.heap[w.heap.size]? = some (.cells cur.toList.toArray 5 (0, 0)) := by simpa using hg
  have hcl : cur.toList.length = len := by simpa using hcs
  have HCL := Lib.hid hcl
  have hsrc : ∀ j u, (Lib.byteCells xs)[j]? = some u → w1.cell? (ad.add j) = some u := by
    intro j u hj
    have h1 := HC.out j u hj
    rw [hnx1.cell (World.block_lt_of_cell? w _ h1)]
    exact h1
  have HSR := Lib.hid hsrc
  clear hsrc hown1 hgrow1 hcs hcl hg
  refine Lib.hid ?_
  go_wp2_with (refine wpList_copy_splice rfl _ _ 22 22 rfl 5 Tryd.underlying22 (by kernel_rfl) _ _ len len len cap rfl rfl w.heap.size 0 cur.toList 5 hg' (Lib.byteCells xs) (by rw [Lib.byteCells_length, HL.out]; simp) (fun _ => ⟨rfl, ad, rfl, HSR.out⟩) (by rw [Lib.byteCells_length, HL.out, HCL.out]; omega) (byteCells_one _) w.heap.size w hnx1 (Nat.le_refl _) ?_)
  intro w2 HG2 hnx2
  go_wp2
  go_ret
  refine ⟨rfl, ?_, hnx2, ?_⟩
  · have hs : splice cur.toList 0 (Lib.byteCells xs) = Lib.byteCells xs := by
      unfold splice
      rw [List.take_zero, List.nil_append, Nat.zero_add, List.drop_of_length_le (by rw [Lib.byteCells_length, HL.out, HCL.out]; exact Nat.le_refl _), List.append_nil]
    have h9 := HG2.out
    rw [hs] at h9
    intro j hj
    have e5 : (Lib.byteCells xs)[j]? = some (Value.int .u8 (xs[j].toNat : Int)) := by simp [Lib.byteCells, hj]
    rw [Nat.zero_add]
    simp [World.cell?, h9, e5]
  · exact (Array.getElem?_eq_some_iff.1 HG2.out).1
end Go.Proofs.Qxb6605414aDoor
