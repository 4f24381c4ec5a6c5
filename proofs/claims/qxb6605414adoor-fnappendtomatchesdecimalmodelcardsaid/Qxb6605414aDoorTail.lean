/- Arrays of bytes that a call makes and fills: from the end ('Tail'), from the head ('Head'). Of no program. -/
import Derived.WalkKit
import Derived.Lib.AppendIntMem
namespace Go.Proofs.Qxb6605414aDoor
open Go.RowKit

/-- Block b holds n cells that may be written. -/
structure Rowy (w : World) (b n : Nat) : Prop where
  any : ∀ j, j < n → ∃ v, w.cell? ⟨b, j, none⟩ = some v
  free : ∀ j, j < n → w.frozen? ⟨b, j, none⟩ = false

theorem Rowy.new (w : World) (cs : Array Value) (t : TypeId) (n : Nat) (h : cs.size = n) : Rowy (w.alloc (.cells cs t)) w.heap.size n := by
  refine ⟨fun j hj => ⟨cs[j]'(by omega), ?_⟩, fun j hj => World.frozen?_alloc_new _ _ _ _⟩
  rw [World.cell?_alloc_new]
  simp [h, hj]

theorem Rowy.set {w : World} {b n : Nat} (h : Rowy w b n) (a : Addr) (v : Value) : Rowy (w.setCell a v) b n :=
  ⟨fun j hj => by obtain ⟨u, hu⟩ := h.any j hj; exact cell?_setCell_some hu, fun j hj => by rw [World.frozen?_setCell]; exact h.free j hj⟩

theorem Rowy.below {w w' : World} {b n B : Nat} (h : Rowy w b n) (hb : Below B w w') (hlt : b < B) : Rowy w' b n :=
  ⟨fun j hj => by obtain ⟨u, hu⟩ := h.any j hj; exact ⟨u, (hb.cell (p := ⟨b, j, none⟩) hlt).trans hu⟩, fun j hj => (hb.frozen (p := ⟨b, j, none⟩) hlt).trans (h.free j hj)⟩

/-- From cell k on block b holds the bytes l. -/
def From (w : World) (b k : Nat) (l : List UInt8) : Prop := ∀ j (hj : j < l.length), w.cell? ⟨b, k + j, none⟩ = some (.int .u8 (l[j].toNat : Int))

theorem From.nil (w : World) (b k : Nat) : From w b k [] := fun _ hj => absurd hj (by simp)

theorem addr_ne {b b' o o' : Nat} (h : b ≠ b' ∨ o ≠ o') : (⟨b, o, none⟩ : Addr) ≠ ⟨b', o', none⟩ := by
  intro e
  have h1 := congrArg Addr.block e
  have h2 := congrArg Addr.off e
  simp at h1 h2
  omega

theorem From.cons {w : World} {b k n : Nat} {l : List UInt8} (h : From w b (k + 1) l) (hr : Rowy w b n) (hk : k < n) (c : UInt8) (z : Int) (hz : z = (c.toNat : Int)) : From (w.setCell ⟨b, k, none⟩ (.int .u8 z)) b k (c :: l) := by
  subst hz
  intro j hj
  cases j with
  | zero =>
    obtain ⟨u, hu⟩ := hr.any k hk
    exact World.cell?_setCell_same _ _ _ hu
  | succ j =>
    rw [World.cell?_setCell_other _ _ _ _ (addr_ne (.inr (by omega)))]
    have := h j (by simpa using hj)
    rw [show k + (j + 1) = k + 1 + j by omega]
    simpa using this

theorem From.snoc {w : World} {b k n : Nat} {l : List UInt8} (h : From w b k l) (hr : Rowy w b n) (hk : k + l.length < n) (c : UInt8) (z : Int) (hz : z = (c.toNat : Int)) : From (w.setCell ⟨b, k + l.length, none⟩ (.int .u8 z)) b k (l ++ [c]) := by
  subst hz
  intro j hj
  by_cases e : j = l.length
  · subst e
    obtain ⟨u, hu⟩ := hr.any _ hk
    rw [World.cell?_setCell_same _ _ _ hu]
    simp
  · have hj' : j < l.length := by simp at hj; omega
    rw [World.cell?_setCell_other _ _ _ _ (addr_ne (.inr (by omega))), h j hj', List.getElem_append_left hj']

theorem From.other {w : World} {b k : Nat} {l : List UInt8} (h : From w b k l) {b' o : Nat} (hne : b ≠ b') (v : Value) : From (w.setCell ⟨b', o, none⟩ v) b k l := fun j hj => by
  rw [World.cell?_setCell_other _ _ _ _ (addr_ne (.inl (Ne.symm hne)))]
  exact h j hj

theorem From.below {w w' : World} {b k B : Nat} {l : List UInt8} (h : From w b k l) (hb : Below B w w') (hlt : b < B) : From w' b k l := fun j hj =>
  (hb.cell (p := ⟨b, k + j, none⟩) hlt).trans (h j hj)

/-- As a law on append asks it. -/
theorem From.news {w : World} {b k : Nat} {l : List UInt8} (h : From w b k l) : ∀ j u, (Lib.byteCells l)[j]? = some u → w.cell? ((⟨b, k, none⟩ : Addr).add j) = some u := by
  intro j u hj
  have hjl : j < l.length := by
    have h5 := (List.getElem?_eq_some_iff.1 hj).1
    rwa [Lib.byteCells_length] at h5
  have e5 : (Lib.byteCells l)[j]? = some (Value.int .u8 (l[j].toNat : Int)) := by simp [Lib.byteCells, hjl]
  rw [e5] at hj
  cases hj
  rw [Addr.add_lit]
  exact h j hjl

theorem From.take {w : World} {b k : Nat} {l : List UInt8} (h : From w b k l) (n : Nat) : From w b k (l.take n) := fun j hj => by
  have hj' : j < l.length := by rw [List.length_take] at hj; omega
  rw [h j hj']
  simp

theorem From.drop {w : World} {b k : Nat} {l : List UInt8} (h : From w b k l) (n : Nat) (hn : n ≤ l.length) : From w b (k + n) (l.drop n) := fun j hj => by
  have hj' : n + j < l.length := by rw [List.length_drop] at hj; omega
  rw [show k + n + j = k + (n + j) by omega, h (n + j) hj']
  simp

theorem byteCells_one (l : List UInt8) : ∀ u ∈ Lib.byteCells l, u.oneCell' = true := by
  intro u hu
  simp only [Lib.byteCells, List.mem_map] at hu
  obtain ⟨b, _, rfl⟩ := hu
  rfl
end Go.Proofs.Qxb6605414aDoor
