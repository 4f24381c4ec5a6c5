/- The proof of Rows.FnWriteCentsSignSymmetrySaid: the frame is the guide's template for this function, the walk and the lemmas under it are typed by an AI agent. -/
import Derived.Test.Qxb6605424aRows
import Derived.WalkKit
import Derived.ProofKit
import Derived.OpenShut
import Derived.ShutString
import Derived.Test.Qxb6605424aCents
import Derived.WalkLawsBesides
namespace Go.Proofs.Qxb6605424a.fnWriteCentsSignSymmetry
open Go.ChangeShapes Go.WideShapes Go.ChangeAt Go.RowKit
open Go.ChangeMaps (open_string shut_string)
set_option linter.unusedVariables false      -- a walk need not use every 'w<i>' (that an integer argument fits its kind)

theorem own : ownKnob Try.prog.godebug = none := by kernel_rfl

theorem ret_lists {S : ByteArray} {l : List UInt8} (h : S.data.toList = l) : Ending.returned (.bool (S.toList == l)) = .returned (.bool true) := by
  rw [ByteArray.toList_eq, h]
  simp

theorem ret_cat {S T : ByteArray} (h : T.data.toList = 45 :: S.data.toList) : Ending.returned (.bool (T.toList == ((⟨#[45]⟩ : ByteArray) ++ S).toList)) = .returned (.bool true) := by
  rw [ByteArray.toList_eq, ByteArray.toList_eq, h]
  simp

theorem text_sign (a b : Int) (h : a < 0) (e : b = -a) : ctext a = 45 :: ctext b := by
  subst e
  unfold ctext
  rw [if_pos h, if_neg (by omega), Int.natAbs_neg]

theorem pos_facts (S : ByteArray) (c : Int) (h : 0 < c) (h1 : c ≤ 9223372036854775807) (hS : S.data.toList = ctext c) :
    4 ≤ S.size ∧ S.size ≤ 20 ∧ ∃ h0 : 0 < S.size, 48 ≤ (S[0].toNat : Int) ∧ (S[0].toNat : Int) ≤ 57 := by
  have e : ctext c = cmag c.natAbs := by unfold ctext; rw [if_neg (by omega)]
  rw [e] at hS
  have hl := cmag_len c.natAbs (by omega)
  have hs : S.size = (cmag c.natAbs).length := by rw [sz, hS]
  have hd : 0 < (Lib.decDigits (c.natAbs / 100)).length := List.length_pos_iff.2 (dec_ne _)
  refine ⟨by omega, by omega, by omega, ?_⟩
  have e0 : S[0]'(by omega) = (Lib.decDigits (c.natAbs / 100))[0] := (at_list S _ hS 0 (by omega) (by omega)).trans (List.getElem_append_left hd)
  rw [e0]
  have := dec_all _ _ (List.getElem_mem hd)
  unfold IsDig at this
  omega

theorem text_zero : ctext 0 = [48, 46, 48, 48] := by
  have e : Lib.decDigits 0 = [48] := by rw [dec_small (by omega)]; rfl
  show Lib.decDigits 0 ++ _ = _
  rw [e]
  rfl

theorem text_min : ctext (-9223372036854775808) = [45, 57, 50, 50, 51, 51, 55, 50, 48, 51, 54, 56, 53, 52, 55, 55, 53, 56, 46, 48, 56] := by
  have e : Lib.decDigits 92233720368547758 = [57, 50, 50, 51, 51, 55, 50, 48, 51, 54, 56, 53, 52, 55, 55, 53, 56] := by
    rw [Lib.decDigits_eq, Lib.nDigits_unique 16 92233720368547758 (by omega) (by omega)]
    decide +kernel
  show 45 :: (Lib.decDigits 92233720368547758 ++ _) = _
  rw [e]
  decide +kernel

/-! ### The walk -/
theorem walk (a0 : Int) (w0 : (Lit.int .i64 a0).wf = true) (w : World) :
    Calls Try.prog 4 #[.int .i64 a0] w fun e w' => e = .returned (.bool true) ∧ Below w.heap.size w w' := by
  obtain ⟨b0, b1⟩ := bounds_i64 w0
  by_cases hmin : a0 = -9223372036854775808
  · subst hmin
    go_enter Try.func4, Try.ntmps4
    go_wp2_with (go_at_call 7; refine (zzCents_any _ (by omega) (by omega) _).mono ?_; rintro e w1 ⟨S, HS, rfl, hb⟩)
    go_ret
    exact ⟨ret_lists (HS.out.trans text_min), hb⟩
  · by_cases hz : a0 = 0
    · subst hz
      go_enter Try.func4, Try.ntmps4
      go_wp2_with (go_at_call 7; refine (zzCents_any _ (by omega) (by omega) _).mono ?_; rintro e w1 ⟨S, HS, rfl, hb⟩)
      go_ret
      exact ⟨ret_lists (HS.out.trans text_zero), hb⟩
    · have e0 : (a0 == -9223372036854775808) = false := by rw [beq_eq_false_iff_ne]; exact hmin
      have e1 : (a0 == 0) = false := by rw [beq_eq_false_iff_ne]; exact hz
      have hlo : -9223372036854775807 ≤ a0 := by omega
      clear hmin hz
      by_cases hneg : a0 < 0
      · go_enter Try.func4, Try.ntmps4
        go_wp2_with (go_at_call 7; refine (zzCents_any (-a0) (by omega) (by omega) _).mono ?_; rintro e w1 ⟨S, HS, rfl, hb⟩; refine Hid.out ?_)
        refine Lib.hid ?_
        go_wp2_with (go_at_call 7; refine (zzCents_any a0 (by omega) (by omega) _).mono ?_; rintro e w2 ⟨T, HT, rfl, hb2⟩; refine Hid.out ?_)
        refine Lib.hid ?_
        obtain ⟨s4, s20, s0, s48, s57⟩ := pos_facts S (-a0) (by omega) (by omega) HS.out
        go_wp2
        go_ret
        exact ⟨ret_cat (by rw [HT.out, HS.out]; exact text_sign a0 (-a0) hneg (by omega)), hb.trans (hb2.mono (by have := hb.size; omega))⟩
      · go_enter Try.func4, Try.ntmps4
        go_wp2_with (go_at_call 7; refine (zzCents_any a0 (by omega) (by omega) _).mono ?_; rintro e w1 ⟨S, HS, rfl, hb⟩; refine Hid.out ?_)
        refine Lib.hid ?_
        go_wp2_with (go_at_call 7; refine (zzCents_any (-a0) (by omega) (by omega) _).mono ?_; rintro e w2 ⟨T, HT, rfl, hb2⟩; refine Hid.out ?_)
        refine Lib.hid ?_
        have hnz : a0 ≠ 0 := by simpa using e1
        obtain ⟨s4, s20, s0, s48, s57⟩ := pos_facts S a0 (by omega) (by omega) HS.out
        clear hnz
        go_wp2
        go_ret
        have hnz : a0 ≠ 0 := by simpa using e1
        exact ⟨ret_cat (by rw [HT.out, HS.out]; exact text_sign (-a0) a0 (by omega) (by omega)), hb.trans (hb2.mono (by have := hb.size; omega))⟩

/-! ### The row's step -/
set_option maxRecDepth 100000 in
theorem lifted (os : Os) (started : os.Started) (H : Type) (enc : TypeId × Value → H) :
    ReturnsInHanded {} Try.checked os 4 .any (Rows.fnWriteCentsSignSymmetrySpec.pre6 enc Try.prog Try.f4 Rows.fnWriteCentsSignSymmetryRow.domain false) (Rows.fnWriteCentsSignSymmetrySpec.post enc Try.prog Try.f4 false true false false) := by
  refine returnsInHanded_of_change (C := Try.checked) own started (by kernel_rfl) Try.func4
    (ChangeSpec.witness6 (enc := enc) (C := Try.checked) false ⟨#[], #[.int .i64 0], []⟩ 8 (by kernel_rfl) (by kernel_rfl) (by kernel_rfl) (by kernel_rfl)) ?_
  intro W base args ds gs before hval0 hW hcnd _
  have hval : ∀ (j : Nat) t v, Try.f4.params[j]? = some t → args[j]? = some v → Value.okWide Try.prog W .any base t v := hval0
  have hW' := hW
  obtain ⟨p, q, hA0, hV, rfl, hfz, hnd⟩ := hW
  have hA : DataW.TrodAll enc Try.prog W 0 (fun _ => true) true Try.f4.params.toList args.toList ds p := hA0
  rw [Try.params4] at hA hval
  obtain ⟨v0, vs0, d0, ds0, p0, q0, hargs, rfl, rfl, h0, r0⟩ := trodAll_cons hA
  obtain ⟨rfl, rfl, rfl⟩ := trodAll_nil r0
  obtain rfl : args = #[v0] := by cases args; simp_all
  obtain ⟨rfl, rfl⟩ := trodVars_none hV
  obtain ⟨a0, rfl, rfl, rfl, w0⟩ := open_int Try.underlying2 (hval 0 2 v0 rfl rfl) h0
  clear hA0 hval0
  simp only [List.append_nil] at hW'
  refine (walk a0 w0 W).mono fun e W' ⟨he, hg⟩ => ?_
  subst he
  exact ⟨_, rfl, _, _, _, [], [], [], hW', trodAll_mk1 (shut_bool Try.underlying4 true), trodAll_mk1 (shut_int Try.underlying2 w0), rfl, hg.frame _, fun h => by cases h⟩

theorem over : Rows.fnWriteCentsSignSymmetryRow.holds Try.pinned (OpenSpec.ofChange Rows.fnWriteCentsSignSymmetrySpec) :=
  OpenClaim.holds_of_wide 4 Try.f4 rfl rfl rfl rfl rfl rfl rfl ⟨rfl, rfl, rfl, rfl, rfl⟩ rfl rfl rfl rfl rfl (by kernel_rfl) Try.func4 (by kernel_rfl)
    (of_decide_eq_true (by kernel_rfl)) (by unfold Func.isWrapper; first | (rw [if_pos (by decide +kernel)]; kernel_rfl) | (rw [if_neg (by decide +kernel)]; exact ⟨rfl, rfl⟩))
    (fun os started H enc _ => lifted os started H enc)

end Go.Proofs.Qxb6605424a.fnWriteCentsSignSymmetry

namespace Go.Proofs.Qxb6605424a
/-- The statement. -/
theorem fnWriteCentsSignSymmetry_proved : Rows.FnWriteCentsSignSymmetrySaid := fnWriteCentsSignSymmetry.over
end Go.Proofs.Qxb6605424a
