/- The proof of Rows.FnAppendToReadsBackThroughLeadingDigitsCardSaid: the row out of the walks, the card out of the row and the given tie. -/
import Derived.Test.Qxb6605414aDoorTie
import Derived.Test.Qxb6605414aDoorCards
import Derived.Test.Qxb6605414aDoorLaid
import Derived.Test.Qxb6605414aDoorReadsNeg
import Derived.Test.Qxb6605414aDoorReadsPos
namespace Go.Proofs.Qxb6605414aDoor.fnAppendToReadsBackThroughLeadingDigits
open Go.ChangeShapes Go.WideShapes Go.ChangeAt Go.RowKit
set_option linter.unusedVariables false

/-- The law's walk, at every number. -/
theorem walk (t : Int) (w0 : (Lit.int .i64 t).wf = true) (w : World) (htab : Lib.TabIs Tryd.prog w powName .u64 Lib.pow10Tab) :
    Calls Tryd.prog 4 #[.int .i64 t] w fun e w' => e = .returned (.bool true) ∧ Below w.heap.size w w' := by
  have hb := bounds_i64 w0
  by_cases hmin : t = -9223372036854775808
  · have e0 : (t == -9223372036854775808) = true := by rw [beq_iff_eq]; exact hmin
    clear hmin
    go_enter Tryd.func4, Tryd.ntmps4
    go_wp2
    go_ret
    exact ⟨rfl, Below.refl _ _⟩
  · by_cases hneg : t < 0
    · obtain ⟨m, rfl⟩ : ∃ m : Nat, t = -(m : Int) := ⟨t.natAbs, by omega⟩
      exact reads_neg m (by omega) (by omega) w htab
    · obtain ⟨m, rfl⟩ : ∃ m : Nat, t = (m : Int) := ⟨t.toNat, by omega⟩
      exact reads_pos m (by omega) w htab

set_option maxRecDepth 100000 in
theorem lifted (os : Os) (started : os.Started) (H : Type) (enc : TypeId × Value → H) :
    ReturnsInHanded {} Tryd.checked os 4 .any (fun w args => (Rows.fnAppendToReadsBackThroughLeadingDigitsSpec.pre enc Tryd.prog Tryd.f4 [] false w args ∧ laidMetH Tryd.prog laid3 w) ∧ sizedMet enc Tryd.prog Tryd.f4 (OpenSpec.ofChange Rows.fnAppendToReadsBackThroughLeadingDigitsSpec) false w args)
      (Rows.fnAppendToReadsBackThroughLeadingDigitsSpec.post enc Tryd.prog Tryd.f4 false true false false) := by
  refine returnsInHanded_of_change_and (C := Tryd.checked) (X := fun w _ => laidMetH Tryd.prog laid3 w) (fun _ _ _ hh h => h.of_heap hh) own started (by kernel_rfl) Tryd.func4
    (ChangeSpec.witness_shaped (enc := enc) (C := Tryd.checked) (os := os) (X := fun w _ => laidMetH Tryd.prog laid3 w) false (World.doorLaid Tryd.prog 24 os) #[.int .i64 0] 8 rfl (World.shaped_of_RefB (by kernel_rfl) (by kernel_rfl)) (by kernel_rfl) (by kernel_rfl) (by kernel_rfl) (door_met os _)) ?_
  intro W base args ds gs before hval0 hW _ _ hL _
  have hval : ∀ (j : Nat) t v, Tryd.f4.params[j]? = some t → args[j]? = some v → Value.okWide Tryd.prog W .any base t v := hval0
  have hW' := hW
  obtain ⟨p, q, hA0, hV, rfl, hfz, hnd⟩ := hW
  have hA : DataW.TrodAll enc Tryd.prog W 0 (fun _ => true) true Tryd.f4.params.toList args.toList ds p := hA0
  rw [Tryd.params4] at hA hval
  obtain ⟨v0, d0, rfl, rfl, h0⟩ := trodAll_one hA
  obtain ⟨rfl, rfl⟩ := trodVars_none hV
  obtain ⟨t, rfl, rfl, rfl, wt⟩ := open_int Tryd.underlying2 (hval 0 2 v0 rfl rfl) h0
  clear hA0 hval0
  simp only [List.append_nil] at hW'
  have e1 : Rows.fnAppendToReadsBackThroughLeadingDigitsSpec.fn H ([.lit (.int .i64 t)] ++ []) = { results := [.lit (.bool true)], args := [.lit (.int .i64 t)] } := by simp [Rows.fnAppendToReadsBackThroughLeadingDigitsSpec]
  refine (walk t wt W (tab_of_laid hL)).mono fun e W' ⟨he, hnx⟩ => ?_
  subst he
  refine ⟨_, rfl, _, _, _, [], [], [], hW', ?_, ?_, ?_, hnx.frame _, fun h => by cases h⟩
  · rw [e1]; exact trodAll_mk1 (shut_bool Tryd.underlying4 true)
  · rw [e1]; exact trodAll_mk1 (shut_int Tryd.underlying2 wt)
  · rw [e1]; rfl

theorem row_holds : Rows.FnAppendToReadsBackThroughLeadingDigitsSaid :=
  OpenClaim.holds_of_wide 4 Tryd.f4 rfl rfl rfl rfl rfl rfl rfl ⟨rfl, rfl, rfl, rfl, rfl⟩ rfl rfl rfl rfl rfl (by kernel_rfl) Tryd.func4 (by kernel_rfl)
    (of_decide_eq_true (by kernel_rfl)) (by unfold Func.isWrapper; first | (rw [if_pos (by decide +kernel)]; kernel_rfl) | (rw [if_neg (by decide +kernel)]; exact ⟨rfl, rfl⟩))
    (fun os started H enc _ => lifted os started H enc)
end Go.Proofs.Qxb6605414aDoor.fnAppendToReadsBackThroughLeadingDigits

namespace Go.Proofs.Qxb6605414aDoor
open Go
/-- The statement: the tied card. -/
theorem fnAppendToReadsBackThroughLeadingDigits_card : Rows.FnAppendToReadsBackThroughLeadingDigitsCardSaid :=
  Claim7.holds_tied_plain_at .later [] [.data, .data, .data] true Rows.fnAppendToReadsBackThroughLeadingDigitsCard.stood.harness false
    fnAppendToReadsBackThroughLeadingDigits.row_holds (fun _ h => by cases h) (by kernel_rfl) (fun _ h => by cases h) fnAppendToReadsBackThroughLeadingDigits_row_tie rfl ⟨rfl, rfl⟩ (by kernel_rfl) rfl
    (fun f fn hf hfn => by
      obtain rfl : f = 4 := Option.some.inj ((show Tryd.prog.funcNamed Rows.fnAppendToReadsBackThroughLeadingDigitsRow.func = some 4 by kernel_rfl).symm.trans hf) |>.symm
      obtain rfl : fn = Tryd.f4 := (Option.some.inj (Tryd.func4.symm.trans hfn)).symm
      exact ⟨by kernel_rfl, fun j t ht => by
        rw [Tryd.params4] at ht
        have hm : t ∈ [2] := by simpa using Array.mem_of_getElem? ht
        have hall : ([2].all fun u => !Tryd.prog.wantsStandIn u) = true := by kernel_rfl
        exact (show Tryd.prog.wantsStandIn t = false by simpa using List.all_eq_true.1 hall t hm)⟩)
    (by kernel_rfl)
end Go.Proofs.Qxb6605414aDoor
