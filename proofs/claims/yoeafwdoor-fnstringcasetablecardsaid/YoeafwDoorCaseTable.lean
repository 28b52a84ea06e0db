/-
  'FnStringCaseTable': the row's step out of the walk, the row, and the tied card.
-/
import Derived.Test.YoeafwDoorCaseTableWalk
import Derived.Test.YoeafwDoorTie
import Derived.Test.YoeafwDoorCards
import Derived.SevenTiedAt
namespace Go.Proofs.YoeafwDoor.fnStringCaseTable
open Go Go.ChangeShapes Go.WideShapes Go.ChangeAt Go.RowKit

set_option maxRecDepth 100000 in
theorem lifted (os : Os) (started : os.Started) (H : Type) (enc : TypeId × Value → H) :
    ReturnsInHanded {} Eafg.checked os 3 .any (fun w args => (Rows.fnStringCaseTableSpec.pre enc Eafg.prog Eafg.f3 [] false w args ∧ laidMetH Eafg.prog laid4 w) ∧ sizedMet enc Eafg.prog Eafg.f3 (OpenSpec.ofChange Rows.fnStringCaseTableSpec) false w args)
      (Rows.fnStringCaseTableSpec.post enc Eafg.prog Eafg.f3 false true false false) := by
  refine returnsInHanded_of_change_and (C := Eafg.checked) (X := fun w _ => laidMetH Eafg.prog laid4 w) (fun _ _ _ hh h => h.of_heap hh) own started (by kernel_rfl) Eafg.func3
    (ChangeSpec.witness_shaped (enc := enc) (C := Eafg.checked) (os := os) (X := fun w _ => laidMetH Eafg.prog laid4 w) false (World.doorLaid Eafg.prog 400 os) #[.int .i64 0] 8 rfl (World.shaped_of_RefB (by kernel_rfl) (by kernel_rfl)) (by kernel_rfl) (by kernel_rfl) (by kernel_rfl) (door_met os _)) ?_
  intro W base args ds gs before hval0 hW _ _ hL _
  have hval : ∀ (j : Nat) t v, Eafg.f3.params[j]? = some t → args[j]? = some v → Value.okWide Eafg.prog W .any base t v := hval0
  have hW' := hW
  obtain ⟨p, q, hA0, hV, rfl, hfz, hnd⟩ := hW
  have hA : DataW.TrodAll enc Eafg.prog W 0 (fun _ => true) true Eafg.f3.params.toList args.toList ds p := hA0
  rw [Eafg.params3] at hA hval
  obtain ⟨v0, d0, rfl, rfl, h0⟩ := trodAll_one hA
  obtain ⟨a0, rfl, rfl, rfl, w0⟩ := open_int Eafg.underlying3 (hval 0 3 v0 rfl rfl) h0
  obtain ⟨b0, b1⟩ := bounds_i64 w0
  clear hA0 hval0
  obtain ⟨g, rfl⟩ : ∃ g, gs = [g] := by
    obtain ⟨_, _, _, _, d, _, e, _⟩ := trodVars_one hV
    exact ⟨d, e⟩
  refine (walk a0 W b0 b1 (of_laid hL)).mono fun e W' ⟨he, hb⟩ => ?_
  subst he
  exact ⟨_, rfl, _, _, _, [], [], q, hW', trodAll_mk1 (shut_bool Eafg.underlying4 true), trodAll_mk1 (shut_int Eafg.underlying3 w0), Below.trodVars laidOut hb (by kernel_rfl) hV, hb.frame _, fun h => by cases h⟩

theorem over : Rows.FnStringCaseTableSaid :=
  OpenClaim.holds_of_wide 3 Eafg.f3 rfl rfl rfl rfl rfl rfl rfl ⟨rfl, rfl, rfl, rfl, rfl⟩ rfl rfl rfl rfl rfl (by kernel_rfl) Eafg.func3 (by kernel_rfl)
    (of_decide_eq_true (by kernel_rfl)) (by unfold Func.isWrapper; first | (rw [if_pos (by decide +kernel)]; kernel_rfl) | (rw [if_neg (by decide +kernel)]; exact ⟨rfl, rfl⟩))
    (fun os started H enc _ => lifted os started H enc)

/-- THE TIED CARD. -/
theorem proved : Rows.FnStringCaseTableCardSaid :=
  Claim7.holds_tied_plain_at .later [] [.data, .data, .data, .data] true Rows.fnStringCaseTableCard.stood.harness false
    over (fun _ h => by cases h) (by kernel_rfl) (fun _ h => by cases h) fnStringCaseTable_row_tie rfl ⟨rfl, rfl⟩ (by kernel_rfl) rfl
    (fun f fn hf hfn => by
      obtain rfl : f = 3 := Option.some.inj ((show Eafg.prog.funcNamed Eafg.f3.name = some 3 by kernel_rfl).symm.trans hf) |>.symm
      obtain rfl : fn = Eafg.f3 := (Option.some.inj (Eafg.func3.symm.trans hfn)).symm
      exact ⟨by kernel_rfl, fun j t ht => by
        rw [Eafg.params3] at ht
        have h3 : t = 3 := by
          simpa using Array.mem_of_getElem? ht
        subst h3
        exact (show Eafg.prog.wantsStandIn 3 = false by kernel_rfl)⟩)
    (by kernel_rfl)
end Go.Proofs.YoeafwDoor.fnStringCaseTable
