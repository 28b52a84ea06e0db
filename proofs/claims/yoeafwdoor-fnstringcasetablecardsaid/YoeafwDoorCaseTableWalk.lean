/-
  'FnStringCaseTable': the walk.
-/
import Derived.Test.YoeafwDoorNames
import Derived.Test.YoeafwDoorItoa
namespace Go.Proofs.YoeafwDoor.fnStringCaseTable
open Go.ChangeShapes Go.WideShapes Go.ChangeAt Go.RowKit

/-- A token that has a name. -/
theorem walk_named (a : Int) (w : World) (a0 : -9223372036854775808 ≤ a) (a1 : a ≤ 9223372036854775807) (hL : Laid w) (hn : named a = true) :
    Calls Eafg.prog 3 #[.int .i64 a] w fun e w' => e = .returned (.bool true) ∧ Below w.heap.size w w' := by
  have HT : Hid (∀ w1 : World, Calls Eafg.prog 8 #[.int .i64 a] w1 fun e w' => e = .returned (.tuple #[.string (strOf a), .bool true]) ∧ w' = w1) := by
    have e : strOf a = ⟨(names.getD a.toNat []).toArray⟩ := by unfold strOf; rw [if_pos hn]
    rw [e]
    exact fun w1 => tokenName_named a hn w1
  have H : Hid (Laid w) := hL
  clear hL hn
  go_enter Eafg.func3, Eafg.ntmps3
  go_wp2_with fail
  refine (HT.out _).mono ?_
  rintro e w1 ⟨rfl, rfl⟩
  go_wp2_with fail
  refine (string_any a _ a0 a1 H.out).mono ?_
  rintro e w2 ⟨rfl, hb⟩
  have HB : Hid (Below w1.heap.size w1 w2) := hb
  clear hb
  go_wp2
  go_ret
  exact ⟨by simp, HB.out⟩

/-- A number that has none. -/
theorem walk_none (a : Int) (w : World) (a0 : -9223372036854775808 ≤ a) (a1 : a ≤ 9223372036854775807) (hL : Laid w) (hn : ¬ named a = true) :
    Calls Eafg.prog 3 #[.int .i64 a] w fun e w' => e = .returned (.bool true) ∧ Below w.heap.size w w' := by
  have HT : Hid (∀ w1 : World, Calls Eafg.prog 8 #[.int .i64 a] w1 fun e w' => e = .returned (.tuple #[.string ⟨#[]⟩, .bool false]) ∧ w' = w1) := fun w1 => tokenName_none a hn w1
  have ht : ((strOf a).toList == ((⟨#[116, 111, 107, 101, 110, 40]⟩ : ByteArray) ++ ⟨(Lib.itoa a).toArray⟩ ++ ⟨#[41]⟩).toList) = true := by
    have e : strOf a = joined (Lib.itoa a) := by unfold strOf; rw [if_neg hn]
    rw [e]
    unfold joined
    exact beq_self_eq_true _
  have hl := Lib.itoa_length_le a a0 a1
  have H : Hid (Laid w) := hL
  clear hL hn
  go_enter Eafg.func3, Eafg.ntmps3
  go_wp2_with fail
  refine (HT.out _).mono ?_
  rintro e w1 ⟨rfl, rfl⟩
  go_wp2_with fail
  refine (itoa_any a _ a0 a1).mono ?_
  rintro e w2 ⟨rfl, hb⟩
  have H2 : Hid (Laid w2) := H.out.below hb
  have HB : Hid (Below w1.heap.size w1 w2) := hb
  clear hb
  go_wp2_with fail
  refine (string_any a _ a0 a1 H2.out).mono ?_
  rintro e w3 ⟨rfl, hb⟩
  have HB3 : Hid (Below w2.heap.size w2 w3) := hb
  clear hb
  go_wp2
  go_ret
  exact ⟨by rw [← ht]; rfl, HB.out.trans (HB3.out.mono HB.out.size)⟩

theorem walk (a : Int) (w : World) (a0 : -9223372036854775808 ≤ a) (a1 : a ≤ 9223372036854775807) (hL : Laid w) :
    Calls Eafg.prog 3 #[.int .i64 a] w fun e w' => e = .returned (.bool true) ∧ Below w.heap.size w w' := by
  by_cases hn : named a = true
  · exact walk_named a w a0 a1 hL hn
  · exact walk_none a w a0 a1 hL hn
end Go.Proofs.YoeafwDoor.fnStringCaseTable
