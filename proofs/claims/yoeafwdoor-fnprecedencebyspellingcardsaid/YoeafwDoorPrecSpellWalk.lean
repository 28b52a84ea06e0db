/-
  'FnPrecedenceBySpelling': the walk.
-/
import Derived.Test.YoeafwDoorPrec
namespace Go.Proofs.YoeafwDoor.fnPrecedenceBySpelling
open Go.ChangeShapes Go.WideShapes Go.ChangeAt Go.RowKit

theorem walk (a : Int) (w : World) (a0 : -9223372036854775808 ≤ a) (a1 : a ≤ 9223372036854775807) (hL : Laid w) :
    Calls Eafg.prog 5 #[.int .i64 a] w fun e w' => e = .returned (.bool true) ∧ Below w.heap.size w w' := by
  have hs : ∀ w1 : World, Calls Eafg.prog 12 #[.string (strOf a)] w1 fun e w' => e = .returned (.int .i64 (prec a)) ∧ w' = w1 := by
    intro w1
    have := precOfSpelling_any (strOf a) w1
    rw [strOf_list, prec_text] at this
    exact this
  have HS : Hid (∀ w1 : World, Calls Eafg.prog 12 #[.string (strOf a)] w1 fun e w' => e = .returned (.int .i64 (prec a)) ∧ w' = w1) := hs
  have H : Hid (Laid w) := hL
  clear hL hs
  go_enter Eafg.func5, Eafg.ntmps5
  go_wp2_with fail
  refine (prec_any a _).mono ?_
  rintro e w1 ⟨rfl, rfl⟩
  go_wp2_with fail
  refine (string_any a _ a0 a1 H.out).mono ?_
  rintro e w2 ⟨rfl, hb⟩
  have HB : Hid (Below w1.heap.size w1 w2) := hb
  clear hb
  go_wp2_with fail
  refine (HS.out _).mono ?_
  rintro e w3 ⟨rfl, rfl⟩
  go_wp2
  go_ret
  exact ⟨by simp, HB.out⟩
end Go.Proofs.YoeafwDoor.fnPrecedenceBySpelling
