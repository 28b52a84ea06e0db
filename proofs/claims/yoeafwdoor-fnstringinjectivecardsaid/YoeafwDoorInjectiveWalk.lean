/-
  'FnStringInjective': the walk.
-/
import Derived.Test.YoeafwDoorString
namespace Go.Proofs.YoeafwDoor.fnStringInjective
open Go.ChangeShapes Go.WideShapes Go.ChangeAt Go.RowKit

theorem walk (a b : Int) (w : World) (a0 : -9223372036854775808 ≤ a) (a1 : a ≤ 9223372036854775807) (b0 : -9223372036854775808 ≤ b) (b1 : b ≤ 9223372036854775807) (hL : Laid w) :
    Calls Eafg.prog 4 #[.int .i64 a, .int .i64 b] w fun e w' => e = .returned (.bool true) ∧ Below w.heap.size w w' := by
  by_cases hab : a = b
  · subst hab
    go_enter Eafg.func4, Eafg.ntmps4
    go_wp2
    go_ret
    exact ⟨rfl, Below.refl _ _⟩
  · have hne : ((strOf a).toList == (strOf b).toList) = false := by
      rw [strOf_list, strOf_list]
      exact beq_false_of_ne fun h => hab (text_inj h)
    have htest : (a == b) = false := beq_false_of_ne hab
    have H : Hid (Laid w) := hL
    clear hL hab
    go_enter Eafg.func4, Eafg.ntmps4
    go_wp2_with fail
    refine (string_any a _ a0 a1 H.out).mono ?_
    rintro e w1 ⟨rfl, hb⟩
    have H1 : Hid (Laid w1) := H.out.below hb
    have HB : Hid (Below w.heap.size w w1) := hb
    clear hb
    go_wp2_with fail
    refine (string_any b _ b0 b1 H1.out).mono ?_
    rintro e w2 ⟨rfl, hb2⟩
    have HB2 : Hid (Below w1.heap.size w1 w2) := hb2
    clear hb2
    go_wp2
    go_ret
    exact ⟨rfl, HB.out.trans (HB2.out.mono HB.out.size)⟩
end Go.Proofs.YoeafwDoor.fnStringInjective
