/-
  'FnPrecedenceBoundsAndAssign': the walk.
-/
import Derived.Test.YoeafwDoorPrec
namespace Go.Proofs.YoeafwDoor.fnPrecedenceBoundsAndAssign
open Go.ChangeShapes Go.WideShapes Go.ChangeAt Go.RowKit

/-- No precedence: nothing is asked. -/
theorem walk_none (a : Int) (w : World) (hp : prec a = 0) (h : a < 11 ∨ 21 < a) :
    Calls Eafg.prog 6 #[.int .i64 a] w fun e w' => e = .returned (.bool true) ∧ Below w.heap.size w w' := by
  rcases h with h | h
  all_goals
    go_enter Eafg.func6, Eafg.ntmps6
    go_wp2_with fail
    refine (prec_any a _).mono ?_
    rintro e w1 ⟨rfl, rfl⟩
    go_wp2
    go_ret
    exact ⟨rfl, Below.refl _ _⟩

/-- An operator that has a precedence and no twin. -/
theorem walk_bare (a : Int) (w : World) (hp : 0 < prec a) (hq : prec a ≤ 5) (h0 : 21 < a) (h1 : a < 58) :
    Calls Eafg.prog 6 #[.int .i64 a] w fun e w' => e = .returned (.bool true) ∧ Below w.heap.size w w' := by
  go_enter Eafg.func6, Eafg.ntmps6
  go_wp2_with fail
  refine (prec_any a _).mono ?_
  rintro e w1 ⟨rfl, rfl⟩
  go_wp2
  go_ret
  exact ⟨rfl, Below.refl _ _⟩

theorem size_of (a : Int) (h0 : 11 ≤ a) (h1 : a ≤ 21) : (strOf a).size ≤ 100 := by
  have hn : ∀ i : Fin 11, named (i.val + 11 : Nat) = true ∧ (names.getD (i.val + 11) []).length ≤ 100 := by decide +kernel
  obtain ⟨n1, n2⟩ := hn ⟨(a - 11).toNat, by omega⟩
  simp only at n1 n2
  have e1 : (((a - 11).toNat + 11 : Nat) : Int) = a := by omega
  have e2 : (a - 11).toNat + 11 = a.toNat := by omega
  rw [e1] at n1
  rw [e2] at n2
  unfold strOf
  rw [if_pos n1]
  show (names.getD a.toNat []).toArray.size ≤ 100
  simpa using n2

/-! ### The three classes, where they are asked -/
theorem isOp_in (a : Int) (w : World) (h0 : 10 < a) (h1 : a < 58) : Calls Eafg.prog 13 #[.int .i64 a] w fun e w' => e = .returned (.bool true) ∧ w' = w := by
  go_enter Eafg.func13, Eafg.ntmps13
  go_wp2
  go_ret
  exact ⟨rfl, rfl⟩
theorem isLit_above (a : Int) (w : World) (h0 : 10 < a) : Calls Eafg.prog 14 #[.int .i64 a] w fun e w' => e = .returned (.bool false) ∧ w' = w := by
  have h : 3 < a := by omega
  have h' : ¬ a < 9 := by omega
  go_enter Eafg.func14, Eafg.ntmps14
  go_wp2
  go_ret
  exact ⟨by simp, rfl⟩
theorem isKw_below (a : Int) (w : World) (h0 : a < 58) : Calls Eafg.prog 15 #[.int .i64 a] w fun e w' => e = .returned (.bool false) ∧ w' = w := by
  go_enter Eafg.func15, Eafg.ntmps15
  go_wp2
  go_ret
  exact ⟨rfl, rfl⟩

/-- X and X=. -/
theorem walk_twin (a : Int) (w : World) (hp : 0 < prec a) (hq : prec a ≤ 5) (h0 : 11 ≤ a) (h1 : a ≤ 21) (hL : Laid w) :
    Calls Eafg.prog 6 #[.int .i64 a] w fun e w' => e = .returned (.bool true) ∧ Below w.heap.size w w' := by
  have H : Hid (Laid w) := hL
  have hz := size_of a h0 h1
  have HP : Hid (prec (a + 11) = 0) := (prec_bare h0 h1).2
  have HT : Hid ((strOf (a + 11)).toList = (strOf a ++ ⟨#[61]⟩ : ByteArray).toList) := by
    show (strOf (a + 11)).toList = (strOf a ++ ⟨#[61]⟩ : ByteArray).toList
    rw [strOf_list, assign_text h0 h1, ← strOf_list, ByteArray.toList_eq, ByteArray.toList_eq]
    simp
  clear hL
  go_enter Eafg.func6, Eafg.ntmps6
  go_wp2_with fail
  refine (prec_any a _).mono ?_
  rintro e w1 ⟨rfl, rfl⟩
  go_wp2_with fail
  refine (isOp_in a _ (by omega) (by omega)).mono ?_
  rintro e w2 ⟨rfl, rfl⟩
  go_wp2_with fail
  refine (isLit_above a _ (by omega)).mono ?_
  rintro e w3 ⟨rfl, rfl⟩
  go_wp2_with fail
  refine (isKw_below a _ (by omega)).mono ?_
  rintro e w4 ⟨rfl, rfl⟩
  go_wp2_with fail
  refine (prec_any (a + 11) _).mono ?_
  rintro e w5 ⟨rfl, rfl⟩
  rw [HP.out]
  go_wp2_with fail
  refine (string_any (a + 11) _ (by omega) (by omega) H.out).mono ?_
  rintro e w6 ⟨rfl, hb⟩
  have H6 : Hid (Laid w6) := H.out.below hb
  have HB : Hid (Below w5.heap.size w5 w6) := hb
  clear hb
  go_wp2_with fail
  refine (string_any a _ (by omega) (by omega) H6.out).mono ?_
  rintro e w7 ⟨rfl, hb⟩
  have HB7 : Hid (Below w6.heap.size w6 w7) := hb
  clear hb
  have ht : ((strOf (a + 11)).toList == (strOf a ++ ⟨#[61]⟩ : ByteArray).toList) = true := by rw [HT.out]; exact beq_self_eq_true _
  go_wp2
  go_ret
  exact ⟨rfl, HB.out.trans (HB7.out.mono HB.out.size)⟩

theorem walk (a : Int) (w : World) (a0 : -9223372036854775808 ≤ a) (a1 : a ≤ 9223372036854775807) (hL : Laid w) :
    Calls Eafg.prog 6 #[.int .i64 a] w fun e w' => e = .returned (.bool true) ∧ Below w.heap.size w w' := by
  obtain ⟨p0, p5⟩ := prec_bounds a
  by_cases hp : 0 < prec a
  · obtain ⟨o0, o1⟩ := prec_op hp
    by_cases h : a ≤ 21
    · exact walk_twin a w hp p5 (by omega) h hL
    · exact walk_bare a w hp p5 (by omega) o1
  · refine walk_none a w (by omega) ?_
    by_cases h : 11 ≤ a ∧ a ≤ 21
    · exact absurd (prec_bare h.1 h.2).1 hp
    · omega
end Go.Proofs.YoeafwDoor.fnPrecedenceBoundsAndAssign
