/-
  The contracts of Precedence (by the number) and of zzPrecOfSpelling (by the spelling).
-/
import Derived.Test.YoeafwDoorString
namespace Go.Proofs.YoeafwDoor
open Go.ChangeShapes Go.WideShapes Go.ChangeAt Go.RowKit

theorem toList_lit (d : Array UInt8) : (ByteArray.mk d).toList = d.toList := by rw [ByteArray.toList_eq]

set_option maxHeartbeats 800000 in
theorem ps0 (w : World) : Calls Eafg.prog 12 #[.string ⟨#[124, 124]⟩] w fun e w' => e = .returned (.int .i64 1) ∧ w' = w := by
  have tl := toList_lit
  go_enter Eafg.func12, Eafg.ntmps12
  go_wp2
  go_ret
  exact ⟨rfl, rfl⟩
set_option maxHeartbeats 800000 in
theorem ps1 (w : World) : Calls Eafg.prog 12 #[.string ⟨#[38, 38]⟩] w fun e w' => e = .returned (.int .i64 2) ∧ w' = w := by
  have tl := toList_lit
  go_enter Eafg.func12, Eafg.ntmps12
  go_wp2
  go_ret
  exact ⟨rfl, rfl⟩
set_option maxHeartbeats 800000 in
theorem ps2 (w : World) : Calls Eafg.prog 12 #[.string ⟨#[61, 61]⟩] w fun e w' => e = .returned (.int .i64 3) ∧ w' = w := by
  have tl := toList_lit
  go_enter Eafg.func12, Eafg.ntmps12
  go_wp2
  go_ret
  exact ⟨rfl, rfl⟩
set_option maxHeartbeats 800000 in
theorem ps3 (w : World) : Calls Eafg.prog 12 #[.string ⟨#[33, 61]⟩] w fun e w' => e = .returned (.int .i64 3) ∧ w' = w := by
  have tl := toList_lit
  go_enter Eafg.func12, Eafg.ntmps12
  go_wp2
  go_ret
  exact ⟨rfl, rfl⟩
set_option maxHeartbeats 800000 in
theorem ps4 (w : World) : Calls Eafg.prog 12 #[.string ⟨#[60]⟩] w fun e w' => e = .returned (.int .i64 3) ∧ w' = w := by
  have tl := toList_lit
  go_enter Eafg.func12, Eafg.ntmps12
  go_wp2
  go_ret
  exact ⟨rfl, rfl⟩
set_option maxHeartbeats 800000 in
theorem ps5 (w : World) : Calls Eafg.prog 12 #[.string ⟨#[60, 61]⟩] w fun e w' => e = .returned (.int .i64 3) ∧ w' = w := by
  have tl := toList_lit
  go_enter Eafg.func12, Eafg.ntmps12
  go_wp2
  go_ret
  exact ⟨rfl, rfl⟩
set_option maxHeartbeats 800000 in
theorem ps6 (w : World) : Calls Eafg.prog 12 #[.string ⟨#[62]⟩] w fun e w' => e = .returned (.int .i64 3) ∧ w' = w := by
  have tl := toList_lit
  go_enter Eafg.func12, Eafg.ntmps12
  go_wp2
  go_ret
  exact ⟨rfl, rfl⟩
set_option maxHeartbeats 800000 in
theorem ps7 (w : World) : Calls Eafg.prog 12 #[.string ⟨#[62, 61]⟩] w fun e w' => e = .returned (.int .i64 3) ∧ w' = w := by
  have tl := toList_lit
  go_enter Eafg.func12, Eafg.ntmps12
  go_wp2
  go_ret
  exact ⟨rfl, rfl⟩
set_option maxHeartbeats 800000 in
theorem ps8 (w : World) : Calls Eafg.prog 12 #[.string ⟨#[43]⟩] w fun e w' => e = .returned (.int .i64 4) ∧ w' = w := by
  have tl := toList_lit
  go_enter Eafg.func12, Eafg.ntmps12
  go_wp2
  go_ret
  exact ⟨rfl, rfl⟩
set_option maxHeartbeats 800000 in
theorem ps9 (w : World) : Calls Eafg.prog 12 #[.string ⟨#[45]⟩] w fun e w' => e = .returned (.int .i64 4) ∧ w' = w := by
  have tl := toList_lit
  go_enter Eafg.func12, Eafg.ntmps12
  go_wp2
  go_ret
  exact ⟨rfl, rfl⟩
set_option maxHeartbeats 800000 in
theorem ps10 (w : World) : Calls Eafg.prog 12 #[.string ⟨#[124]⟩] w fun e w' => e = .returned (.int .i64 4) ∧ w' = w := by
  have tl := toList_lit
  go_enter Eafg.func12, Eafg.ntmps12
  go_wp2
  go_ret
  exact ⟨rfl, rfl⟩
set_option maxHeartbeats 800000 in
theorem ps11 (w : World) : Calls Eafg.prog 12 #[.string ⟨#[94]⟩] w fun e w' => e = .returned (.int .i64 4) ∧ w' = w := by
  have tl := toList_lit
  go_enter Eafg.func12, Eafg.ntmps12
  go_wp2
  go_ret
  exact ⟨rfl, rfl⟩
set_option maxHeartbeats 800000 in
theorem ps12 (w : World) : Calls Eafg.prog 12 #[.string ⟨#[42]⟩] w fun e w' => e = .returned (.int .i64 5) ∧ w' = w := by
  have tl := toList_lit
  go_enter Eafg.func12, Eafg.ntmps12
  go_wp2
  go_ret
  exact ⟨rfl, rfl⟩
set_option maxHeartbeats 800000 in
theorem ps13 (w : World) : Calls Eafg.prog 12 #[.string ⟨#[47]⟩] w fun e w' => e = .returned (.int .i64 5) ∧ w' = w := by
  have tl := toList_lit
  go_enter Eafg.func12, Eafg.ntmps12
  go_wp2
  go_ret
  exact ⟨rfl, rfl⟩
set_option maxHeartbeats 800000 in
theorem ps14 (w : World) : Calls Eafg.prog 12 #[.string ⟨#[37]⟩] w fun e w' => e = .returned (.int .i64 5) ∧ w' = w := by
  have tl := toList_lit
  go_enter Eafg.func12, Eafg.ntmps12
  go_wp2
  go_ret
  exact ⟨rfl, rfl⟩
set_option maxHeartbeats 800000 in
theorem ps15 (w : World) : Calls Eafg.prog 12 #[.string ⟨#[60, 60]⟩] w fun e w' => e = .returned (.int .i64 5) ∧ w' = w := by
  have tl := toList_lit
  go_enter Eafg.func12, Eafg.ntmps12
  go_wp2
  go_ret
  exact ⟨rfl, rfl⟩
set_option maxHeartbeats 800000 in
theorem ps16 (w : World) : Calls Eafg.prog 12 #[.string ⟨#[62, 62]⟩] w fun e w' => e = .returned (.int .i64 5) ∧ w' = w := by
  have tl := toList_lit
  go_enter Eafg.func12, Eafg.ntmps12
  go_wp2
  go_ret
  exact ⟨rfl, rfl⟩
set_option maxHeartbeats 800000 in
theorem ps17 (w : World) : Calls Eafg.prog 12 #[.string ⟨#[38]⟩] w fun e w' => e = .returned (.int .i64 5) ∧ w' = w := by
  have tl := toList_lit
  go_enter Eafg.func12, Eafg.ntmps12
  go_wp2
  go_ret
  exact ⟨rfl, rfl⟩
set_option maxHeartbeats 800000 in
theorem ps18 (w : World) : Calls Eafg.prog 12 #[.string ⟨#[38, 94]⟩] w fun e w' => e = .returned (.int .i64 5) ∧ w' = w := by
  have tl := toList_lit
  go_enter Eafg.func12, Eafg.ntmps12
  go_wp2
  go_ret
  exact ⟨rfl, rfl⟩
set_option maxHeartbeats 800000 in
theorem ps_other (s : ByteArray) (w : World) (H : Hid (∀ x ∈ spelt, (s.toList == x.1) = false)) : Calls Eafg.prog 12 #[.string s] w fun e w' => e = .returned (.int .i64 0) ∧ w' = w := by
  have h0 := H.out ([124, 124], 1) (by decide)
  have h1 := H.out ([38, 38], 2) (by decide)
  have h2 := H.out ([61, 61], 3) (by decide)
  have h3 := H.out ([33, 61], 3) (by decide)
  have h4 := H.out ([60], 3) (by decide)
  have h5 := H.out ([60, 61], 3) (by decide)
  have h6 := H.out ([62], 3) (by decide)
  have h7 := H.out ([62, 61], 3) (by decide)
  have h8 := H.out ([43], 4) (by decide)
  have h9 := H.out ([45], 4) (by decide)
  have h10 := H.out ([124], 4) (by decide)
  have h11 := H.out ([94], 4) (by decide)
  have h12 := H.out ([42], 5) (by decide)
  have h13 := H.out ([47], 5) (by decide)
  have h14 := H.out ([37], 5) (by decide)
  have h15 := H.out ([60, 60], 5) (by decide)
  have h16 := H.out ([62, 62], 5) (by decide)
  have h17 := H.out ([38], 5) (by decide)
  have h18 := H.out ([38, 94], 5) (by decide)
  go_enter Eafg.func12, Eafg.ntmps12
  go_wp2
  go_ret
  exact ⟨rfl, rfl⟩
theorem mk_of_toList {s : ByteArray} {l : List UInt8} (h : s.toList = l) : s = ⟨l.toArray⟩ := by
  rw [ByteArray.toList_eq] at h
  rw [← h]

/-- THE CONTRACT OF zzPrecOfSpelling. -/
theorem precOfSpelling_any (s : ByteArray) (w : World) : Calls Eafg.prog 12 #[.string s] w fun e w' => e = .returned (.int .i64 (precS s.toList)) ∧ w' = w := by
  by_cases h0 : s.toList = [124, 124]
  · rw [h0, mk_of_toList h0]
    exact ps0 w
  by_cases h1 : s.toList = [38, 38]
  · rw [h1, mk_of_toList h1]
    exact ps1 w
  by_cases h2 : s.toList = [61, 61]
  · rw [h2, mk_of_toList h2]
    exact ps2 w
  by_cases h3 : s.toList = [33, 61]
  · rw [h3, mk_of_toList h3]
    exact ps3 w
  by_cases h4 : s.toList = [60]
  · rw [h4, mk_of_toList h4]
    exact ps4 w
  by_cases h5 : s.toList = [60, 61]
  · rw [h5, mk_of_toList h5]
    exact ps5 w
  by_cases h6 : s.toList = [62]
  · rw [h6, mk_of_toList h6]
    exact ps6 w
  by_cases h7 : s.toList = [62, 61]
  · rw [h7, mk_of_toList h7]
    exact ps7 w
  by_cases h8 : s.toList = [43]
  · rw [h8, mk_of_toList h8]
    exact ps8 w
  by_cases h9 : s.toList = [45]
  · rw [h9, mk_of_toList h9]
    exact ps9 w
  by_cases h10 : s.toList = [124]
  · rw [h10, mk_of_toList h10]
    exact ps10 w
  by_cases h11 : s.toList = [94]
  · rw [h11, mk_of_toList h11]
    exact ps11 w
  by_cases h12 : s.toList = [42]
  · rw [h12, mk_of_toList h12]
    exact ps12 w
  by_cases h13 : s.toList = [47]
  · rw [h13, mk_of_toList h13]
    exact ps13 w
  by_cases h14 : s.toList = [37]
  · rw [h14, mk_of_toList h14]
    exact ps14 w
  by_cases h15 : s.toList = [60, 60]
  · rw [h15, mk_of_toList h15]
    exact ps15 w
  by_cases h16 : s.toList = [62, 62]
  · rw [h16, mk_of_toList h16]
    exact ps16 w
  by_cases h17 : s.toList = [38]
  · rw [h17, mk_of_toList h17]
    exact ps17 w
  by_cases h18 : s.toList = [38, 94]
  · rw [h18, mk_of_toList h18]
    exact ps18 w
  have hn : ∀ x ∈ spelt, (s.toList == x.1) = false := by
    intro x hx
    refine beq_false_of_ne ?_
    simp only [spelt, List.mem_cons, List.not_mem_nil, or_false] at hx
    rcases hx with rfl | rfl | rfl | rfl | rfl | rfl | rfl | rfl | rfl | rfl | rfl | rfl | rfl | rfl | rfl | rfl | rfl | rfl | rfl
    all_goals assumption
  have e : precS s.toList = 0 := by
    unfold precS
    have : spelt.find? (fun x => s.toList == x.1) = none := by
      rw [List.find?_eq_none]
      intro x hx
      rw [hn x hx]
      decide
    rw [this]
    rfl
  rw [e]
  exact ps_other s w hn

set_option maxHeartbeats 4000000 in
theorem prec_some (a : Int) (w : World) (h : a = 34 ∨ a = 33 ∨ a = 37 ∨ a = 42 ∨ a = 38 ∨ a = 43 ∨ a = 39 ∨ a = 44 ∨ a = 11 ∨ a = 12 ∨ a = 17 ∨ a = 18 ∨ a = 13 ∨ a = 14 ∨ a = 15 ∨ a = 19 ∨ a = 20 ∨ a = 16 ∨ a = 21) :
    Calls Eafg.prog 11 #[.int .i64 a] w fun e w' => e = .returned (.int .i64 (prec a)) ∧ w' = w := by
  rcases h with rfl | rfl | rfl | rfl | rfl | rfl | rfl | rfl | rfl | rfl | rfl | rfl | rfl | rfl | rfl | rfl | rfl | rfl | rfl
  all_goals
    go_enter Eafg.func11, Eafg.ntmps11
    go_wp2
    go_ret
    exact ⟨rfl, rfl⟩
set_option maxHeartbeats 800000 in
theorem prec_none (a : Int) (w : World) (H : Hid (¬ (a = 34 ∨ a = 33 ∨ a = 37 ∨ a = 42 ∨ a = 38 ∨ a = 43 ∨ a = 39 ∨ a = 44 ∨ a = 11 ∨ a = 12 ∨ a = 17 ∨ a = 18 ∨ a = 13 ∨ a = 14 ∨ a = 15 ∨ a = 19 ∨ a = 20 ∨ a = 16 ∨ a = 21))) :
    Calls Eafg.prog 11 #[.int .i64 a] w fun e w' => e = .returned (.int .i64 0) ∧ w' = w := by
  have h0 : (a == 34) = false := beq_false_of_ne (by have := H.out; omega)
  have h1 : (a == 33) = false := beq_false_of_ne (by have := H.out; omega)
  have h2 : (a == 37) = false := beq_false_of_ne (by have := H.out; omega)
  have h3 : (a == 42) = false := beq_false_of_ne (by have := H.out; omega)
  have h4 : (a == 38) = false := beq_false_of_ne (by have := H.out; omega)
  have h5 : (a == 43) = false := beq_false_of_ne (by have := H.out; omega)
  have h6 : (a == 39) = false := beq_false_of_ne (by have := H.out; omega)
  have h7 : (a == 44) = false := beq_false_of_ne (by have := H.out; omega)
  have h8 : (a == 11) = false := beq_false_of_ne (by have := H.out; omega)
  have h9 : (a == 12) = false := beq_false_of_ne (by have := H.out; omega)
  have h10 : (a == 17) = false := beq_false_of_ne (by have := H.out; omega)
  have h11 : (a == 18) = false := beq_false_of_ne (by have := H.out; omega)
  have h12 : (a == 13) = false := beq_false_of_ne (by have := H.out; omega)
  have h13 : (a == 14) = false := beq_false_of_ne (by have := H.out; omega)
  have h14 : (a == 15) = false := beq_false_of_ne (by have := H.out; omega)
  have h15 : (a == 19) = false := beq_false_of_ne (by have := H.out; omega)
  have h16 : (a == 20) = false := beq_false_of_ne (by have := H.out; omega)
  have h17 : (a == 16) = false := beq_false_of_ne (by have := H.out; omega)
  have h18 : (a == 21) = false := beq_false_of_ne (by have := H.out; omega)
  go_enter Eafg.func11, Eafg.ntmps11
  go_wp2
  go_ret
  exact ⟨rfl, rfl⟩
/-- THE CONTRACT OF Precedence. -/
theorem prec_any (a : Int) (w : World) : Calls Eafg.prog 11 #[.int .i64 a] w fun e w' => e = .returned (.int .i64 (prec a)) ∧ w' = w := by
  by_cases h : a = 34 ∨ a = 33 ∨ a = 37 ∨ a = 42 ∨ a = 38 ∨ a = 43 ∨ a = 39 ∨ a = 44 ∨ a = 11 ∨ a = 12 ∨ a = 17 ∨ a = 18 ∨ a = 13 ∨ a = 14 ∨ a = 15 ∨ a = 19 ∨ a = 20 ∨ a = 16 ∨ a = 21
  · exact prec_some a w h
  · have e : prec a = 0 := by
      unfold prec
      repeat rw [if_neg (by omega)]
    rw [e]
    exact prec_none a w h
end Go.Proofs.YoeafwDoor
