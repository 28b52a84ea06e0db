/-
  'FnIsOperatorBySpelling': zzIsPunct, and the walk with its loop over the text.
-/
import Derived.Test.YoeafwDoorString
namespace Go.Proofs.YoeafwDoor.fnIsOperatorBySpelling
open Go.ChangeShapes Go.WideShapes Go.ChangeAt Go.RowKit

/-- The bytes of punctuation, as numbers. -/
def nums : List Int := [43, 45, 42, 47, 37, 38, 124, 94, 60, 62, 61, 33, 46, 40, 91, 123, 44, 41, 93, 125, 59, 58, 63]
def isNum (n : Int) : Bool := nums.contains n
theorem isNum_byte : ∀ c : UInt8, isNum (c.toNat : Int) = isPunct c := by
  have : ∀ i : Fin 256, isNum ((UInt8.ofNat i.val).toNat : Int) = isPunct (UInt8.ofNat i.val) := by decide +kernel
  intro c
  have h := this ⟨c.toNat, c.toNat_lt⟩
  simpa using h

set_option maxHeartbeats 4000000 in
theorem punct_yes (n : Int) (w : World) (h : n = 43 ∨ n = 45 ∨ n = 42 ∨ n = 47 ∨ n = 37 ∨ n = 38 ∨ n = 124 ∨ n = 94 ∨ n = 60 ∨ n = 62 ∨ n = 61 ∨ n = 33 ∨ n = 46 ∨ n = 40 ∨ n = 91 ∨ n = 123 ∨ n = 44 ∨ n = 41 ∨ n = 93 ∨ n = 125 ∨ n = 59 ∨ n = 58 ∨ n = 63) :
    Calls Eafg.prog 16 #[.int .u8 n] w fun e w' => e = .returned (.bool true) ∧ w' = w := by
  rcases h with rfl | rfl | rfl | rfl | rfl | rfl | rfl | rfl | rfl | rfl | rfl | rfl | rfl | rfl | rfl | rfl | rfl | rfl | rfl | rfl | rfl | rfl | rfl
  all_goals
    go_enter Eafg.func16, Eafg.ntmps16
    go_wp2
    go_ret
    exact ⟨rfl, rfl⟩
set_option maxHeartbeats 800000 in
theorem punct_no (n : Int) (w : World) (H : Hid (¬ (n = 43 ∨ n = 45 ∨ n = 42 ∨ n = 47 ∨ n = 37 ∨ n = 38 ∨ n = 124 ∨ n = 94 ∨ n = 60 ∨ n = 62 ∨ n = 61 ∨ n = 33 ∨ n = 46 ∨ n = 40 ∨ n = 91 ∨ n = 123 ∨ n = 44 ∨ n = 41 ∨ n = 93 ∨ n = 125 ∨ n = 59 ∨ n = 58 ∨ n = 63))) :
    Calls Eafg.prog 16 #[.int .u8 n] w fun e w' => e = .returned (.bool false) ∧ w' = w := by
  have h0 : (n == 43) = false := beq_false_of_ne (by have := H.out; omega)
  have h1 : (n == 45) = false := beq_false_of_ne (by have := H.out; omega)
  have h2 : (n == 42) = false := beq_false_of_ne (by have := H.out; omega)
  have h3 : (n == 47) = false := beq_false_of_ne (by have := H.out; omega)
  have h4 : (n == 37) = false := beq_false_of_ne (by have := H.out; omega)
  have h5 : (n == 38) = false := beq_false_of_ne (by have := H.out; omega)
  have h6 : (n == 124) = false := beq_false_of_ne (by have := H.out; omega)
  have h7 : (n == 94) = false := beq_false_of_ne (by have := H.out; omega)
  have h8 : (n == 60) = false := beq_false_of_ne (by have := H.out; omega)
  have h9 : (n == 62) = false := beq_false_of_ne (by have := H.out; omega)
  have h10 : (n == 61) = false := beq_false_of_ne (by have := H.out; omega)
  have h11 : (n == 33) = false := beq_false_of_ne (by have := H.out; omega)
  have h12 : (n == 46) = false := beq_false_of_ne (by have := H.out; omega)
  have h13 : (n == 40) = false := beq_false_of_ne (by have := H.out; omega)
  have h14 : (n == 91) = false := beq_false_of_ne (by have := H.out; omega)
  have h15 : (n == 123) = false := beq_false_of_ne (by have := H.out; omega)
  have h16 : (n == 44) = false := beq_false_of_ne (by have := H.out; omega)
  have h17 : (n == 41) = false := beq_false_of_ne (by have := H.out; omega)
  have h18 : (n == 93) = false := beq_false_of_ne (by have := H.out; omega)
  have h19 : (n == 125) = false := beq_false_of_ne (by have := H.out; omega)
  have h20 : (n == 59) = false := beq_false_of_ne (by have := H.out; omega)
  have h21 : (n == 58) = false := beq_false_of_ne (by have := H.out; omega)
  have h22 : (n == 63) = false := beq_false_of_ne (by have := H.out; omega)
  go_enter Eafg.func16, Eafg.ntmps16
  go_wp2
  go_ret
  exact ⟨rfl, rfl⟩
/-- THE CONTRACT OF zzIsPunct. -/
theorem punct_any (n : Int) (w : World) : Calls Eafg.prog 16 #[.int .u8 n] w fun e w' => e = .returned (.bool (isNum n)) ∧ w' = w := by
  have hm : isNum n = true ↔ (n = 43 ∨ n = 45 ∨ n = 42 ∨ n = 47 ∨ n = 37 ∨ n = 38 ∨ n = 124 ∨ n = 94 ∨ n = 60 ∨ n = 62 ∨ n = 61 ∨ n = 33 ∨ n = 46 ∨ n = 40 ∨ n = 91 ∨ n = 123 ∨ n = 44 ∨ n = 41 ∨ n = 93 ∨ n = 125 ∨ n = 59 ∨ n = 58 ∨ n = 63) := by
    simp [isNum, nums]
  cases hb : isNum n with
  | true => exact punct_yes n w (hm.1 hb)
  | false => exact punct_no n w (fun h => by rw [hm.2 h] at hb; cases hb)

theorem isOp_any (a : Int) (w : World) : Calls Eafg.prog 13 #[.int .i64 a] w fun e w' => e = .returned (.bool (isOp a)) ∧ w' = w := by
  by_cases h : 10 < a
  · go_enter Eafg.func13, Eafg.ntmps13
    go_wp2
    all_goals
      go_ret
      exact ⟨by simp_all [isOp], rfl⟩
  · have e : isOp a = false := by unfold isOp; rw [decide_eq_false h]; rfl
    rw [e]
    clear e
    go_enter Eafg.func13, Eafg.ntmps13
    go_wp2
    go_ret
    exact ⟨rfl, rfl⟩

theorem all_snoc (s : ByteArray) (k : Nat) (h : k < s.size) : (s.data.toList.take (k + 1)).all isPunct = ((s.data.toList.take k).all isPunct && isNum (s[k].toNat : Int)) := by
  rw [List.take_succ_eq_append_getElem (by simpa using h), List.all_append, isNum_byte]
  simp
  rfl

theorem names_short : ∀ i : Fin 75, (names.getD i.val []).length ≤ 100 := by decide +kernel
theorem size_text (a : Int) (a0 : -9223372036854775808 ≤ a) (a1 : a ≤ 9223372036854775807) : (strOf a).size ≤ 100 := by
  have e : (strOf a).size = (text a).length := by
    rw [← strOf_list, ByteArray.toList_eq]
    show (strOf a).data.size = _
    simp
  rw [e]
  unfold text
  by_cases ha : named a = true
  · obtain ⟨h0, h1, _⟩ := named_of ha
    rw [if_pos ha]
    exact names_short ⟨a.toNat, by omega⟩
  · rw [if_neg ha]
    have := Lib.itoa_length_le a a0 a1
    simp [boxed]
    omega
/-- The text's own verdict. -/
theorem verdict (a : Int) : (decide (0 < (strOf a).size) && (strOf a).data.toList.all isPunct) = isOp a := by
  rw [← op_text, ← strOf_list, ByteArray.toList_eq]
  unfold allPunct
  congr 1
  have e : (strOf a).size = (strOf a).data.toList.length := by show (strOf a).data.size = _; simp
  rw [e]
  cases (strOf a).data.toList <;> simp

set_option maxHeartbeats 1600000 in
theorem walk (a : Int) (w : World) (a0 : -9223372036854775808 ≤ a) (a1 : a ≤ 9223372036854775807) (hL : Laid w) :
    Calls Eafg.prog 7 #[.int .i64 a] w fun e w' => e = .returned (.bool true) ∧ Below w.heap.size w w' := by
  have H : Hid (Laid w) := hL
  have hz := size_text a a0 a1
  clear hL
  go_enter Eafg.func7, Eafg.ntmps7
  go_wp2_with fail
  refine (string_any a _ a0 a1 H.out).mono ?_
  rintro e w1 ⟨rfl, hb⟩
  have HB : Hid (Below w.heap.size w w1) := hb
  clear hb
  go_wp2_with fail
  go_loop [5, 6] (fun b i => ∃ k : Nat, k ≤ (strOf a).size ∧ i = .int .i64 k ∧ b = .bool (decide (0 < (strOf a).size) && ((strOf a).data.toList.take k).all isPunct)) (fun _ i => (strOf a).size - (intOf i).toNat)
  case atStart => exact ⟨0, Nat.zero_le _, rfl, by simp⟩
  case round =>
    obtain ⟨k, hk, rfl, rfl⟩ := hrel
    by_cases hlt : k < (strOf a).size
    · have HS : Hid (((strOf a).data.toList.take (k + 1)).all isPunct = (((strOf a).data.toList.take k).all isPunct && isNum ((strOf a)[k].toNat : Int))) := all_snoc (strOf a) k hlt
      cases hp : isNum ((strOf a)[k].toNat : Int)
      all_goals
        go_wp2_with (go_at_call 16; refine (punct_any _ _).mono ?_; rintro e w' ⟨rfl, rfl⟩)
        go_round
        case rel => exact ⟨k + 1, by omega, by go_num, by rw [HS.out, hp]; simp⟩
        case measure => simp [intOf]; omega
    · obtain rfl : k = (strOf a).size := by omega
      have HV : Hid ((decide (0 < (strOf a).size) && (((strOf a).data.toList.take (strOf a).size)).all isPunct) = isOp a) := by
        show (decide (0 < (strOf a).size) && (((strOf a).data.toList.take (strOf a).size)).all isPunct) = isOp a
        rw [List.take_of_length_le (by show (strOf a).data.toList.length ≤ (strOf a).data.size; simp)]
        exact verdict a
      rw [HV.out]
      go_wp2_with fail
      refine (isOp_any a _).mono ?_
      rintro e w2 ⟨rfl, rfl⟩
      go_wp2
      go_ret
      exact ⟨by simp, HB.out⟩
end Go.Proofs.YoeafwDoor.fnIsOperatorBySpelling
