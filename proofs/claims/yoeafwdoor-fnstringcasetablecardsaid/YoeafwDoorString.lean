/-
  The contract of Token.String: at every number its text; what lies in memory stays as it was, new blocks besides.
-/
import Derived.Test.YoeafwDoorBase
import Derived.Test.YoeafwDoorShelf
import Derived.Lib.ItoaLen
namespace Go.Proofs.YoeafwDoor
open Go.ChangeShapes Go.WideShapes Go.ChangeAt Go.RowKit

/-- The text as the walk has it: two strings joined on. -/
def joined (l : List UInt8) : ByteArray := (⟨#[116, 111, 107, 101, 110, 40]⟩ : ByteArray) ++ ⟨l.toArray⟩ ++ ⟨#[41]⟩
theorem joined_list (l : List UInt8) : (joined l).toList = boxed l := by
  rw [ByteArray.toList_eq]
  simp [joined, boxed, ByteArray.data_append]
/-- What Token.String hands back, as a Go string. -/
def strOf (a : Int) : ByteArray := if named a then ⟨(names.getD a.toNat []).toArray⟩ else joined (Lib.itoa a)
theorem strOf_list (a : Int) : (strOf a).toList = text a := by
  unfold strOf text
  split
  · rw [ByteArray.toList_eq]
  · exact joined_list _
theorem toList_mk (l : List UInt8) : (ByteArray.mk l.toArray).toList = l := by rw [ByteArray.toList_eq]

/-- New blocks and draws leave what lay there. -/
theorem below_grow (w : World) (k : Nat) (os : Array Obj) : Below w.heap.size w (Sort.grow (w.drewN k) os) :=
  ⟨rfl, rfl, rfl, by simp [Sort.grow], fun i hi => by simp [Sort.grow, Array.getElem?_append, hi]⟩

theorem Laid.size {w : World} (h : Laid w) : 0 < w.heap.size ∧ 1 < w.heap.size := by
  constructor
  · have := h.tok 0 (by decide)
    rcases Nat.lt_or_ge 0 w.heap.size with h' | h'
    · exact h'
    · rw [World.cell?, Array.getElem?_eq_none h'] at this
      simp at this
  · have := h.pow.cell gPow 0 (by rw [Lib.pow10Tab_length]; decide)
    rcases Nat.lt_or_ge 1 w.heap.size with h' | h'
    · exact h'
    · rw [World.cell?, Array.getElem?_eq_none h'] at this
      simp at this
/-- What the walks ask stays true in a world that has only grown. -/
theorem Laid.below {w w' : World} (h : Laid w) (hb : Below w.heap.size w w') : Laid w' := by
  obtain ⟨s0, s1⟩ := h.size
  refine ⟨?_, fun i hi => ?_⟩
  · have := h.pow
    unfold Lib.TabIs World.var? at this ⊢
    rw [gPow] at this ⊢
    simp only [Option.bind_some] at this ⊢
    rw [hb.block 1 s1]
    exact this
  · rw [hb.cell (p := ⟨0, i, none⟩) s0]
    exact h.tok i hi

theorem string_named (a : Int) (s : ByteArray) (w : World) (h0 : 0 ≤ a) (h1 : a < 75) (hc : w.cell? ⟨0, a.toNat, none⟩ = some (.string s)) (hne : s.toList.isEmpty = false) :
    Calls Eafg.prog 10 #[.int .i64 a] w fun e w' => e = .returned (.string s) ∧ w' = w := by
  go_enter Eafg.func10, Eafg.ntmps10
  go_wp2
  go_ret
  exact ⟨rfl, rfl⟩

theorem string_blank (a : Int) (w : World) (h0 : 0 ≤ a) (h1 : a < 75) (hc : w.cell? ⟨0, a.toNat, none⟩ = some (.string ⟨#[]⟩)) (H : Hid (Lib.TabIs Eafg.prog w powName .u64 Lib.pow10Tab)) :
    Calls Eafg.prog 10 #[.int .i64 a] w fun e w' => e = .returned (.string (joined (Lib.itoa a))) ∧ Below w.heap.size w w' := by
  have hl := Lib.itoa_length_le a (by omega) (by omega)
  go_enter Eafg.func10, Eafg.ntmps10
  go_wp2_with (go_at_call 17; refine (Eafg.strconv_Itoa a (by omega) (by omega) _ H.out).mono ?_; rintro e w' ⟨rfl, k, os, rfl⟩)
  go_ret
  exact ⟨rfl, below_grow _ _ _⟩

theorem string_out (a : Int) (w : World) (b0 : -9223372036854775808 ≤ a) (b1 : a ≤ 9223372036854775807) (h : a < 0 ∨ 75 ≤ a) (H : Hid (Lib.TabIs Eafg.prog w powName .u64 Lib.pow10Tab)) :
    Calls Eafg.prog 10 #[.int .i64 a] w fun e w' => e = .returned (.string (joined (Lib.itoa a))) ∧ Below w.heap.size w w' := by
  have hl := Lib.itoa_length_le a b0 b1
  rcases h with h | h
  · go_enter Eafg.func10, Eafg.ntmps10
    go_wp2_with (go_at_call 17; refine (Eafg.strconv_Itoa a (by omega) (by omega) _ H.out).mono ?_; rintro e w' ⟨rfl, k, os, rfl⟩)
    go_ret
    exact ⟨rfl, below_grow _ _ _⟩
  · have h0 : 0 ≤ a := by omega
    go_enter Eafg.func10, Eafg.ntmps10
    go_wp2_with (go_at_call 17; refine (Eafg.strconv_Itoa a (by omega) (by omega) _ H.out).mono ?_; rintro e w' ⟨rfl, k, os, rfl⟩)
    go_ret
    exact ⟨rfl, below_grow _ _ _⟩

/-- THE CONTRACT OF Token.String. -/
theorem string_any (a : Int) (w : World) (b0 : -9223372036854775808 ≤ a) (b1 : a ≤ 9223372036854775807) (hL : Laid w) :
    Calls Eafg.prog 10 #[.int .i64 a] w fun e w' => e = .returned (.string (strOf a)) ∧ Below w.heap.size w w' := by
  by_cases ha : named a = true
  · obtain ⟨a0, a1, a2⟩ := named_of ha
    have e : strOf a = ⟨(names.getD a.toNat []).toArray⟩ := by unfold strOf; rw [if_pos ha]
    rw [e]
    refine (string_named a _ w a0 a1 (hL.tok a.toNat (by omega)) (by rw [toList_mk]; exact a2)).mono ?_
    rintro e w' ⟨rfl, rfl⟩
    exact ⟨rfl, Below.refl _ _⟩
  · have e : strOf a = joined (Lib.itoa a) := by unfold strOf; rw [if_neg ha]
    rw [e]
    rcases not_named ha with h | ⟨h0, h1, h2⟩
    · exact string_out a w b0 b1 h hL.pow
    · have := hL.tok a.toNat (by omega)
      rw [List.isEmpty_iff.1 h2] at this
      exact string_blank a w h0 h1 this hL.pow
end Go.Proofs.YoeafwDoor
