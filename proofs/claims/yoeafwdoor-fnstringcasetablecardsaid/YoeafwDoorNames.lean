/-
  The contract of zzTokenName: the table's name and true, or the empty string and false.
-/
import Derived.Test.YoeafwDoorNamesA
import Derived.Test.YoeafwDoorNamesB
namespace Go.Proofs.YoeafwDoor
open Go.ChangeShapes Go.WideShapes Go.ChangeAt Go.RowKit
set_option maxRecDepth 100000

theorem tn_named_nat (i : Nat) (h : (names.getD i []).isEmpty = false) (w : World) :
    Calls Eafg.prog 8 #[.int .i64 (i : Int)] w fun e w' => e = .returned (.tuple #[.string ⟨(names.getD i []).toArray⟩, .bool true]) ∧ w' = w := by
  match i, h with
  | 0, _ => exact tn0 _ rfl w
  | 1, _ => exact tn1 _ rfl w
  | 2, _ => exact tn2 _ rfl w
  | 3, h => exact absurd h (by decide)
  | 4, _ => exact tn4 _ rfl w
  | 5, _ => exact tn5 _ rfl w
  | 6, _ => exact tn6 _ rfl w
  | 7, _ => exact tn7 _ rfl w
  | 8, _ => exact tn8 _ rfl w
  | 9, h => exact absurd h (by decide)
  | 10, h => exact absurd h (by decide)
  | 11, _ => exact tn11 _ rfl w
  | 12, _ => exact tn12 _ rfl w
  | 13, _ => exact tn13 _ rfl w
  | 14, _ => exact tn14 _ rfl w
  | 15, _ => exact tn15 _ rfl w
  | 16, _ => exact tn16 _ rfl w
  | 17, _ => exact tn17 _ rfl w
  | 18, _ => exact tn18 _ rfl w
  | 19, _ => exact tn19 _ rfl w
  | 20, _ => exact tn20 _ rfl w
  | 21, _ => exact tn21 _ rfl w
  | 22, _ => exact tn22 _ rfl w
  | 23, _ => exact tn23 _ rfl w
  | 24, _ => exact tn24 _ rfl w
  | 25, _ => exact tn25 _ rfl w
  | 26, _ => exact tn26 _ rfl w
  | 27, _ => exact tn27 _ rfl w
  | 28, _ => exact tn28 _ rfl w
  | 29, _ => exact tn29 _ rfl w
  | 30, _ => exact tn30 _ rfl w
  | 31, _ => exact tn31 _ rfl w
  | 32, _ => exact tn32 _ rfl w
  | 33, _ => exact tn33 _ rfl w
  | 34, _ => exact tn34 _ rfl w
  | 35, _ => exact tn35 _ rfl w
  | 36, _ => exact tn36 _ rfl w
  | 37, _ => exact tn37 _ rfl w
  | 38, _ => exact tn38 _ rfl w
  | 39, _ => exact tn39 _ rfl w
  | 40, _ => exact tn40 _ rfl w
  | 41, _ => exact tn41 _ rfl w
  | 42, _ => exact tn42 _ rfl w
  | 43, _ => exact tn43 _ rfl w
  | 44, _ => exact tn44 _ rfl w
  | 45, _ => exact tn45 _ rfl w
  | 46, _ => exact tn46 _ rfl w
  | 47, _ => exact tn47 _ rfl w
  | 48, _ => exact tn48 _ rfl w
  | 49, _ => exact tn49 _ rfl w
  | 50, _ => exact tn50 _ rfl w
  | 51, _ => exact tn51 _ rfl w
  | 52, _ => exact tn52 _ rfl w
  | 53, _ => exact tn53 _ rfl w
  | 54, _ => exact tn54 _ rfl w
  | 55, _ => exact tn55 _ rfl w
  | 56, _ => exact tn56 _ rfl w
  | 57, _ => exact tn57 _ rfl w
  | 58, h => exact absurd h (by decide)
  | 59, h => exact absurd h (by decide)
  | 60, _ => exact tn60 _ rfl w
  | 61, _ => exact tn61 _ rfl w
  | 62, _ => exact tn62 _ rfl w
  | 63, _ => exact tn63 _ rfl w
  | 64, _ => exact tn64 _ rfl w
  | 65, _ => exact tn65 _ rfl w
  | 66, _ => exact tn66 _ rfl w
  | 67, _ => exact tn67 _ rfl w
  | 68, _ => exact tn68 _ rfl w
  | 69, _ => exact tn69 _ rfl w
  | 70, _ => exact tn70 _ rfl w
  | 71, _ => exact tn71 _ rfl w
  | 72, _ => exact tn72 _ rfl w
  | 73, _ => exact tn73 _ rfl w
  | 74, _ => exact tn74 _ rfl w
  | n + 75, h => exact absurd h (by rw [List.getD, List.getElem?_eq_none (by rw [names_length]; omega)]; decide)
theorem tn_blank_nat (i : Nat) (hi : i < 75) (h : (names.getD i []).isEmpty = true) (w : World) :
    Calls Eafg.prog 8 #[.int .i64 (i : Int)] w fun e w' => e = .returned (.tuple #[.string ⟨#[]⟩, .bool false]) ∧ w' = w := by
  match i, h with
  | 0, h => exact absurd h (by decide)
  | 1, h => exact absurd h (by decide)
  | 2, h => exact absurd h (by decide)
  | 3, _ => exact tn3 _ rfl w
  | 4, h => exact absurd h (by decide)
  | 5, h => exact absurd h (by decide)
  | 6, h => exact absurd h (by decide)
  | 7, h => exact absurd h (by decide)
  | 8, h => exact absurd h (by decide)
  | 9, _ => exact tn9 _ rfl w
  | 10, _ => exact tn10 _ rfl w
  | 11, h => exact absurd h (by decide)
  | 12, h => exact absurd h (by decide)
  | 13, h => exact absurd h (by decide)
  | 14, h => exact absurd h (by decide)
  | 15, h => exact absurd h (by decide)
  | 16, h => exact absurd h (by decide)
  | 17, h => exact absurd h (by decide)
  | 18, h => exact absurd h (by decide)
  | 19, h => exact absurd h (by decide)
  | 20, h => exact absurd h (by decide)
  | 21, h => exact absurd h (by decide)
  | 22, h => exact absurd h (by decide)
  | 23, h => exact absurd h (by decide)
  | 24, h => exact absurd h (by decide)
  | 25, h => exact absurd h (by decide)
  | 26, h => exact absurd h (by decide)
  | 27, h => exact absurd h (by decide)
  | 28, h => exact absurd h (by decide)
  | 29, h => exact absurd h (by decide)
  | 30, h => exact absurd h (by decide)
  | 31, h => exact absurd h (by decide)
  | 32, h => exact absurd h (by decide)
  | 33, h => exact absurd h (by decide)
  | 34, h => exact absurd h (by decide)
  | 35, h => exact absurd h (by decide)
  | 36, h => exact absurd h (by decide)
  | 37, h => exact absurd h (by decide)
  | 38, h => exact absurd h (by decide)
  | 39, h => exact absurd h (by decide)
  | 40, h => exact absurd h (by decide)
  | 41, h => exact absurd h (by decide)
  | 42, h => exact absurd h (by decide)
  | 43, h => exact absurd h (by decide)
  | 44, h => exact absurd h (by decide)
  | 45, h => exact absurd h (by decide)
  | 46, h => exact absurd h (by decide)
  | 47, h => exact absurd h (by decide)
  | 48, h => exact absurd h (by decide)
  | 49, h => exact absurd h (by decide)
  | 50, h => exact absurd h (by decide)
  | 51, h => exact absurd h (by decide)
  | 52, h => exact absurd h (by decide)
  | 53, h => exact absurd h (by decide)
  | 54, h => exact absurd h (by decide)
  | 55, h => exact absurd h (by decide)
  | 56, h => exact absurd h (by decide)
  | 57, h => exact absurd h (by decide)
  | 58, _ => exact tn58 _ rfl w
  | 59, _ => exact tn59 _ rfl w
  | 60, h => exact absurd h (by decide)
  | 61, h => exact absurd h (by decide)
  | 62, h => exact absurd h (by decide)
  | 63, h => exact absurd h (by decide)
  | 64, h => exact absurd h (by decide)
  | 65, h => exact absurd h (by decide)
  | 66, h => exact absurd h (by decide)
  | 67, h => exact absurd h (by decide)
  | 68, h => exact absurd h (by decide)
  | 69, h => exact absurd h (by decide)
  | 70, h => exact absurd h (by decide)
  | 71, h => exact absurd h (by decide)
  | 72, h => exact absurd h (by decide)
  | 73, h => exact absurd h (by decide)
  | 74, h => exact absurd h (by decide)
  | n + 75, _ => omega

/-- A token that has a name. -/
theorem tokenName_named (a : Int) (h : named a = true) (w : World) :
    Calls Eafg.prog 8 #[.int .i64 a] w fun e w' => e = .returned (.tuple #[.string ⟨(names.getD a.toNat []).toArray⟩, .bool true]) ∧ w' = w := by
  obtain ⟨h0, h1, h2⟩ := named_of h
  obtain ⟨i, rfl⟩ : ∃ i : Nat, a = (i : Int) := ⟨a.toNat, by omega⟩
  rw [Int.toNat_natCast] at h2 ⊢
  exact tn_named_nat i h2 w
/-- A number that has none. -/
theorem tokenName_none (a : Int) (h : ¬ named a = true) (w : World) :
    Calls Eafg.prog 8 #[.int .i64 a] w fun e w' => e = .returned (.tuple #[.string ⟨#[]⟩, .bool false]) ∧ w' = w := by
  rcases not_named h with h | ⟨h0, h1, h2⟩
  · rcases h with h | h
    · exact tn_low a h w
    · exact tn_high a h w
  · obtain ⟨i, rfl⟩ : ∃ i : Nat, a = (i : Int) := ⟨a.toNat, by omega⟩
    rw [Int.toNat_natCast] at h2
    exact tn_blank_nat i (by omega) h2 w
end Go.Proofs.YoeafwDoor
