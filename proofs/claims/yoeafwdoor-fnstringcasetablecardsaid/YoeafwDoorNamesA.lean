/-
  zzTokenName at the numbers 0 to 39, one by one.
-/
import Derived.Test.YoeafwDoorString
namespace Go.Proofs.YoeafwDoor
open Go.ChangeShapes Go.WideShapes Go.ChangeAt Go.RowKit
set_option maxRecDepth 100000

set_option maxHeartbeats 800000 in
theorem tn0 (a : Int) (h : a = 0) (w : World) : Calls Eafg.prog 8 #[.int .i64 a] w fun e w' => e = .returned (.tuple #[.string ⟨#[73, 76, 76, 69, 71, 65, 76]⟩, .bool true]) ∧ w' = w := by
  subst h
  go_enter Eafg.func8, Eafg.ntmps8
  go_wp2
  go_ret2
  exact ⟨rfl, rfl⟩
set_option maxHeartbeats 800000 in
theorem tn1 (a : Int) (h : a = 1) (w : World) : Calls Eafg.prog 8 #[.int .i64 a] w fun e w' => e = .returned (.tuple #[.string ⟨#[69, 79, 70]⟩, .bool true]) ∧ w' = w := by
  subst h
  go_enter Eafg.func8, Eafg.ntmps8
  go_wp2
  go_ret2
  exact ⟨rfl, rfl⟩
set_option maxHeartbeats 800000 in
theorem tn2 (a : Int) (h : a = 2) (w : World) : Calls Eafg.prog 8 #[.int .i64 a] w fun e w' => e = .returned (.tuple #[.string ⟨#[67, 79, 77, 77, 69, 78, 84]⟩, .bool true]) ∧ w' = w := by
  subst h
  go_enter Eafg.func8, Eafg.ntmps8
  go_wp2
  go_ret2
  exact ⟨rfl, rfl⟩
set_option maxHeartbeats 800000 in
theorem tn3 (a : Int) (h : a = 3) (w : World) : Calls Eafg.prog 8 #[.int .i64 a] w fun e w' => e = .returned (.tuple #[.string ⟨#[]⟩, .bool false]) ∧ w' = w := by
  subst h
  go_enter Eafg.func8, Eafg.ntmps8
  go_wp2
  go_ret2
  exact ⟨rfl, rfl⟩
set_option maxHeartbeats 800000 in
theorem tn4 (a : Int) (h : a = 4) (w : World) : Calls Eafg.prog 8 #[.int .i64 a] w fun e w' => e = .returned (.tuple #[.string ⟨#[73, 68, 69, 78, 84]⟩, .bool true]) ∧ w' = w := by
  subst h
  go_enter Eafg.func8, Eafg.ntmps8
  go_wp2
  go_ret2
  exact ⟨rfl, rfl⟩
set_option maxHeartbeats 800000 in
theorem tn5 (a : Int) (h : a = 5) (w : World) : Calls Eafg.prog 8 #[.int .i64 a] w fun e w' => e = .returned (.tuple #[.string ⟨#[73, 78, 84]⟩, .bool true]) ∧ w' = w := by
  subst h
  go_enter Eafg.func8, Eafg.ntmps8
  go_wp2
  go_ret2
  exact ⟨rfl, rfl⟩
set_option maxHeartbeats 800000 in
theorem tn6 (a : Int) (h : a = 6) (w : World) : Calls Eafg.prog 8 #[.int .i64 a] w fun e w' => e = .returned (.tuple #[.string ⟨#[70, 76, 79, 65, 84]⟩, .bool true]) ∧ w' = w := by
  subst h
  go_enter Eafg.func8, Eafg.ntmps8
  go_wp2
  go_ret2
  exact ⟨rfl, rfl⟩
set_option maxHeartbeats 800000 in
theorem tn7 (a : Int) (h : a = 7) (w : World) : Calls Eafg.prog 8 #[.int .i64 a] w fun e w' => e = .returned (.tuple #[.string ⟨#[67, 72, 65, 82]⟩, .bool true]) ∧ w' = w := by
  subst h
  go_enter Eafg.func8, Eafg.ntmps8
  go_wp2
  go_ret2
  exact ⟨rfl, rfl⟩
set_option maxHeartbeats 800000 in
theorem tn8 (a : Int) (h : a = 8) (w : World) : Calls Eafg.prog 8 #[.int .i64 a] w fun e w' => e = .returned (.tuple #[.string ⟨#[83, 84, 82, 73, 78, 71]⟩, .bool true]) ∧ w' = w := by
  subst h
  go_enter Eafg.func8, Eafg.ntmps8
  go_wp2
  go_ret2
  exact ⟨rfl, rfl⟩
set_option maxHeartbeats 800000 in
theorem tn9 (a : Int) (h : a = 9) (w : World) : Calls Eafg.prog 8 #[.int .i64 a] w fun e w' => e = .returned (.tuple #[.string ⟨#[]⟩, .bool false]) ∧ w' = w := by
  subst h
  go_enter Eafg.func8, Eafg.ntmps8
  go_wp2
  go_ret2
  exact ⟨rfl, rfl⟩
set_option maxHeartbeats 800000 in
theorem tn10 (a : Int) (h : a = 10) (w : World) : Calls Eafg.prog 8 #[.int .i64 a] w fun e w' => e = .returned (.tuple #[.string ⟨#[]⟩, .bool false]) ∧ w' = w := by
  subst h
  go_enter Eafg.func8, Eafg.ntmps8
  go_wp2
  go_ret2
  exact ⟨rfl, rfl⟩
set_option maxHeartbeats 800000 in
theorem tn11 (a : Int) (h : a = 11) (w : World) : Calls Eafg.prog 8 #[.int .i64 a] w fun e w' => e = .returned (.tuple #[.string ⟨#[43]⟩, .bool true]) ∧ w' = w := by
  subst h
  go_enter Eafg.func8, Eafg.ntmps8
  go_wp2
  go_ret2
  exact ⟨rfl, rfl⟩
set_option maxHeartbeats 800000 in
theorem tn12 (a : Int) (h : a = 12) (w : World) : Calls Eafg.prog 8 #[.int .i64 a] w fun e w' => e = .returned (.tuple #[.string ⟨#[45]⟩, .bool true]) ∧ w' = w := by
  subst h
  go_enter Eafg.func8, Eafg.ntmps8
  go_wp2
  go_ret2
  exact ⟨rfl, rfl⟩
set_option maxHeartbeats 800000 in
theorem tn13 (a : Int) (h : a = 13) (w : World) : Calls Eafg.prog 8 #[.int .i64 a] w fun e w' => e = .returned (.tuple #[.string ⟨#[42]⟩, .bool true]) ∧ w' = w := by
  subst h
  go_enter Eafg.func8, Eafg.ntmps8
  go_wp2
  go_ret2
  exact ⟨rfl, rfl⟩
set_option maxHeartbeats 800000 in
theorem tn14 (a : Int) (h : a = 14) (w : World) : Calls Eafg.prog 8 #[.int .i64 a] w fun e w' => e = .returned (.tuple #[.string ⟨#[47]⟩, .bool true]) ∧ w' = w := by
  subst h
  go_enter Eafg.func8, Eafg.ntmps8
  go_wp2
  go_ret2
  exact ⟨rfl, rfl⟩
set_option maxHeartbeats 800000 in
theorem tn15 (a : Int) (h : a = 15) (w : World) : Calls Eafg.prog 8 #[.int .i64 a] w fun e w' => e = .returned (.tuple #[.string ⟨#[37]⟩, .bool true]) ∧ w' = w := by
  subst h
  go_enter Eafg.func8, Eafg.ntmps8
  go_wp2
  go_ret2
  exact ⟨rfl, rfl⟩
set_option maxHeartbeats 800000 in
theorem tn16 (a : Int) (h : a = 16) (w : World) : Calls Eafg.prog 8 #[.int .i64 a] w fun e w' => e = .returned (.tuple #[.string ⟨#[38]⟩, .bool true]) ∧ w' = w := by
  subst h
  go_enter Eafg.func8, Eafg.ntmps8
  go_wp2
  go_ret2
  exact ⟨rfl, rfl⟩
set_option maxHeartbeats 800000 in
theorem tn17 (a : Int) (h : a = 17) (w : World) : Calls Eafg.prog 8 #[.int .i64 a] w fun e w' => e = .returned (.tuple #[.string ⟨#[124]⟩, .bool true]) ∧ w' = w := by
  subst h
  go_enter Eafg.func8, Eafg.ntmps8
  go_wp2
  go_ret2
  exact ⟨rfl, rfl⟩
set_option maxHeartbeats 800000 in
theorem tn18 (a : Int) (h : a = 18) (w : World) : Calls Eafg.prog 8 #[.int .i64 a] w fun e w' => e = .returned (.tuple #[.string ⟨#[94]⟩, .bool true]) ∧ w' = w := by
  subst h
  go_enter Eafg.func8, Eafg.ntmps8
  go_wp2
  go_ret2
  exact ⟨rfl, rfl⟩
set_option maxHeartbeats 800000 in
theorem tn19 (a : Int) (h : a = 19) (w : World) : Calls Eafg.prog 8 #[.int .i64 a] w fun e w' => e = .returned (.tuple #[.string ⟨#[60, 60]⟩, .bool true]) ∧ w' = w := by
  subst h
  go_enter Eafg.func8, Eafg.ntmps8
  go_wp2
  go_ret2
  exact ⟨rfl, rfl⟩
set_option maxHeartbeats 800000 in
theorem tn20 (a : Int) (h : a = 20) (w : World) : Calls Eafg.prog 8 #[.int .i64 a] w fun e w' => e = .returned (.tuple #[.string ⟨#[62, 62]⟩, .bool true]) ∧ w' = w := by
  subst h
  go_enter Eafg.func8, Eafg.ntmps8
  go_wp2
  go_ret2
  exact ⟨rfl, rfl⟩
set_option maxHeartbeats 800000 in
theorem tn21 (a : Int) (h : a = 21) (w : World) : Calls Eafg.prog 8 #[.int .i64 a] w fun e w' => e = .returned (.tuple #[.string ⟨#[38, 94]⟩, .bool true]) ∧ w' = w := by
  subst h
  go_enter Eafg.func8, Eafg.ntmps8
  go_wp2
  go_ret2
  exact ⟨rfl, rfl⟩
set_option maxHeartbeats 800000 in
theorem tn22 (a : Int) (h : a = 22) (w : World) : Calls Eafg.prog 8 #[.int .i64 a] w fun e w' => e = .returned (.tuple #[.string ⟨#[43, 61]⟩, .bool true]) ∧ w' = w := by
  subst h
  go_enter Eafg.func8, Eafg.ntmps8
  go_wp2
  go_ret2
  exact ⟨rfl, rfl⟩
set_option maxHeartbeats 800000 in
theorem tn23 (a : Int) (h : a = 23) (w : World) : Calls Eafg.prog 8 #[.int .i64 a] w fun e w' => e = .returned (.tuple #[.string ⟨#[45, 61]⟩, .bool true]) ∧ w' = w := by
  subst h
  go_enter Eafg.func8, Eafg.ntmps8
  go_wp2
  go_ret2
  exact ⟨rfl, rfl⟩
set_option maxHeartbeats 800000 in
theorem tn24 (a : Int) (h : a = 24) (w : World) : Calls Eafg.prog 8 #[.int .i64 a] w fun e w' => e = .returned (.tuple #[.string ⟨#[42, 61]⟩, .bool true]) ∧ w' = w := by
  subst h
  go_enter Eafg.func8, Eafg.ntmps8
  go_wp2
  go_ret2
  exact ⟨rfl, rfl⟩
set_option maxHeartbeats 800000 in
theorem tn25 (a : Int) (h : a = 25) (w : World) : Calls Eafg.prog 8 #[.int .i64 a] w fun e w' => e = .returned (.tuple #[.string ⟨#[47, 61]⟩, .bool true]) ∧ w' = w := by
  subst h
  go_enter Eafg.func8, Eafg.ntmps8
  go_wp2
  go_ret2
  exact ⟨rfl, rfl⟩
set_option maxHeartbeats 800000 in
theorem tn26 (a : Int) (h : a = 26) (w : World) : Calls Eafg.prog 8 #[.int .i64 a] w fun e w' => e = .returned (.tuple #[.string ⟨#[37, 61]⟩, .bool true]) ∧ w' = w := by
  subst h
  go_enter Eafg.func8, Eafg.ntmps8
  go_wp2
  go_ret2
  exact ⟨rfl, rfl⟩
set_option maxHeartbeats 800000 in
theorem tn27 (a : Int) (h : a = 27) (w : World) : Calls Eafg.prog 8 #[.int .i64 a] w fun e w' => e = .returned (.tuple #[.string ⟨#[38, 61]⟩, .bool true]) ∧ w' = w := by
  subst h
  go_enter Eafg.func8, Eafg.ntmps8
  go_wp2
  go_ret2
  exact ⟨rfl, rfl⟩
set_option maxHeartbeats 800000 in
theorem tn28 (a : Int) (h : a = 28) (w : World) : Calls Eafg.prog 8 #[.int .i64 a] w fun e w' => e = .returned (.tuple #[.string ⟨#[124, 61]⟩, .bool true]) ∧ w' = w := by
  subst h
  go_enter Eafg.func8, Eafg.ntmps8
  go_wp2
  go_ret2
  exact ⟨rfl, rfl⟩
set_option maxHeartbeats 800000 in
theorem tn29 (a : Int) (h : a = 29) (w : World) : Calls Eafg.prog 8 #[.int .i64 a] w fun e w' => e = .returned (.tuple #[.string ⟨#[94, 61]⟩, .bool true]) ∧ w' = w := by
  subst h
  go_enter Eafg.func8, Eafg.ntmps8
  go_wp2
  go_ret2
  exact ⟨rfl, rfl⟩
set_option maxHeartbeats 800000 in
theorem tn30 (a : Int) (h : a = 30) (w : World) : Calls Eafg.prog 8 #[.int .i64 a] w fun e w' => e = .returned (.tuple #[.string ⟨#[60, 60, 61]⟩, .bool true]) ∧ w' = w := by
  subst h
  go_enter Eafg.func8, Eafg.ntmps8
  go_wp2
  go_ret2
  exact ⟨rfl, rfl⟩
set_option maxHeartbeats 800000 in
theorem tn31 (a : Int) (h : a = 31) (w : World) : Calls Eafg.prog 8 #[.int .i64 a] w fun e w' => e = .returned (.tuple #[.string ⟨#[62, 62, 61]⟩, .bool true]) ∧ w' = w := by
  subst h
  go_enter Eafg.func8, Eafg.ntmps8
  go_wp2
  go_ret2
  exact ⟨rfl, rfl⟩
set_option maxHeartbeats 800000 in
theorem tn32 (a : Int) (h : a = 32) (w : World) : Calls Eafg.prog 8 #[.int .i64 a] w fun e w' => e = .returned (.tuple #[.string ⟨#[38, 94, 61]⟩, .bool true]) ∧ w' = w := by
  subst h
  go_enter Eafg.func8, Eafg.ntmps8
  go_wp2
  go_ret2
  exact ⟨rfl, rfl⟩
set_option maxHeartbeats 800000 in
theorem tn33 (a : Int) (h : a = 33) (w : World) : Calls Eafg.prog 8 #[.int .i64 a] w fun e w' => e = .returned (.tuple #[.string ⟨#[38, 38]⟩, .bool true]) ∧ w' = w := by
  subst h
  go_enter Eafg.func8, Eafg.ntmps8
  go_wp2
  go_ret2
  exact ⟨rfl, rfl⟩
set_option maxHeartbeats 800000 in
theorem tn34 (a : Int) (h : a = 34) (w : World) : Calls Eafg.prog 8 #[.int .i64 a] w fun e w' => e = .returned (.tuple #[.string ⟨#[124, 124]⟩, .bool true]) ∧ w' = w := by
  subst h
  go_enter Eafg.func8, Eafg.ntmps8
  go_wp2
  go_ret2
  exact ⟨rfl, rfl⟩
set_option maxHeartbeats 800000 in
theorem tn35 (a : Int) (h : a = 35) (w : World) : Calls Eafg.prog 8 #[.int .i64 a] w fun e w' => e = .returned (.tuple #[.string ⟨#[43, 43]⟩, .bool true]) ∧ w' = w := by
  subst h
  go_enter Eafg.func8, Eafg.ntmps8
  go_wp2
  go_ret2
  exact ⟨rfl, rfl⟩
set_option maxHeartbeats 800000 in
theorem tn36 (a : Int) (h : a = 36) (w : World) : Calls Eafg.prog 8 #[.int .i64 a] w fun e w' => e = .returned (.tuple #[.string ⟨#[45, 45]⟩, .bool true]) ∧ w' = w := by
  subst h
  go_enter Eafg.func8, Eafg.ntmps8
  go_wp2
  go_ret2
  exact ⟨rfl, rfl⟩
set_option maxHeartbeats 800000 in
theorem tn37 (a : Int) (h : a = 37) (w : World) : Calls Eafg.prog 8 #[.int .i64 a] w fun e w' => e = .returned (.tuple #[.string ⟨#[61, 61]⟩, .bool true]) ∧ w' = w := by
  subst h
  go_enter Eafg.func8, Eafg.ntmps8
  go_wp2
  go_ret2
  exact ⟨rfl, rfl⟩
set_option maxHeartbeats 800000 in
theorem tn38 (a : Int) (h : a = 38) (w : World) : Calls Eafg.prog 8 #[.int .i64 a] w fun e w' => e = .returned (.tuple #[.string ⟨#[60]⟩, .bool true]) ∧ w' = w := by
  subst h
  go_enter Eafg.func8, Eafg.ntmps8
  go_wp2
  go_ret2
  exact ⟨rfl, rfl⟩
set_option maxHeartbeats 800000 in
theorem tn39 (a : Int) (h : a = 39) (w : World) : Calls Eafg.prog 8 #[.int .i64 a] w fun e w' => e = .returned (.tuple #[.string ⟨#[62]⟩, .bool true]) ∧ w' = w := by
  subst h
  go_enter Eafg.func8, Eafg.ntmps8
  go_wp2
  go_ret2
  exact ⟨rfl, rfl⟩
end Go.Proofs.YoeafwDoor
