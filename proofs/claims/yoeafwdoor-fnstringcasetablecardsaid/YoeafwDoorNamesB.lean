/-
  zzTokenName at the numbers 40 to 74, one by one, and beyond the table.
-/
import Derived.Test.YoeafwDoorString
namespace Go.Proofs.YoeafwDoor
open Go.ChangeShapes Go.WideShapes Go.ChangeAt Go.RowKit
set_option maxRecDepth 100000

set_option maxHeartbeats 800000 in
theorem tn40 (a : Int) (h : a = 40) (w : World) : Calls Eafg.prog 8 #[.int .i64 a] w fun e w' => e = .returned (.tuple #[.string ⟨#[61]⟩, .bool true]) ∧ w' = w := by
  subst h
  go_enter Eafg.func8, Eafg.ntmps8
  go_wp2
  go_ret2
  exact ⟨rfl, rfl⟩
set_option maxHeartbeats 800000 in
theorem tn41 (a : Int) (h : a = 41) (w : World) : Calls Eafg.prog 8 #[.int .i64 a] w fun e w' => e = .returned (.tuple #[.string ⟨#[33]⟩, .bool true]) ∧ w' = w := by
  subst h
  go_enter Eafg.func8, Eafg.ntmps8
  go_wp2
  go_ret2
  exact ⟨rfl, rfl⟩
set_option maxHeartbeats 800000 in
theorem tn42 (a : Int) (h : a = 42) (w : World) : Calls Eafg.prog 8 #[.int .i64 a] w fun e w' => e = .returned (.tuple #[.string ⟨#[33, 61]⟩, .bool true]) ∧ w' = w := by
  subst h
  go_enter Eafg.func8, Eafg.ntmps8
  go_wp2
  go_ret2
  exact ⟨rfl, rfl⟩
set_option maxHeartbeats 800000 in
theorem tn43 (a : Int) (h : a = 43) (w : World) : Calls Eafg.prog 8 #[.int .i64 a] w fun e w' => e = .returned (.tuple #[.string ⟨#[60, 61]⟩, .bool true]) ∧ w' = w := by
  subst h
  go_enter Eafg.func8, Eafg.ntmps8
  go_wp2
  go_ret2
  exact ⟨rfl, rfl⟩
set_option maxHeartbeats 800000 in
theorem tn44 (a : Int) (h : a = 44) (w : World) : Calls Eafg.prog 8 #[.int .i64 a] w fun e w' => e = .returned (.tuple #[.string ⟨#[62, 61]⟩, .bool true]) ∧ w' = w := by
  subst h
  go_enter Eafg.func8, Eafg.ntmps8
  go_wp2
  go_ret2
  exact ⟨rfl, rfl⟩
set_option maxHeartbeats 800000 in
theorem tn45 (a : Int) (h : a = 45) (w : World) : Calls Eafg.prog 8 #[.int .i64 a] w fun e w' => e = .returned (.tuple #[.string ⟨#[58, 61]⟩, .bool true]) ∧ w' = w := by
  subst h
  go_enter Eafg.func8, Eafg.ntmps8
  go_wp2
  go_ret2
  exact ⟨rfl, rfl⟩
set_option maxHeartbeats 800000 in
theorem tn46 (a : Int) (h : a = 46) (w : World) : Calls Eafg.prog 8 #[.int .i64 a] w fun e w' => e = .returned (.tuple #[.string ⟨#[46, 46, 46]⟩, .bool true]) ∧ w' = w := by
  subst h
  go_enter Eafg.func8, Eafg.ntmps8
  go_wp2
  go_ret2
  exact ⟨rfl, rfl⟩
set_option maxHeartbeats 800000 in
theorem tn47 (a : Int) (h : a = 47) (w : World) : Calls Eafg.prog 8 #[.int .i64 a] w fun e w' => e = .returned (.tuple #[.string ⟨#[40]⟩, .bool true]) ∧ w' = w := by
  subst h
  go_enter Eafg.func8, Eafg.ntmps8
  go_wp2
  go_ret2
  exact ⟨rfl, rfl⟩
set_option maxHeartbeats 800000 in
theorem tn48 (a : Int) (h : a = 48) (w : World) : Calls Eafg.prog 8 #[.int .i64 a] w fun e w' => e = .returned (.tuple #[.string ⟨#[91]⟩, .bool true]) ∧ w' = w := by
  subst h
  go_enter Eafg.func8, Eafg.ntmps8
  go_wp2
  go_ret2
  exact ⟨rfl, rfl⟩
set_option maxHeartbeats 800000 in
theorem tn49 (a : Int) (h : a = 49) (w : World) : Calls Eafg.prog 8 #[.int .i64 a] w fun e w' => e = .returned (.tuple #[.string ⟨#[123]⟩, .bool true]) ∧ w' = w := by
  subst h
  go_enter Eafg.func8, Eafg.ntmps8
  go_wp2
  go_ret2
  exact ⟨rfl, rfl⟩
set_option maxHeartbeats 800000 in
theorem tn50 (a : Int) (h : a = 50) (w : World) : Calls Eafg.prog 8 #[.int .i64 a] w fun e w' => e = .returned (.tuple #[.string ⟨#[44]⟩, .bool true]) ∧ w' = w := by
  subst h
  go_enter Eafg.func8, Eafg.ntmps8
  go_wp2
  go_ret2
  exact ⟨rfl, rfl⟩
set_option maxHeartbeats 800000 in
theorem tn51 (a : Int) (h : a = 51) (w : World) : Calls Eafg.prog 8 #[.int .i64 a] w fun e w' => e = .returned (.tuple #[.string ⟨#[46]⟩, .bool true]) ∧ w' = w := by
  subst h
  go_enter Eafg.func8, Eafg.ntmps8
  go_wp2
  go_ret2
  exact ⟨rfl, rfl⟩
set_option maxHeartbeats 800000 in
theorem tn52 (a : Int) (h : a = 52) (w : World) : Calls Eafg.prog 8 #[.int .i64 a] w fun e w' => e = .returned (.tuple #[.string ⟨#[41]⟩, .bool true]) ∧ w' = w := by
  subst h
  go_enter Eafg.func8, Eafg.ntmps8
  go_wp2
  go_ret2
  exact ⟨rfl, rfl⟩
set_option maxHeartbeats 800000 in
theorem tn53 (a : Int) (h : a = 53) (w : World) : Calls Eafg.prog 8 #[.int .i64 a] w fun e w' => e = .returned (.tuple #[.string ⟨#[93]⟩, .bool true]) ∧ w' = w := by
  subst h
  go_enter Eafg.func8, Eafg.ntmps8
  go_wp2
  go_ret2
  exact ⟨rfl, rfl⟩
set_option maxHeartbeats 800000 in
theorem tn54 (a : Int) (h : a = 54) (w : World) : Calls Eafg.prog 8 #[.int .i64 a] w fun e w' => e = .returned (.tuple #[.string ⟨#[125]⟩, .bool true]) ∧ w' = w := by
  subst h
  go_enter Eafg.func8, Eafg.ntmps8
  go_wp2
  go_ret2
  exact ⟨rfl, rfl⟩
set_option maxHeartbeats 800000 in
theorem tn55 (a : Int) (h : a = 55) (w : World) : Calls Eafg.prog 8 #[.int .i64 a] w fun e w' => e = .returned (.tuple #[.string ⟨#[59]⟩, .bool true]) ∧ w' = w := by
  subst h
  go_enter Eafg.func8, Eafg.ntmps8
  go_wp2
  go_ret2
  exact ⟨rfl, rfl⟩
set_option maxHeartbeats 800000 in
theorem tn56 (a : Int) (h : a = 56) (w : World) : Calls Eafg.prog 8 #[.int .i64 a] w fun e w' => e = .returned (.tuple #[.string ⟨#[58]⟩, .bool true]) ∧ w' = w := by
  subst h
  go_enter Eafg.func8, Eafg.ntmps8
  go_wp2
  go_ret2
  exact ⟨rfl, rfl⟩
set_option maxHeartbeats 800000 in
theorem tn57 (a : Int) (h : a = 57) (w : World) : Calls Eafg.prog 8 #[.int .i64 a] w fun e w' => e = .returned (.tuple #[.string ⟨#[63]⟩, .bool true]) ∧ w' = w := by
  subst h
  go_enter Eafg.func8, Eafg.ntmps8
  go_wp2
  go_ret2
  exact ⟨rfl, rfl⟩
set_option maxHeartbeats 800000 in
theorem tn58 (a : Int) (h : a = 58) (w : World) : Calls Eafg.prog 8 #[.int .i64 a] w fun e w' => e = .returned (.tuple #[.string ⟨#[]⟩, .bool false]) ∧ w' = w := by
  subst h
  go_enter Eafg.func8, Eafg.ntmps8
  go_wp2
  go_ret2
  exact ⟨rfl, rfl⟩
set_option maxHeartbeats 800000 in
theorem tn59 (a : Int) (h : a = 59) (w : World) : Calls Eafg.prog 8 #[.int .i64 a] w fun e w' => e = .returned (.tuple #[.string ⟨#[]⟩, .bool false]) ∧ w' = w := by
  subst h
  go_enter Eafg.func8, Eafg.ntmps8
  go_wp2
  go_ret2
  exact ⟨rfl, rfl⟩
set_option maxHeartbeats 800000 in
theorem tn60 (a : Int) (h : a = 60) (w : World) : Calls Eafg.prog 8 #[.int .i64 a] w fun e w' => e = .returned (.tuple #[.string ⟨#[98, 114, 101, 97, 107]⟩, .bool true]) ∧ w' = w := by
  subst h
  go_enter Eafg.func8, Eafg.ntmps8
  go_wp2
  go_ret2
  exact ⟨rfl, rfl⟩
set_option maxHeartbeats 800000 in
theorem tn61 (a : Int) (h : a = 61) (w : World) : Calls Eafg.prog 8 #[.int .i64 a] w fun e w' => e = .returned (.tuple #[.string ⟨#[99, 111, 110, 116, 105, 110, 117, 101]⟩, .bool true]) ∧ w' = w := by
  subst h
  go_enter Eafg.func8, Eafg.ntmps8
  go_wp2
  go_ret2
  exact ⟨rfl, rfl⟩
set_option maxHeartbeats 800000 in
theorem tn62 (a : Int) (h : a = 62) (w : World) : Calls Eafg.prog 8 #[.int .i64 a] w fun e w' => e = .returned (.tuple #[.string ⟨#[101, 108, 115, 101]⟩, .bool true]) ∧ w' = w := by
  subst h
  go_enter Eafg.func8, Eafg.ntmps8
  go_wp2
  go_ret2
  exact ⟨rfl, rfl⟩
set_option maxHeartbeats 800000 in
theorem tn63 (a : Int) (h : a = 63) (w : World) : Calls Eafg.prog 8 #[.int .i64 a] w fun e w' => e = .returned (.tuple #[.string ⟨#[102, 111, 114]⟩, .bool true]) ∧ w' = w := by
  subst h
  go_enter Eafg.func8, Eafg.ntmps8
  go_wp2
  go_ret2
  exact ⟨rfl, rfl⟩
set_option maxHeartbeats 800000 in
theorem tn64 (a : Int) (h : a = 64) (w : World) : Calls Eafg.prog 8 #[.int .i64 a] w fun e w' => e = .returned (.tuple #[.string ⟨#[102, 117, 110, 99]⟩, .bool true]) ∧ w' = w := by
  subst h
  go_enter Eafg.func8, Eafg.ntmps8
  go_wp2
  go_ret2
  exact ⟨rfl, rfl⟩
set_option maxHeartbeats 800000 in
theorem tn65 (a : Int) (h : a = 65) (w : World) : Calls Eafg.prog 8 #[.int .i64 a] w fun e w' => e = .returned (.tuple #[.string ⟨#[101, 114, 114, 111, 114]⟩, .bool true]) ∧ w' = w := by
  subst h
  go_enter Eafg.func8, Eafg.ntmps8
  go_wp2
  go_ret2
  exact ⟨rfl, rfl⟩
set_option maxHeartbeats 800000 in
theorem tn66 (a : Int) (h : a = 66) (w : World) : Calls Eafg.prog 8 #[.int .i64 a] w fun e w' => e = .returned (.tuple #[.string ⟨#[105, 109, 109, 117, 116, 97, 98, 108, 101]⟩, .bool true]) ∧ w' = w := by
  subst h
  go_enter Eafg.func8, Eafg.ntmps8
  go_wp2
  go_ret2
  exact ⟨rfl, rfl⟩
set_option maxHeartbeats 800000 in
theorem tn67 (a : Int) (h : a = 67) (w : World) : Calls Eafg.prog 8 #[.int .i64 a] w fun e w' => e = .returned (.tuple #[.string ⟨#[105, 102]⟩, .bool true]) ∧ w' = w := by
  subst h
  go_enter Eafg.func8, Eafg.ntmps8
  go_wp2
  go_ret2
  exact ⟨rfl, rfl⟩
set_option maxHeartbeats 800000 in
theorem tn68 (a : Int) (h : a = 68) (w : World) : Calls Eafg.prog 8 #[.int .i64 a] w fun e w' => e = .returned (.tuple #[.string ⟨#[114, 101, 116, 117, 114, 110]⟩, .bool true]) ∧ w' = w := by
  subst h
  go_enter Eafg.func8, Eafg.ntmps8
  go_wp2
  go_ret2
  exact ⟨rfl, rfl⟩
set_option maxHeartbeats 800000 in
theorem tn69 (a : Int) (h : a = 69) (w : World) : Calls Eafg.prog 8 #[.int .i64 a] w fun e w' => e = .returned (.tuple #[.string ⟨#[101, 120, 112, 111, 114, 116]⟩, .bool true]) ∧ w' = w := by
  subst h
  go_enter Eafg.func8, Eafg.ntmps8
  go_wp2
  go_ret2
  exact ⟨rfl, rfl⟩
set_option maxHeartbeats 800000 in
theorem tn70 (a : Int) (h : a = 70) (w : World) : Calls Eafg.prog 8 #[.int .i64 a] w fun e w' => e = .returned (.tuple #[.string ⟨#[116, 114, 117, 101]⟩, .bool true]) ∧ w' = w := by
  subst h
  go_enter Eafg.func8, Eafg.ntmps8
  go_wp2
  go_ret2
  exact ⟨rfl, rfl⟩
set_option maxHeartbeats 800000 in
theorem tn71 (a : Int) (h : a = 71) (w : World) : Calls Eafg.prog 8 #[.int .i64 a] w fun e w' => e = .returned (.tuple #[.string ⟨#[102, 97, 108, 115, 101]⟩, .bool true]) ∧ w' = w := by
  subst h
  go_enter Eafg.func8, Eafg.ntmps8
  go_wp2
  go_ret2
  exact ⟨rfl, rfl⟩
set_option maxHeartbeats 800000 in
theorem tn72 (a : Int) (h : a = 72) (w : World) : Calls Eafg.prog 8 #[.int .i64 a] w fun e w' => e = .returned (.tuple #[.string ⟨#[105, 110]⟩, .bool true]) ∧ w' = w := by
  subst h
  go_enter Eafg.func8, Eafg.ntmps8
  go_wp2
  go_ret2
  exact ⟨rfl, rfl⟩
set_option maxHeartbeats 800000 in
theorem tn73 (a : Int) (h : a = 73) (w : World) : Calls Eafg.prog 8 #[.int .i64 a] w fun e w' => e = .returned (.tuple #[.string ⟨#[117, 110, 100, 101, 102, 105, 110, 101, 100]⟩, .bool true]) ∧ w' = w := by
  subst h
  go_enter Eafg.func8, Eafg.ntmps8
  go_wp2
  go_ret2
  exact ⟨rfl, rfl⟩
set_option maxHeartbeats 800000 in
theorem tn74 (a : Int) (h : a = 74) (w : World) : Calls Eafg.prog 8 #[.int .i64 a] w fun e w' => e = .returned (.tuple #[.string ⟨#[105, 109, 112, 111, 114, 116]⟩, .bool true]) ∧ w' = w := by
  subst h
  go_enter Eafg.func8, Eafg.ntmps8
  go_wp2
  go_ret2
  exact ⟨rfl, rfl⟩
set_option maxHeartbeats 800000 in
theorem tn_low (a : Int) (h : a < 0) (w : World) : Calls Eafg.prog 8 #[.int .i64 a] w fun e w' => e = .returned (.tuple #[.string ⟨#[]⟩, .bool false]) ∧ w' = w := by
  go_enter Eafg.func8, Eafg.ntmps8
  go_wp2
  go_ret2
  exact ⟨rfl, rfl⟩
set_option maxHeartbeats 800000 in
theorem tn_high (a : Int) (h : 75 ≤ a) (w : World) : Calls Eafg.prog 8 #[.int .i64 a] w fun e w' => e = .returned (.tuple #[.string ⟨#[]⟩, .bool false]) ∧ w' = w := by
  go_enter Eafg.func8, Eafg.ntmps8
  go_wp2
  go_ret2
  exact ⟨rfl, rfl⟩
end Go.Proofs.YoeafwDoor
