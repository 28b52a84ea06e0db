/-
  The proof of 'Rows.FnTokenClassesPartitionSaid': the walk by seven ranges of the token's number, then the frame.
-/
import Derived.Test.YoeafwRows
import Derived.WalkKit
import Derived.ProofKit
import Derived.OpenShut
import Derived.ShutString
namespace Go.Proofs.Yoeafw.fnTokenClassesPartition
open Go.ChangeShapes Go.WideShapes Go.ChangeAt Go.RowKit
open Go.ChangeMaps (open_string shut_string)
set_option linter.unusedVariables false      -- a walk need not use every 'w<i>' (that an integer argument fits its kind)

theorem own : ownKnob Eafg.prog.godebug = none := by kernel_rfl

/-! ### STEP 1: THE WALK: the Go text returns true. 'Grown w w'': the world has at most new blocks (Derived/RowKit3.lean). Part the cases AHEAD of 'go_enter' where a test parts the walk; take each callee by a contract of your own. -/
set_option maxHeartbeats 4000000 in
theorem walk (a0 : Int) (w0 : (Lit.int .i64 a0).wf = true) (w : World) :
    Calls Eafg.prog 4 #[.int .i64 a0] w fun e w' => e = .returned (.bool true) ∧ Grown w w' := by
  have hc : a0 ≤ 3 ∨ (4 ≤ a0 ∧ a0 ≤ 8) ∨ (9 ≤ a0 ∧ a0 ≤ 10) ∨ (11 ≤ a0 ∧ a0 ≤ 57) ∨ (58 ≤ a0 ∧ a0 ≤ 59) ∨ (60 ≤ a0 ∧ a0 ≤ 74) ∨ 75 ≤ a0 := by omega
  rcases hc with h | ⟨h, h'⟩ | ⟨h, h'⟩ | ⟨h, h'⟩ | ⟨h, h'⟩ | ⟨h, h'⟩ | h
  all_goals
    clear w0
    go_enter Eafg.func4, Eafg.ntmps4
    go_wp2
    all_goals (go_ret; refine ⟨?_, Grown.refl _⟩; first | rfl | (simp; omega))

/-! ### THE ROW's STEP: WRITTEN OUT: LEAVE IT -/
set_option maxRecDepth 100000 in
theorem lifted (os : Os) (started : os.Started) (H : Type) (enc : TypeId × Value → H) :
    ReturnsInHanded {} Eafg.checked os 4 .any (Rows.fnTokenClassesPartitionSpec.pre6 enc Eafg.prog Eafg.f4 Rows.fnTokenClassesPartitionRow.domain false) (Rows.fnTokenClassesPartitionSpec.post enc Eafg.prog Eafg.f4 false true false false) := by
  refine returnsInHanded_of_change (C := Eafg.checked) own started (by kernel_rfl) Eafg.func4
    (ChangeSpec.witness6 (enc := enc) (C := Eafg.checked) false ⟨#[], #[.int .i64 0], []⟩ 8 (by kernel_rfl) (by kernel_rfl) (by kernel_rfl) (by kernel_rfl)) ?_
  intro W base args ds gs before hval0 hW hcnd _
  have hval : ∀ (j : Nat) t v, Eafg.f4.params[j]? = some t → args[j]? = some v → Value.okWide Eafg.prog W .any base t v := hval0
  have hW' := hW
  obtain ⟨p, q, hA0, hV, rfl, hfz, hnd⟩ := hW
  have hA : DataW.TrodAll enc Eafg.prog W 0 (fun _ => true) true Eafg.f4.params.toList args.toList ds p := hA0
  rw [Eafg.params4] at hA hval
  obtain ⟨v0, vs0, d0, ds0, p0, q0, hargs, rfl, rfl, h0, r0⟩ := trodAll_cons hA
  obtain ⟨rfl, rfl, rfl⟩ := trodAll_nil r0
  obtain rfl : args = #[v0] := by cases args; simp_all
  obtain ⟨rfl, rfl⟩ := trodVars_none hV
  obtain ⟨a0, rfl, rfl, rfl, w0⟩ := open_int Eafg.underlying3 (hval 0 3 v0 rfl rfl) h0
  clear hA0 hval0
  simp only [List.append_nil] at hW'
  refine (walk a0 w0 W).mono fun e W' ⟨he, hg⟩ => ?_
  subst he
  exact ⟨_, rfl, post_of_same (pa := []) (pv := []) hW' (fun _ _ _ => (trodAll_cons_mk (shut_bool Eafg.underlying4 _) trodAll_mk0)) (fun sp _ => (trodAll_cons_mk (shut_int Eafg.underlying3 w0) trodAll_mk0)) (fun _ _ => rfl) rfl
    (hg.frame _) hg.2.1 (ok_one (by kernel_rfl) rfl (okWide_bool_mk Eafg.underlying4 _))⟩

theorem over : Rows.fnTokenClassesPartitionRow.holds Eafg.pinned (OpenSpec.ofChange Rows.fnTokenClassesPartitionSpec) :=
  OpenClaim.holds_of_wide 4 Eafg.f4 rfl rfl rfl rfl rfl rfl rfl ⟨rfl, rfl, rfl, rfl, rfl⟩ rfl rfl rfl rfl rfl (by kernel_rfl) Eafg.func4 (by kernel_rfl)
    (of_decide_eq_true (by kernel_rfl)) (by unfold Func.isWrapper; first | (rw [if_pos (by decide +kernel)]; kernel_rfl) | (rw [if_neg (by decide +kernel)]; exact ⟨rfl, rfl⟩))
    (fun os started H enc _ => lifted os started H enc)

/-- ████ THE STATEMENT ████ -/
theorem proved : Rows.FnTokenClassesPartitionSaid :=
  over
end Go.Proofs.Yoeafw.fnTokenClassesPartition
