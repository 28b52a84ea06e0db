/-
  What the rows' condition on the listed variables gives the walks: the table of strconv's, the tokens' cells; the start that meets it.
-/
import Derived.Test.YoeafwDoorRows
import Derived.WalkKit
import Derived.ProofKit
import Derived.LaidMore
import Derived.OpenShut
import Derived.OpenVars
import Derived.Stop.Joined
import Derived.Lib.LaidTab
import Derived.Lib.ItoaNum
import Derived.Test.YoeafwDoorPlain
namespace Go.Proofs.YoeafwDoor
open Go.ChangeShapes Go.WideShapes Go.ChangeAt Go.RowKit

theorem own : ownKnob Eafg.prog.godebug = none := by kernel_rfl
theorem laidOut : laidOutB Eafg.prog = true := by kernel_rfl

/-- The list of the five rows: one and the same. -/
def laid4 : List (String × DataW Unit) := Rows.fnStringCaseTableRow.laid
/-- The table of powers: its name is the second of 'named'. -/
def powName : String := Rows.fnStringCaseTableRow.named.getD 1 ""
/-- The tokens' variable: its name is the first of 'named'. -/
def tokName : String := Rows.fnStringCaseTableRow.named.getD 0 ""

theorem gPow : Eafg.prog.globalNamed powName = some 1 := by kernel_rfl
theorem gTok : Eafg.prog.globalNamed tokName = some 0 := by kernel_rfl
theorem tPow : (Eafg.prog.globals[1]?).map (·.type) = some 44 := by kernel_rfl
theorem tTok : (Eafg.prog.globals[0]?).map (·.type) = some 36 := by kernel_rfl
theorem cells36 : Eafg.prog.cellsOf 36 = 75 := by kernel_rfl
theorem cells44 : Eafg.prog.cellsOf 44 = 20 := by kernel_rfl
theorem cells9 : Eafg.prog.cellsOf 9 = 1 := by kernel_rfl
theorem cells33 : Eafg.prog.cellsOf 33 = 1 := by kernel_rfl
theorem powData : (Rows.laid_internal_strconv_uint64pow10 : DataW Unit) = Lib.tabData .u64 Lib.pow10Tab := by kernel_rfl
theorem tokData : (Rows.laid_github_com_d5_tengo_v2_token_tokens : DataW Unit) = .agg (names.map fun l => .lit (.string l)) := by kernel_rfl

/-- An array of strings that reads as such a list holds these strings, cell for cell. -/
theorem cells_of_strs {H : Type} {enc : TypeId × Value → H} {P : Program} {w : World} {base : Nat} {sp : Nat → Bool} {held : Bool} {fuel : Nat} {t e : TypeId} {n : Nat} {cs : List Value} {ls : List (List UInt8)} {p : List MemPlace}
    (ht : P.underlying t = some (.array n e)) (he : P.underlying e = some .string) (hce : P.cellsOf e = 1) (hct : P.cellsOf t = n)
    (h : DataW.trod enc P w base sp held fuel t cs = some (.agg (ls.map fun l => .lit (.string l)), p)) : cs = ls.map fun l => Value.string ⟨l.toArray⟩ := by
  cases fuel with
  | zero => simp [DataW.trod] at h
  | succ fuel =>
    simp only [DataW.trod, ht, hce, hct, Nat.mul_one] at h
    split at h
    · rename_i hl
      obtain ⟨xs, hm, hx⟩ := Option.map_eq_some_iff.1 h
      have hxs : xs.map (·.1) = ls.map fun l => (DataW.lit (.string l) : DataW H) := by
        have := congrArg Prod.fst hx
        simpa using this
      have hxl : xs.length = n := by simpa using Lib.mapM_length hm
      have hzl : ls.length = n := by
        have := congrArg List.length hxs
        simp at this
        omega
      apply List.ext_getElem?
      intro i
      by_cases hi : i < n
      · obtain ⟨b, hb, hf⟩ := Lib.mapM_at hm i i (by simp [hi])
        obtain ⟨s, hc, rfl, _⟩ := DataW.trod_string he hf
        have h1 : cs[i]? = some (.string s) := by
          have := congrArg (·[0]?) hc
          simpa [List.getElem?_take, List.getElem?_drop] using this
        have h2 : (xs.map (·.1))[i]? = some (DataW.lit (.string s.data.toList) : DataW H) := by simp [hb]
        rw [hxs] at h2
        simp only [List.getElem?_map, Option.map_eq_some_iff, DataW.lit.injEq, Lit.string.injEq] at h2
        obtain ⟨l, hz', rfl⟩ := h2
        simp [h1, hz']
      · rw [List.getElem?_eq_none (by omega), List.getElem?_eq_none (by simp; omega)]
    · cases h

/-- WHAT THE WALKS ASK OF THE WORLD: strconv's table, and the tokens' cells. -/
structure Laid (W : World) : Prop where
  pow : Lib.TabIs Eafg.prog W powName .u64 Lib.pow10Tab
  tok : ∀ i : Nat, i < 75 → W.cell? ⟨0, i, none⟩ = some (.string ⟨(names.getD i []).toArray⟩)

/-- The door's own heap meets the condition. -/
theorem door_met (os : Os) (args : Array Value) : laidMetH Eafg.prog laid4 ((World.doorLaid Eafg.prog 400 os).forCall (fun _ _ => 0) ⟨#[], args, []⟩).memory :=
  laidMetH_of_parts3 (fuel := 8) (laidMet_of_run' 8 (by kernel_rfl) (by kernel_rfl)) (by kernel_rfl) (by kernel_rfl)

theorem of_laid {W : World} (h : laidMetH Eafg.prog laid4 W) : Laid W := by
  rw [MakeChecks.laidMetH_plain _ _ _ (by kernel_rfl)] at h
  obtain ⟨ps, ⟨_, _, _, _, _, _, _, _, _, _, ⟨_, _, _, _, _, _, _, _, _, _, ⟨g2, t2, cs2, f2, p2, q2, hg2, ht2, hv2, hd2, ⟨g3, t3, cs3, f3, p3, q3, hg3, ht3, hv3, hd3, _, _⟩, _⟩, _⟩, _⟩, _, _⟩ := h
  obtain rfl := Option.some.inj (gPow.symm.trans hg2)
  obtain rfl := Option.some.inj (gTok.symm.trans hg3)
  obtain rfl := Option.some.inj (tPow.symm.trans ht2)
  obtain rfl := Option.some.inj (tTok.symm.trans ht3)
  rw [powData] at hd2
  rw [tokData] at hd3
  have e2 := Lib.cells_of_tab Eafg.underlying44 Eafg.underlying33 cells33 cells44 hd2
  have e3 := cells_of_strs Eafg.underlying36 Eafg.underlying9 cells9 cells36 hd3
  refine ⟨?_, fun i hi => ?_⟩
  · unfold Lib.TabIs
    rw [← e2]
    exact hv2
  · have := World.var?_cell gTok hv3 i
    rw [this, ← Array.getElem?_toList, e3]
    simp [names_length, hi]
end Go.Proofs.YoeafwDoor
