/-
  The contract of zzItoa: the decimal numeral, for every int: 'Lib.itoa', the same function as strconv.Itoa's contract speaks of.
-/
import Derived.Test.YoeafwDoorString
import Derived.Lib.ItoaMem
namespace Go.Proofs.YoeafwDoor
open Go.ChangeShapes Go.WideShapes Go.ChangeAt Go.RowKit

/-- THE BUFFER's STATE: in the world w' the call's own block of 24 bytes (its number: w's heap's size) holds zeros below j and the bytes ds from j on. -/
structure Buf (w w' : World) (j : Nat) (ds : List UInt8) : Prop where
  below : Below w.heap.size w w'
  lo : ∀ p, p < j → w'.cell? ⟨w.heap.size, p, none⟩ = some (.int .u8 0)
  fr : ∀ p, w'.frozen? ⟨w.heap.size, p, none⟩ = false
  hi : ∀ t (h : t < ds.length), w'.cell? ⟨w.heap.size, j + t, none⟩ = some (.int .u8 (ds[t].toNat : Int))
  len : j + ds.length = 24

theorem Buf.start (w : World) (T : TypeId) : Buf w (w.alloc (.cells Lib.zeros24 T)) 24 [] where
  below := (Below.refl _ _).alloc (Nat.le_refl _) _
  lo p hp := by rw [World.cell?_alloc_new, Lib.zeros24_at _ hp]
  fr p := World.frozen?_alloc_new _ _ _ _
  hi t h := by simp at h
  len := rfl

theorem Buf.put {w w' : World} {j : Nat} {ds : List UInt8} (h : Buf w w' (j + 1) ds) (c : UInt8) (n : Int) (hn : n = (c.toNat : Int)) : Buf w (w'.setCell ⟨w.heap.size, j, none⟩ (.int .u8 n)) j (c :: ds) where
  below := h.below.setCell (Nat.le_refl _) _
  lo p hp := by
    rw [World.cell?_setCell_other _ _ _ _ (by simp only [ne_eq, Addr.mk.injEq, true_and, and_true]; omega)]
    exact h.lo p (by omega)
  fr p := by rw [World.frozen?_setCell]; exact h.fr p
  hi t ht := by
    subst hn
    cases t with
    | zero => exact World.cell?_setCell_same _ _ _ (h.lo j (by omega))
    | succ t =>
      rw [World.cell?_setCell_other _ _ _ _ (by simp), show j + (t + 1) = j + 1 + t by omega]
      simpa using h.hi t (by simpa using ht)
  len := by have := h.len; simp; omega

/-- 'buf[i:]'. -/
theorem run_tail (N j : Nat) (hj : j < 24) (W : World) :
    (Instr.sliceAt 34 (.pointer (some ⟨N, 0, none⟩)) (some (.int .i64 (j : Int))) none none).run Eafg.prog W = .ok (.slice (some ⟨N, j, none⟩) (24 - j) (24 - j)) W := by
  have hal : Eafg.prog.arrayLen 34 = 24 := by kernel_rfl
  rw [run_sliceAt_array_l W 34 ⟨N, 0, none⟩ (by simp [Program.arrayLen, Program.elem, Eafg.underlying34]) .i64 (j : Int) (by omega) (by rw [hal]; omega)]
  go_simp
  omega

/-- 'string(buf[i:])'. -/
theorem run_text {w w' : World} {j : Nat} {ds : List UInt8} (h : Buf w w' j ds) :
    (convert 35 9 (.slice (some ⟨w.heap.size, j, none⟩) (24 - j) (24 - j))).run Eafg.prog w' = .ok (.string ⟨ds.toArray⟩) w' := by
  have hl := run_convert_bytes_back (P := Eafg.prog) w' 35 9 5 ⟨w.heap.size, j, none⟩ (24 - j) ds Eafg.underlying35 Eafg.underlying5 Eafg.underlying9 (fun t ht => by
    rw [Lib.add_plain]
    exact h.hi t ht)
  rw [show ds.length = 24 - j by have := h.len; omega] at hl
  exact hl

theorem digits_len {U v : Nat} {ds : List UInt8} (hU : U < 18446744073709551616) (h : Lib.decDigits U = Lib.decDigits v ++ ds) : ds.length ≤ 19 := by
  have h1 := congrArg List.length h
  rw [List.length_append, Lib.decDigits_length, Lib.decDigits_length] at h1
  have h2 := Lib.nDigits_pos v
  have h3 : Lib.nDigits U ≤ 20 := by
    by_cases h0 : 1 ≤ U
    · have := Lib.numDigits_eq U h0 hU
      split at this <;> omega
    · rw [Lib.nDigits_small (by omega)]
      omega
  omega
theorem digits_more {U v : Nat} {ds : List UInt8} (h : Lib.decDigits U = Lib.decDigits v ++ ds) (hv : ¬ v < 10) : Lib.decDigits U = Lib.decDigits (v / 10) ++ (UInt8.ofNat (48 + v % 10) :: ds) := by
  rw [h, Lib.decDigits, dif_neg hv]
  simp
theorem digits_last {U v : Nat} {ds : List UInt8} (h : Lib.decDigits U = Lib.decDigits v ++ ds) (hv : v < 10) : Lib.decDigits U = UInt8.ofNat (48 + v % 10) :: ds := by
  rw [h, Lib.decDigits, dif_pos hv, Nat.mod_eq_of_lt hv]
  rfl
theorem byte_nat (v : Nat) : (48 + (v : Int) % 10) = ((UInt8.ofNat (48 + v % 10)).toNat : Int) := by
  rw [digit_nat (v % 10) (by omega)]
  omega

set_option maxRecDepth 100000 in
set_option maxHeartbeats 1600000 in
theorem itoa_pos (u : Nat) (w : World) (h1 : (u : Int) ≤ 9223372036854775807) :
    Calls Eafg.prog 9 #[.int .i64 (u : Int)] w fun e w' => e = .returned (.string ⟨(Lib.itoa (u : Int)).toArray⟩) ∧ Below w.heap.size w w' := by
  have HB : Hid (Buf w (w.alloc (.cells Lib.zeros24 34)) 24 []) := Buf.start w 34
  go_enter Eafg.func9, Eafg.ntmps9
  go_wp2_with fail
  go_loopw [4, 6] (fun vu vi wr => ∃ (v j : Nat) (ds : List UInt8), vu = .int .u64 v ∧ vi = .int .i64 j ∧ v ≤ u ∧ Hid (Buf w wr j ds) ∧ Hid (Lib.decDigits u = Lib.decDigits v ++ ds)) (fun _ vi _ => (intOf vi).toNat)
  case atStart => exact ⟨u, 24, [], rfl, rfl, Nat.le_refl _, HB, by show Lib.decDigits u = _; simp⟩
  case round =>
    clear HB
    obtain ⟨v, j, ds, rfl, rfl, hv, HB, HD⟩ := hrel
    have hlen := digits_len (by omega) HD.out
    have hj := HB.out.len
    obtain ⟨j, rfl⟩ : ∃ i, j = i + 1 := ⟨j - 1, by omega⟩
    have hc := HB.out.lo j (by omega)
    have hf := HB.out.fr j
    have hj4 : 4 ≤ j := by omega
    have hj23 : j ≤ 23 := by omega
    clear hj hlen
    by_cases hlt : v < 10
    · have hsl := run_tail w.heap.size j (by omega)
      obtain ⟨l, HL, HB1⟩ : ∃ l : List UInt8, Hid (Lib.decDigits u = l) ∧ Hid (Buf w (wr.setCell ⟨w.heap.size, j, none⟩ (.int .u8 (48 + (v : Int) % 10))) j l) :=
        ⟨_, digits_last HD.out hlt, HB.out.put _ _ (byte_nat v)⟩
      have hcv := run_text HB1.out
      go_wp2
      go_ret
      refine ⟨?_, HB1.out.below⟩
      rw [Lib.itoa_nonneg, HL.out]
      rfl
    · go_wp2
      refine ⟨⟨v / 10, j, _, by go_num, rfl, by omega, HB.out.put _ _ (byte_nat v), digits_more HD.out hlt⟩, ?_⟩
      simp [intOf]

set_option maxRecDepth 100000 in
set_option maxHeartbeats 1600000 in
theorem itoa_neg (u : Nat) (w : World) (h0 : 1 ≤ u) (h1 : (u : Int) ≤ 9223372036854775808) :
    Calls Eafg.prog 9 #[.int .i64 (-(u : Int))] w fun e w' => e = .returned (.string ⟨(Lib.itoa (-(u : Int))).toArray⟩) ∧ Below w.heap.size w w' := by
  have HB : Hid (Buf w (w.alloc (.cells Lib.zeros24 34)) 24 []) := Buf.start w 34
  go_enter Eafg.func9, Eafg.ntmps9
  go_wp2_with fail
  go_loopw [4, 6] (fun vu vi wr => ∃ (v j : Nat) (ds : List UInt8), vu = .int .u64 v ∧ vi = .int .i64 j ∧ v ≤ u ∧ Hid (Buf w wr j ds) ∧ Hid (Lib.decDigits u = Lib.decDigits v ++ ds)) (fun _ vi _ => (intOf vi).toNat)
  case atStart => exact ⟨u, 24, [], congrArg (Value.int .u64) (by omega), rfl, Nat.le_refl _, HB, by show Lib.decDigits u = _; simp⟩
  case round =>
    clear HB
    obtain ⟨v, j, ds, rfl, rfl, hv, HB, HD⟩ := hrel
    have hlen := digits_len (by omega) HD.out
    have hj := HB.out.len
    obtain ⟨j, rfl⟩ : ∃ i, j = i + 1 + 1 := ⟨j - 2, by omega⟩
    have hc := HB.out.lo (j + 1) (by omega)
    have hf := HB.out.fr (j + 1)
    have hc' := HB.out.lo j (by omega)
    have hf' := HB.out.fr j
    have hj3 : 3 ≤ j := by omega
    have hj22 : j ≤ 22 := by omega
    clear hj hlen
    by_cases hlt : v < 10
    · have hsl := run_tail w.heap.size j (by omega)
      obtain ⟨l, HL, HB1⟩ : ∃ l : List UInt8, Hid (Lib.decDigits u = l) ∧ Hid (Buf w (wr.setCell ⟨w.heap.size, j + 1, none⟩ (.int .u8 (48 + (v : Int) % 10))) (j + 1) l) :=
        ⟨_, digits_last HD.out hlt, HB.out.put _ _ (byte_nat v)⟩
      have HB2 : Hid (Buf w ((wr.setCell ⟨w.heap.size, j + 1, none⟩ (.int .u8 (48 + (v : Int) % 10))).setCell ⟨w.heap.size, j, none⟩ (.int .u8 45)) j (45 :: l)) := HB1.out.put 45 45 rfl
      have hcv := run_text HB2.out
      go_wp2
      go_ret
      refine ⟨?_, HB2.out.below⟩
      rw [Lib.itoa_neg u h0, HL.out]
      rfl
    · go_wp2
      refine ⟨⟨v / 10, j + 1, _, by go_num, rfl, by omega, HB.out.put _ _ (byte_nat v), digits_more HD.out hlt⟩, ?_⟩
      simp [intOf]
      omega

/-- THE CONTRACT OF zzItoa. -/
theorem itoa_any (a : Int) (w : World) (b0 : -9223372036854775808 ≤ a) (b1 : a ≤ 9223372036854775807) :
    Calls Eafg.prog 9 #[.int .i64 a] w fun e w' => e = .returned (.string ⟨(Lib.itoa a).toArray⟩) ∧ Below w.heap.size w w' := by
  by_cases h : a < 0
  · obtain ⟨u, rfl⟩ : ∃ u : Nat, a = -(u : Int) := ⟨a.natAbs, by omega⟩
    exact itoa_neg u w (by omega) (by omega)
  · obtain ⟨u, rfl⟩ : ∃ u : Nat, a = (u : Int) := ⟨a.toNat, by omega⟩
    exact itoa_pos u w b1
end Go.Proofs.YoeafwDoor
