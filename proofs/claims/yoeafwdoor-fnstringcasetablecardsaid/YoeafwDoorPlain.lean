/-
  The plain side: the tokens' texts as functions of the token's number, and what holds of them. No Go in sight.
-/
import Derived.Lib.ItoaNum
namespace Go.Proofs.YoeafwDoor

/-- The table of the tokens' names, by number; the empty ones have none. -/
def names : List (List UInt8) := [
  [73, 76, 76, 69, 71, 65, 76],
  [69, 79, 70],
  [67, 79, 77, 77, 69, 78, 84],
  [],
  [73, 68, 69, 78, 84],
  [73, 78, 84],
  [70, 76, 79, 65, 84],
  [67, 72, 65, 82],
  [83, 84, 82, 73, 78, 71],
  [],
  [],
  [43],
  [45],
  [42],
  [47],
  [37],
  [38],
  [124],
  [94],
  [60, 60],
  [62, 62],
  [38, 94],
  [43, 61],
  [45, 61],
  [42, 61],
  [47, 61],
  [37, 61],
  [38, 61],
  [124, 61],
  [94, 61],
  [60, 60, 61],
  [62, 62, 61],
  [38, 94, 61],
  [38, 38],
  [124, 124],
  [43, 43],
  [45, 45],
  [61, 61],
  [60],
  [62],
  [61],
  [33],
  [33, 61],
  [60, 61],
  [62, 61],
  [58, 61],
  [46, 46, 46],
  [40],
  [91],
  [123],
  [44],
  [46],
  [41],
  [93],
  [125],
  [59],
  [58],
  [63],
  [],
  [],
  [98, 114, 101, 97, 107],
  [99, 111, 110, 116, 105, 110, 117, 101],
  [101, 108, 115, 101],
  [102, 111, 114],
  [102, 117, 110, 99],
  [101, 114, 114, 111, 114],
  [105, 109, 109, 117, 116, 97, 98, 108, 101],
  [105, 102],
  [114, 101, 116, 117, 114, 110],
  [101, 120, 112, 111, 114, 116],
  [116, 114, 117, 101],
  [102, 97, 108, 115, 101],
  [105, 110],
  [117, 110, 100, 101, 102, 105, 110, 101, 100],
  [105, 109, 112, 111, 114, 116]]
theorem names_length : names.length = 75 := by decide

/-- Has the token with this number a name? -/
def named (a : Int) : Bool := decide (0 ≤ a) && decide (a < 75) && !(names.getD a.toNat []).isEmpty

/-- A numeral between "token(" and ")". -/
def boxed (l : List UInt8) : List UInt8 := [116, 111, 107, 101, 110, 40] ++ l ++ [41]

/-- What Token.String prints. -/
def text (a : Int) : List UInt8 := if named a then names.getD a.toNat [] else boxed (Lib.itoa a)

/-! ### The numeral can be read back -/
def valOf (l : List UInt8) : Nat := l.foldl (fun v b => v * 10 + (b.toNat - 48)) 0
theorem valOf_snoc (l : List UInt8) (b : UInt8) : valOf (l ++ [b]) = valOf l * 10 + (b.toNat - 48) := by simp [valOf]
theorem digit_nat (d : Nat) (h : d < 10) : (UInt8.ofNat (48 + d)).toNat = 48 + d := by
  simp [UInt8.toNat_ofNat']; omega
theorem valOf_dec (u : Nat) : valOf (Lib.decDigits u) = u := by
  induction u using Nat.strongRecOn with
  | _ u ih =>
    by_cases h : u < 10
    · rw [Lib.decDigits, dif_pos h]
      simp only [valOf, List.foldl_cons, List.foldl_nil, digit_nat u h]
      omega
    · rw [Lib.decDigits, dif_neg h, valOf_snoc, ih (u / 10) (by omega), digit_nat (u % 10) (by omega)]
      omega
theorem dec_digit (u : Nat) : ∀ c ∈ Lib.decDigits u, 48 ≤ c.toNat ∧ c.toNat ≤ 57 := by
  induction u using Nat.strongRecOn with
  | _ u ih =>
    intro c hc
    by_cases h : u < 10
    · rw [Lib.decDigits, dif_pos h] at hc
      rw [List.mem_singleton.1 hc, digit_nat u h]
      omega
    · rw [Lib.decDigits, dif_neg h] at hc
      rcases List.mem_append.1 hc with hc | hc
      · exact ih (u / 10) (by omega) c hc
      · rw [List.mem_singleton.1 hc, digit_nat (u % 10) (by omega)]
        omega
theorem dec_no_minus (u : Nat) (l : List UInt8) : Lib.decDigits u ≠ 45 :: l := by
  intro h
  have := dec_digit u 45 (by rw [h]; exact List.mem_cons_self)
  have e : (45 : UInt8).toNat = 45 := rfl
  omega
theorem dec_inj {u v : Nat} (h : Lib.decDigits u = Lib.decDigits v) : u = v := by
  rw [← valOf_dec u, ← valOf_dec v, h]
theorem itoa_inj {a b : Int} (h : Lib.itoa a = Lib.itoa b) : a = b := by
  unfold Lib.itoa at h
  by_cases ha : a < 0
  · by_cases hb : b < 0
    · rw [if_pos ha, if_pos hb] at h
      have := dec_inj (List.cons.inj h).2
      omega
    · rw [if_pos ha, if_neg hb] at h
      exact absurd h.symm (dec_no_minus _ _)
  · by_cases hb : b < 0
    · rw [if_neg ha, if_pos hb] at h
      exact absurd h (dec_no_minus _ _)
    · rw [if_neg ha, if_neg hb] at h
      have := dec_inj h
      omega

/-! ### The texts part -/
theorem names_part : ∀ i : Fin 75, ∀ j : Fin 75, (names.getD i.val []).isEmpty = false → names.getD i.val [] = names.getD j.val [] → i = j := by decide +kernel
theorem names_box : ∀ i : Fin 75, (names.getD i.val [])[5]? ≠ some 40 := by decide +kernel
theorem boxed_five (l : List UInt8) : (boxed l)[5]? = some 40 := by simp [boxed]
theorem boxed_inj {l m : List UInt8} (h : boxed l = boxed m) : l = m := by simpa [boxed] using h
theorem named_of {a : Int} (h : named a = true) : 0 ≤ a ∧ a < 75 ∧ (names.getD a.toNat []).isEmpty = false := by
  simp only [named, Bool.and_eq_true, decide_eq_true_eq, Bool.not_eq_true'] at h
  exact ⟨h.1.1, h.1.2, h.2⟩
theorem text_inj {a b : Int} (h : text a = text b) : a = b := by
  unfold text at h
  by_cases ha : named a = true
  · obtain ⟨a0, a1, a2⟩ := named_of ha
    by_cases hb : named b = true
    · obtain ⟨b0, b1, b2⟩ := named_of hb
      rw [if_pos ha, if_pos hb] at h
      have := names_part ⟨a.toNat, by omega⟩ ⟨b.toNat, by omega⟩ a2 h
      have := congrArg Fin.val this
      simp only at this
      omega
    · rw [if_pos ha, if_neg hb] at h
      have e := boxed_five (Lib.itoa b)
      rw [← h] at e
      exact absurd e (names_box ⟨a.toNat, by omega⟩)
  · by_cases hb : named b = true
    · obtain ⟨b0, b1, b2⟩ := named_of hb
      rw [if_neg ha, if_pos hb] at h
      have e := boxed_five (Lib.itoa a)
      rw [h] at e
      exact absurd e (names_box ⟨b.toNat, by omega⟩)
    · rw [if_neg ha, if_neg hb] at h
      exact itoa_inj (boxed_inj h)

/-! ### The precedence -/
/-- Precedence by the number. -/
def prec (a : Int) : Int :=
  if a = 34 then 1 else if a = 33 then 2
  else if a = 37 ∨ a = 42 ∨ a = 38 ∨ a = 43 ∨ a = 39 ∨ a = 44 then 3
  else if a = 11 ∨ a = 12 ∨ a = 17 ∨ a = 18 then 4
  else if a = 13 ∨ a = 14 ∨ a = 15 ∨ a = 19 ∨ a = 20 ∨ a = 16 ∨ a = 21 then 5 else 0
/-- The spellings that have a precedence. -/
def spelt : List (List UInt8 × Int) := [([124, 124], 1), ([38, 38], 2), ([61, 61], 3), ([33, 61], 3), ([60], 3), ([60, 61], 3), ([62], 3), ([62, 61], 3),
  ([43], 4), ([45], 4), ([124], 4), ([94], 4), ([42], 5), ([47], 5), ([37], 5), ([60, 60], 5), ([62, 62], 5), ([38], 5), ([38, 94], 5)]
/-- Precedence by the spelling. -/
def precS (l : List UInt8) : Int := ((spelt.find? fun x => l == x.1).map (·.2)).getD 0
theorem prec_names : ∀ i : Fin 75, (names.getD i.val []).isEmpty = false → precS (names.getD i.val []) = prec i.val := by decide +kernel
theorem unnamed_prec : ∀ i : Fin 75, (names.getD i.val []).isEmpty = true → prec i.val = 0 := by decide +kernel
theorem spelt_short : ∀ x ∈ spelt, x.1[5]? ≠ some 40 := by decide +kernel
theorem precS_boxed (l : List UInt8) : precS (boxed l) = 0 := by
  unfold precS
  have : spelt.find? (fun x => boxed l == x.1) = none := by
    rw [List.find?_eq_none]
    intro x hx
    simp only [beq_iff_eq]
    intro e
    exact spelt_short x hx (by rw [← e]; exact boxed_five l)
  rw [this]
  rfl
theorem prec_out {a : Int} (h : a < 0 ∨ 75 ≤ a) : prec a = 0 := by
  unfold prec
  repeat rw [if_neg (by omega)]
theorem not_named {a : Int} (h : ¬ named a = true) : (a < 0 ∨ 75 ≤ a) ∨ (0 ≤ a ∧ a < 75 ∧ (names.getD a.toNat []).isEmpty = true) := by
  by_cases h0 : 0 ≤ a
  · by_cases h1 : a < 75
    · refine Or.inr ⟨h0, h1, ?_⟩
      cases he : (names.getD a.toNat []).isEmpty with
      | true => rfl
      | false => exact absurd (by unfold named; rw [he, decide_eq_true h0, decide_eq_true h1]; rfl) h
    · exact Or.inl (Or.inr (by omega))
  · exact Or.inl (Or.inl (by omega))
theorem prec_text (a : Int) : precS (text a) = prec a := by
  unfold text
  by_cases ha : named a = true
  · obtain ⟨a0, a1, a2⟩ := named_of ha
    rw [if_pos ha]
    have := prec_names ⟨a.toNat, by omega⟩ a2
    simpa [Int.toNat_of_nonneg a0] using this
  · rw [if_neg ha, precS_boxed]
    rcases not_named ha with h | ⟨h0, h1, h2⟩
    · exact (prec_out h).symm
    · have := unnamed_prec ⟨a.toNat, by omega⟩ h2
      simpa [Int.toNat_of_nonneg h0] using this.symm

/-! ### The operators -/
def punct : List UInt8 := [43, 45, 42, 47, 37, 38, 124, 94, 60, 62, 61, 33, 46, 40, 91, 123, 44, 41, 93, 125, 59, 58, 63]
def isPunct (c : UInt8) : Bool := punct.contains c
def isOp (a : Int) : Bool := decide (10 < a) && decide (a < 58)
/-- Not empty, and punctuation throughout. -/
def allPunct (l : List UInt8) : Bool := !l.isEmpty && l.all isPunct
theorem op_names : ∀ i : Fin 75, (names.getD i.val []).isEmpty = false → allPunct (names.getD i.val []) = isOp i.val := by decide +kernel
theorem unnamed_op : ∀ i : Fin 75, (names.getD i.val []).isEmpty = true → isOp i.val = false := by decide +kernel
theorem op_boxed (l : List UInt8) : allPunct (boxed l) = false := by
  have : isPunct 116 = false := by decide
  simp [allPunct, boxed, this]
theorem op_text (a : Int) : allPunct (text a) = isOp a := by
  unfold text
  by_cases ha : named a = true
  · obtain ⟨a0, a1, a2⟩ := named_of ha
    rw [if_pos ha]
    have := op_names ⟨a.toNat, by omega⟩ a2
    simpa [Int.toNat_of_nonneg a0] using this
  · rw [if_neg ha, op_boxed]
    rcases not_named ha with h | ⟨h0, h1, h2⟩
    · unfold isOp
      rcases h with h | h
      · rw [decide_eq_false (by omega : ¬ 10 < a)]; rfl
      · rw [decide_eq_false (by omega : ¬ a < 58)]; simp
    · have := unnamed_op ⟨a.toNat, by omega⟩ h2
      simpa [Int.toNat_of_nonneg h0] using this.symm

/-! ### X and X= -/
theorem assign_names : ∀ i : Fin 11, named (i.val + 11 : Nat) = true ∧ named (i.val + 22 : Nat) = true ∧ names.getD (i.val + 22) [] = names.getD (i.val + 11) [] ++ [61] := by decide +kernel
theorem assign_text {a : Int} (h0 : 11 ≤ a) (h1 : a ≤ 21) : text (a + 11) = text a ++ [61] := by
  obtain ⟨n1, n2, e⟩ := assign_names ⟨(a - 11).toNat, by omega⟩
  simp only at n1 n2 e
  have e1 : (((a - 11).toNat + 11 : Nat) : Int) = a := by omega
  have e2 : (((a - 11).toNat + 22 : Nat) : Int) = a + 11 := by omega
  rw [e1] at n1
  rw [e2] at n2
  unfold text
  rw [if_pos n1, if_pos n2, show (a + 11).toNat = (a - 11).toNat + 22 by omega, show a.toNat = (a - 11).toNat + 11 by omega, e]
theorem prec_bounds (a : Int) : 0 ≤ prec a ∧ prec a ≤ 5 := by
  unfold prec
  repeat' split
  all_goals omega
theorem prec_op {a : Int} (h : 0 < prec a) : 10 < a ∧ a < 58 := by
  unfold prec at h
  repeat' split at h
  all_goals omega
theorem prec_bare {a : Int} (h0 : 11 ≤ a) (h1 : a ≤ 21) : 0 < prec a ∧ prec (a + 11) = 0 := by
  unfold prec
  constructor
  · repeat' split
    all_goals omega
  · repeat rw [if_neg (by omega)]
end Go.Proofs.YoeafwDoor
