/-
  THE PLAIN MATHEMATICS of seat b6619243a: decimal texts as lists of numbers (bytes). No Go in sight.
-/
namespace Qdec

/-- an ASCII digit -/
def isDig (c : Int) : Bool := decide (48 ≤ c) && decide (c ≤ 57)
theorem isDig_iff {c : Int} : isDig c = true ↔ 48 ≤ c ∧ c ≤ 57 := by simp [isDig]
theorem isDig_not {c : Int} : isDig c = false ↔ ¬ (48 ≤ c ∧ c ≤ 57) := by
  rw [← isDig_iff]; simp
def allDig (xs : List Int) : Bool := xs.all isDig
/-- '+' or '-' -/
def isSgn (c : Int) : Bool := c == 43 || c == 45
/-- the text behind an optional sign -/
def unsign : List Int → List Int
  | [] => []
  | c :: r => if isSgn c then r else c :: r
def isExpT (xs : List Int) : Bool := allDig (unsign xs)
/-- how many zeros lead -/
def lead : List Int → Nat
  | [] => 0
  | c :: r => if c == 48 then lead r + 1 else 0
def trimL (xs : List Int) : List Int := xs.drop (lead xs)
def trimR (xs : List Int) : List Int := (trimL xs.reverse).reverse
/-- the value of a row of digits -/
def val (xs : List Int) : Int := xs.foldl (fun e d => e * 10 + (d - 48)) 0
def isNeg : List Int → Bool
  | [] => false
  | c :: _ => c == 45
def smallExp (xs : List Int) : Int × Bool :=
  if 18 < (trimL (unsign xs)).length then (0, false)
  else (if isNeg xs then - val (trimL (unsign xs)) else val (trimL (unsign xs)), true)

/-! ### lead -/
theorem lead_le (xs : List Int) : lead xs ≤ xs.length := by
  induction xs with
  | nil => simp [lead]
  | cons c r ih => simp only [lead]; split <;> simp <;> omega
theorem lead_cons_zero (r : List Int) : lead (48 :: r) = lead r + 1 := by simp [lead]
theorem lead_cons_ne {c : Int} (h : c ≠ 48) (r : List Int) : lead (c :: r) = 0 := by simp [lead, h]
/-- the first k are zeros, and the one behind them is none -/
theorem lead_eq (xs : List Int) (k : Nat) (h1 : ∀ i, i < k → xs.getD i 0 = 48) (hk : k ≤ xs.length) (h2 : k < xs.length → xs.getD k 0 ≠ 48) : lead xs = k := by
  induction xs generalizing k with
  | nil => simp at hk; subst hk; rfl
  | cons c r ih =>
    cases k with
    | zero =>
      have := h2 (by simp)
      simp at this
      simp [lead, this]
    | succ k =>
      have hc := h1 0 (by omega)
      simp at hc
      subst hc
      rw [lead_cons_zero, ih k (fun i hi => by have := h1 (i + 1) (by omega); simpa using this) (by simp at hk; omega) (fun h => by have := h2 (by simp; omega); simpa using this)]
theorem lead_zeros (xs : List Int) : ∀ i, i < lead xs → xs.getD i 0 = 48 := by
  induction xs with
  | nil => intro i h; simp [lead] at h
  | cons c r ih =>
    intro i h
    simp only [lead] at h
    split at h
    · next hc =>
      cases i with
      | zero => simpa using hc
      | succ i => simpa using ih i (by omega)
    · omega
theorem lead_stop (xs : List Int) (h : lead xs < xs.length) : xs.getD (lead xs) 0 ≠ 48 := by
  induction xs with
  | nil => simp [lead] at h
  | cons c r ih =>
    by_cases hc : c = 48
    · subst hc
      rw [lead_cons_zero] at h ⊢
      simpa using ih (by simpa using h)
    · rw [lead_cons_ne hc] at h ⊢
      simpa using hc
theorem trimL_length (xs : List Int) : (trimL xs).length = xs.length - lead xs := by simp [trimL]
theorem trimL_nil_iff (xs : List Int) : trimL xs = [] ↔ lead xs = xs.length := by
  have := lead_le xs
  rw [← List.length_eq_zero_iff, trimL_length]; omega

/-! ### val -/
theorem val_foldl (xs : List Int) (a : Int) : xs.foldl (fun e d => e * 10 + (d - 48)) a = a * 10 ^ xs.length + val xs := by
  induction xs generalizing a with
  | nil => simp [val]
  | cons c r ih =>
    simp only [List.foldl_cons, val, List.length_cons]
    rw [ih, ih (0 * 10 + (c - 48)), Int.pow_succ, Int.add_mul, Int.mul_assoc, Int.mul_comm 10 (10 ^ r.length)]
    simp [Int.add_assoc]
theorem val_nil : val [] = 0 := rfl
theorem val_cons (c : Int) (r : List Int) : val (c :: r) = (c - 48) * 10 ^ r.length + val r := by
  have h := val_foldl r (0 * 10 + (c - 48))
  have e : val (c :: r) = r.foldl (fun e d => e * 10 + (d - 48)) (0 * 10 + (c - 48)) := rfl
  rw [e, h]; simp
theorem val_snoc (xs : List Int) (c : Int) : val (xs ++ [c]) = val xs * 10 + (c - 48) := by simp [val]
theorem pow_pos10 (n : Nat) : (0 : Int) < 10 ^ n := Int.pow_pos (by omega)
theorem allDig_cons {c : Int} {r : List Int} : allDig (c :: r) = true ↔ (48 ≤ c ∧ c ≤ 57) ∧ allDig r = true := by simp [allDig, isDig]
theorem val_bd (xs : List Int) (h : allDig xs = true) : 0 ≤ val xs ∧ val xs < 10 ^ xs.length := by
  induction xs with
  | nil => simp [val]
  | cons c r ih =>
    rw [allDig_cons] at h
    have := ih h.2
    rw [val_cons]
    have hp := pow_pos10 r.length
    have h1 : 0 ≤ (c - 48) * 10 ^ r.length := Int.mul_nonneg (by omega) (by omega)
    have h2 : (c - 48) * 10 ^ r.length ≤ 9 * 10 ^ r.length := Int.mul_le_mul_of_nonneg_right (by omega) (by omega)
    rw [List.length_cons, Int.pow_succ]
    omega
theorem pow_le18 (n : Nat) (h : n ≤ 18) : (10 : Int) ^ n ≤ 1000000000000000000 := by
  have : (10 : Int) ^ n ≤ 10 ^ 18 := by
    have h' := Nat.pow_le_pow_right (show 0 < 10 by omega) h
    have : ((10 ^ n : Nat) : Int) ≤ ((10 ^ 18 : Nat) : Int) := by omega
    simpa using this
  simpa using this
theorem allDig_drop (xs : List Int) (k : Nat) (h : allDig xs = true) : allDig (xs.drop k) = true := by
  simp only [allDig, List.all_eq_true] at h ⊢
  exact fun x hx => h x (List.mem_of_mem_drop hx)
theorem allDig_getD (xs : List Int) (k : Nat) (hk : k < xs.length) (h : allDig xs = true) : 48 ≤ xs.getD k 0 ∧ xs.getD k 0 ≤ 57 := by
  simp only [allDig, List.all_eq_true] at h
  have := h (xs.getD k 0) (by simp [List.getD_eq_getElem?_getD, List.getElem?_eq_getElem hk])
  simpa [isDig] using this

end Qdec
