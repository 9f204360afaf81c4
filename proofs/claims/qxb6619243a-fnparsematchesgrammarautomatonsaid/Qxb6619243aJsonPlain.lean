/-
  THE PLAIN LAW of the grammar's automaton: it accepts what Parse accepts, and it spells the same number.
-/
import Derived.Test.Qxb6619243aParsePlain
namespace Go.Proofs.Qxb6619243a

def isE (c : Int) : Prop := c = 101 ∨ c = 69
def isS (c : Int) : Prop := c = 43 ∨ c = 45

/-- one step of the automaton: state, sign, mantissa, digits before the point, exponent -/
def stepJ (s : Nat) (g : Bool) (m : List Int) (il : Nat) (ex : List Int) (c : Int) : Option (Nat × Bool × List Int × Nat × List Int) :=
  if s ≤ 1 then
    if s = 0 ∧ c = 45 then some (1, true, m, il, ex)
    else if c = 48 then some (2, g, m ++ [c], il + 1, ex)
    else if 49 ≤ c ∧ c ≤ 57 then some (3, g, m ++ [c], il + 1, ex)
    else none
  else if s = 2 then
    if c = 46 then some (4, g, m, il, ex) else if c = 101 ∨ c = 69 then some (6, g, m, il, ex) else none
  else if s = 3 then
    if 48 ≤ c ∧ c ≤ 57 then some (3, g, m ++ [c], il + 1, ex)
    else if c = 46 then some (4, g, m, il, ex) else if c = 101 ∨ c = 69 then some (6, g, m, il, ex) else none
  else if s ≤ 5 then
    if 48 ≤ c ∧ c ≤ 57 then some (5, g, m ++ [c], il, ex)
    else if s = 5 ∧ (c = 101 ∨ c = 69) then some (6, g, m, il, ex) else none
  else if s = 6 then
    if c = 43 ∨ c = 45 then some (7, g, m, il, ex ++ [c]) else if 48 ≤ c ∧ c ≤ 57 then some (8, g, m, il, ex ++ [c]) else none
  else if 48 ≤ c ∧ c ≤ 57 then some (8, g, m, il, ex ++ [c]) else none

/-- the automaton on what is left -/
def acc (s : Nat) (g : Bool) (m : List Int) (il : Nat) (ex : List Int) : List Int → Option (Bool × List Int × Nat × List Int)
  | [] => if s = 2 ∨ s = 3 ∨ s = 5 ∨ s = 8 then some (g, m, il, ex) else none
  | c :: r => match stepJ s g m il ex c with
    | none => none
    | some (s', g', m', il', ex') => acc s' g' m' il' ex' r

theorem acc_cons (s : Nat) (g : Bool) (m : List Int) (il : Nat) (ex : List Int) (c : Int) (r : List Int) :
    acc s g m il ex (c :: r) = match stepJ s g m il ex c with
      | none => none
      | some (s', g', m', il', ex') => acc s' g' m' il' ex' r := rfl

theorem isDig_of {c : Int} (h : 48 ≤ c ∧ c ≤ 57) : Qdec.isDig c = true := Qdec.isDig_iff.2 h
theorem isDig_no {c : Int} (h : ¬ (48 ≤ c ∧ c ≤ 57)) : Qdec.isDig c = false := Qdec.isDig_not.2 h

/-! ### the exponent -/
theorem acc8 (g : Bool) (m : List Int) (il : Nat) (ys : List Int) : ∀ ex, acc 8 g m il ex ys = if Qdec.allDig ys = true then some (g, m, il, ex ++ ys) else none := by
  induction ys with
  | nil => intro ex; simp [acc, Qdec.allDig]
  | cons c r ih =>
    intro ex
    rw [acc_cons]
    by_cases h : 48 ≤ c ∧ c ≤ 57
    · have e : stepJ 8 g m il ex c = some (8, g, m, il, ex ++ [c]) := by simp [stepJ, h]
      rw [e]
      simp only
      rw [ih]
      have : Qdec.allDig (c :: r) = Qdec.allDig r := by simp [Qdec.allDig, isDig_of h]
      rw [this]
      simp
    · have e : stepJ 8 g m il ex c = none := by simp [stepJ, h]
      have h2 : Qdec.allDig (c :: r) = false := by simp [Qdec.allDig, isDig_no h]
      rw [e, h2]; rfl
theorem acc7 (g : Bool) (m : List Int) (il : Nat) (ex ys : List Int) : acc 7 g m il ex ys = if ys ≠ [] ∧ Qdec.allDig ys = true then some (g, m, il, ex ++ ys) else none := by
  cases ys with
  | nil => simp [acc]
  | cons c r =>
    rw [acc_cons]
    by_cases h : 48 ≤ c ∧ c ≤ 57
    · have e : stepJ 7 g m il ex c = some (8, g, m, il, ex ++ [c]) := by simp [stepJ, h]
      rw [e]
      simp only
      rw [acc8]
      have : Qdec.allDig (c :: r) = Qdec.allDig r := by simp [Qdec.allDig, isDig_of h]
      rw [this]
      simp
    · have e : stepJ 7 g m il ex c = none := by simp [stepJ, h]
      have h2 : Qdec.allDig (c :: r) = false := by simp [Qdec.allDig, isDig_no h]
      rw [e, h2]; simp
theorem acc6 (g : Bool) (m : List Int) (il : Nat) (ys : List Int) : acc 6 g m il [] ys = if Qdec.unsign ys ≠ [] ∧ Qdec.isExpT ys = true then some (g, m, il, ys) else none := by
  cases ys with
  | nil => simp [acc, Qdec.unsign]
  | cons c r =>
    rw [acc_cons]
    by_cases hs : c = 43 ∨ c = 45
    · have e : stepJ 6 g m il [] c = some (7, g, m, il, [c]) := by simp [stepJ, hs]
      have hsg : Qdec.isSgn c = true := by rcases hs with h | h <;> simp [Qdec.isSgn, h]
      have hu : Qdec.unsign (c :: r) = r := by simp [Qdec.unsign, hsg]
      have ht : Qdec.isExpT (c :: r) = Qdec.allDig r := by unfold Qdec.isExpT; rw [hu]
      rw [e]
      simp only
      rw [acc7, hu, ht]
      rfl
    · have hsg : Qdec.isSgn c = false := by simp [Qdec.isSgn]; omega
      have hu : Qdec.unsign (c :: r) = c :: r := by simp [Qdec.unsign, hsg]
      by_cases h : 48 ≤ c ∧ c ≤ 57
      · have e : stepJ 6 g m il [] c = some (8, g, m, il, [c]) := by simp [stepJ, hs, h]
        have ht : Qdec.isExpT (c :: r) = Qdec.allDig r := by unfold Qdec.isExpT; rw [hu]; simp [Qdec.allDig, isDig_of h]
        rw [e]
        simp only
        rw [acc8, hu, ht]
        simp
      · have e : stepJ 6 g m il [] c = none := by simp [stepJ, hs, h]
        have ht : Qdec.isExpT (c :: r) = false := by unfold Qdec.isExpT; rw [hu]; simp [Qdec.allDig, isDig_no h]
        rw [e, ht]; simp

/-! ### what is accepted, against what Parse answers -/
def Rl (r : Option (Bool × List Int × Nat × List Int)) (p : Option Num) : Prop :=
  match r with
  | none => p = none
  | some (g, m, il, ex) => p = some (sigOf g (m.take il) (m.drop il) ex) ∧ il ≤ m.length ∧ Qdec.isExpT ex = true

theorem parseC_drop (g : Bool) (I F : List Int) : ∀ (i : Nat) (ys : List Int), i ≤ ys.length → parseC ys g I F i = parseC (ys.drop i) g I F 0 := by
  intro i
  induction i with
  | zero => intro ys _; rfl
  | succ i ih =>
    intro ys h
    cases ys with
    | nil => simp at h
    | cons c r =>
      rw [parseC_cons, ih r (by simpa using h)]; rfl
theorem parseB_drop (g : Bool) (I : List Int) : ∀ (i : Nat) (ys : List Int), i ≤ ys.length → parseB ys g I i = parseB (ys.drop i) g I 0 := by
  intro i
  induction i with
  | zero => intro ys _; rfl
  | succ i ih =>
    intro ys h
    cases ys with
    | nil => simp at h
    | cons c r =>
      rw [parseB_cons, ih r (by simpa using h)]; rfl

def accC (g : Bool) (m : List Int) (il : Nat) : List Int → Option (Bool × List Int × Nat × List Int)
  | [] => some (g, m, il, [])
  | c :: r => if c = 101 ∨ c = 69 then acc 6 g m il [] r else none

theorem accC_cons (g : Bool) (m : List Int) (il : Nat) (c : Int) (r : List Int) : accC g m il (c :: r) = if c = 101 ∨ c = 69 then acc 6 g m il [] r else none := rfl
theorem expAt_sgn (ys : List Int) : expAt ys 0 = sgn ys := by unfold expAt sgn; split <;> rfl
theorem dl_zero_all (U : List Int) : (dl U ≠ 0 ∧ dl U = U.length) ↔ (U ≠ [] ∧ Qdec.allDig U = true) := by
  constructor
  · intro ⟨h1, h2⟩
    refine ⟨fun e => by subst e; simp [dl] at h1, ?_⟩
    exact allDig_of U.length rfl (fun i hi => dl_dig U i (by omega))
  · intro ⟨h1, h2⟩
    have h3 := dl_all U h2
    refine ⟨?_, h3⟩
    rw [h3]
    exact fun e => h1 (List.eq_nil_of_length_eq_zero e)
theorem rl_C (g : Bool) (m : List Int) (il : Nat) (hil : il ≤ m.length) (zs : List Int) : Rl (accC g m il zs) (parseC zs g (m.take il) (m.drop il) 0) := by
  cases zs with
  | nil => exact ⟨rfl, hil, rfl⟩
  | cons c r =>
    rw [accC_cons]
    unfold parseC
    have hg : (c :: r).getD 0 0 = c := rfl
    rw [hg]
    by_cases h : c = 101 ∨ c = 69
    · rw [if_pos h, if_pos h, acc6, expAt_cons, dEnd_cons, parseD_cons]
      rw [show seg (c :: r) (0 + 1) (dEnd r (expAt r 0) + 1) = seg r 0 (dEnd r (expAt r 0)) from seg_cons _ _ _ _, expAt_sgn]
      have hU := unsign_eq r
      have hsl := sgn_le r
      have hd : dEnd r (sgn r) = sgn r + dl (Qdec.unsign r) := by unfold dEnd; rw [hU]
      have hlen : (Qdec.unsign r).length = r.length - sgn r := by rw [hU]; simp
      have hk := dl_zero_all (Qdec.unsign r)
      by_cases hq : Qdec.unsign r ≠ [] ∧ Qdec.isExpT r = true
      · rw [if_pos hq]
        obtain ⟨h1, h2⟩ := hk.2 hq
        rw [if_neg (by omega)]
        have he : dEnd r (sgn r) = r.length := by omega
        unfold parseD
        rw [he, if_pos rfl]
        have hs : seg r 0 r.length = r := by unfold seg; simp
        rw [hs]
        exact ⟨rfl, hil, hq.2⟩
      · rw [if_neg hq]
        have hq' : ¬ (dl (Qdec.unsign r) ≠ 0 ∧ dl (Qdec.unsign r) = (Qdec.unsign r).length) := fun e => hq (hk.1 e)
        show (if _ then _ else _) = none
        by_cases h1 : dEnd r (sgn r) + 1 = sgn r + 1
        · rw [if_pos h1]
        · rw [if_neg h1]
          unfold parseD
          rw [if_neg (by omega)]
    · rw [if_neg h, if_neg h]
      show parseD _ _ _ _ _ _ = none
      unfold parseD
      rw [if_neg (by simp)]

/-! ### the fraction -/
theorem acc5 (g : Bool) (il : Nat) (ys : List Int) : ∀ m, acc 5 g m il [] ys = accC g (m ++ ys.take (dl ys)) il (ys.drop (dl ys)) := by
  induction ys with
  | nil => intro m; simp [acc, dl, accC]
  | cons c r ih =>
    intro m
    rw [acc_cons]
    by_cases h : 48 ≤ c ∧ c ≤ 57
    · have e : stepJ 5 g m il [] c = some (5, g, m ++ [c], il, []) := by simp [stepJ, h]
      have hd : dl (c :: r) = dl r + 1 := by simp [dl, isDig_of h]
      rw [e, hd]
      simp only
      rw [ih]
      simp
    · have hd : dl (c :: r) = 0 := by simp [dl, isDig_no h]
      rw [hd]
      simp only [List.take_zero, List.append_nil, List.drop_zero, accC_cons]
      by_cases he : c = 101 ∨ c = 69
      · have e : stepJ 5 g m il [] c = some (6, g, m, il, []) := by simp [stepJ, h, he]
        rw [e, if_pos he]
      · have e : stepJ 5 g m il [] c = none := by simp [stepJ, h, he]
        rw [e, if_neg he]
theorem acc4 (g : Bool) (il : Nat) (m ys : List Int) : acc 4 g m il [] ys = if dl ys = 0 then none else accC g (m ++ ys.take (dl ys)) il (ys.drop (dl ys)) := by
  cases ys with
  | nil => simp [acc, dl]
  | cons c r =>
    rw [acc_cons]
    by_cases h : 48 ≤ c ∧ c ≤ 57
    · have e : stepJ 4 g m il [] c = some (5, g, m ++ [c], il, []) := by simp [stepJ, h]
      have hd : dl (c :: r) = dl r + 1 := by simp [dl, isDig_of h]
      rw [e, hd]
      simp only
      rw [acc5, if_neg (by omega)]
      simp
    · have e : stepJ 4 g m il [] c = none := by simp [stepJ, h]
      have hd : dl (c :: r) = 0 := by simp [dl, isDig_no h]
      rw [e, hd]; rfl
def accB (g : Bool) (m : List Int) (il : Nat) : List Int → Option (Bool × List Int × Nat × List Int)
  | [] => some (g, m, il, [])
  | c :: r => if c = 46 then acc 4 g m il [] r else if c = 101 ∨ c = 69 then acc 6 g m il [] r else none
theorem accB_cons (g : Bool) (m : List Int) (il : Nat) (c : Int) (r : List Int) : accB g m il (c :: r) = if c = 46 then acc 4 g m il [] r else if c = 101 ∨ c = 69 then acc 6 g m il [] r else none := rfl
theorem rl_B (g : Bool) (m : List Int) (zs : List Int) : Rl (accB g m m.length zs) (parseB zs g m 0) := by
  cases zs with
  | nil => exact ⟨by show some _ = _; simp, Nat.le_refl _, rfl⟩
  | cons c r =>
    rw [accB_cons]
    unfold parseB
    have hg : (c :: r).getD 0 0 = c := rfl
    rw [hg]
    by_cases h : c = 46
    · rw [if_pos h, if_pos h, acc4]
      have hd : dEnd (c :: r) (0 + 1) = dl r + 1 := by rw [dEnd_cons]; unfold dEnd; simp
      rw [hd]
      by_cases h0 : dl r = 0
      · rw [if_pos h0, if_pos (by omega)]
        rfl
      · rw [if_neg h0, if_neg (by omega), parseC_cons, parseC_drop g _ _ _ r (dl_le r)]
        have hs : seg (c :: r) (0 + 1) (dl r + 1) = r.take (dl r) := by unfold seg; simp
        rw [hs]
        have := rl_C g (m ++ r.take (dl r)) m.length (by simp) (r.drop (dl r))
        rwa [List.take_left, List.drop_left] at this
    · rw [if_neg h, if_neg h]
      have := rl_C g m m.length (Nat.le_refl _) (c :: r)
      rw [List.take_length, List.drop_length] at this
      exact this

/-! ### the integer part -/
theorem acc2 (g : Bool) (m : List Int) (il : Nat) (zs : List Int) : acc 2 g m il [] zs = accB g m il zs := by
  cases zs with
  | nil => simp [acc, accB]
  | cons c r =>
    rw [acc_cons, accB_cons]
    by_cases h : c = 46
    · have e : stepJ 2 g m il [] c = some (4, g, m, il, []) := by simp [stepJ, h]
      rw [e, if_pos h]
    · by_cases he : c = 101 ∨ c = 69
      · have e : stepJ 2 g m il [] c = some (6, g, m, il, []) := by simp [stepJ, h, he]
        rw [e, if_neg h, if_pos he]
      · have e : stepJ 2 g m il [] c = none := by simp [stepJ, h, he]
        rw [e, if_neg h, if_neg he]
theorem acc3 (g : Bool) (ys : List Int) : ∀ m il, acc 3 g m il [] ys = accB g (m ++ ys.take (dl ys)) (il + dl ys) (ys.drop (dl ys)) := by
  induction ys with
  | nil => intro m il; simp [acc, dl, accB]
  | cons c r ih =>
    intro m il
    rw [acc_cons]
    by_cases h : 48 ≤ c ∧ c ≤ 57
    · have e : stepJ 3 g m il [] c = some (3, g, m ++ [c], il + 1, []) := by simp [stepJ, h]
      have hd : dl (c :: r) = dl r + 1 := by simp [dl, isDig_of h]
      rw [e, hd]
      simp only
      rw [ih]
      simp only [List.take_succ_cons, List.drop_succ_cons, List.append_assoc, List.cons_append, List.nil_append]
      congr 1
      omega
    · have hd : dl (c :: r) = 0 := by simp [dl, isDig_no h]
      rw [hd]
      simp only [List.take_zero, List.append_nil, List.drop_zero, Nat.add_zero, accB_cons]
      by_cases h46 : c = 46
      · have e : stepJ 3 g m il [] c = some (4, g, m, il, []) := by simp [stepJ, h46]
        rw [e, if_pos h46]
      · by_cases he : c = 101 ∨ c = 69
        · have e : stepJ 3 g m il [] c = some (6, g, m, il, []) := by simp [stepJ, h, h46, he]
          rw [e, if_neg h46, if_pos he]
        · have e : stepJ 3 g m il [] c = none := by simp [stepJ, h, h46, he]
          rw [e, if_neg h46, if_neg he]
theorem rl_A (g : Bool) (s : Nat) (hs : s = 0 ∨ s = 1) (ys : List Int) (h45 : s = 0 → ys.getD 0 0 ≠ 45) : Rl (acc s g [] 0 [] ys) (parseA ys g 0) := by
  cases ys with
  | nil =>
    have e : acc s g [] 0 [] [] = none := by rcases hs with rfl | rfl <;> rfl
    rw [e]; rfl
  | cons c r =>
    rw [acc_cons]
    unfold parseA
    have hg : (c :: r).getD 0 0 = c := rfl
    rw [hg] at h45 ⊢
    have hn : ¬ (s = 0 ∧ c = 45) := fun ⟨a, b⟩ => h45 a b
    have hs1 : s ≤ 1 := by omega
    by_cases h48 : c = 48
    · have e : stepJ s g [] 0 [] c = some (2, g, [c], 1, []) := by simp [stepJ, hs1, h48]
      have hsg : seg (c :: r) 0 (0 + 1) = [c] := by unfold seg; simp
      rw [e, if_pos h48, hsg, parseB_cons]
      simp only
      rw [acc2]
      exact rl_B g [c] r
    · by_cases hr : 49 ≤ c ∧ c ≤ 57
      · have e : stepJ s g [] 0 [] c = some (3, g, [c], 1, []) := by simp [stepJ, hs1, hn, h48, hr]
        have hd : dEnd (c :: r) 0 = dl r + 1 := by
          unfold dEnd
          have : Qdec.isDig c = true := isDig_of ⟨by omega, hr.2⟩
          simp [dl, this]
        have hsg : seg (c :: r) 0 (dl r + 1) = c :: r.take (dl r) := by unfold seg; simp
        rw [e, if_neg h48, if_pos hr, hd, hsg, parseB_cons, parseB_drop g _ _ r (dl_le r)]
        simp only
        rw [acc3]
        have := rl_B g (c :: r.take (dl r)) (r.drop (dl r))
        have hl : (c :: r.take (dl r)).length = 1 + dl r := by have := dl_le r; simp; omega
        rw [hl] at this
        exact this
      · have e : stepJ s g [] 0 [] c = none := by simp [stepJ, hs1, hn, h48, hr]
        rw [e, if_neg h48, if_neg hr]
        rfl
/-- the automaton and Parse -/
theorem grammar (xs : List Int) : Rl (acc 0 false [] 0 [] xs) (parse xs) := by
  unfold parse
  by_cases h : xs.getD 0 0 = 45
  · rw [if_pos h]
    cases xs with
    | nil => simp at h
    | cons c r =>
      have hc : c = 45 := by simpa using h
      have e : stepJ 0 false [] 0 [] c = some (1, true, [], 0, []) := by simp [stepJ, hc]
      rw [acc_cons, e]
      simp only
      have := parseA_cons c r true 0
      rw [show (1 : Nat) = 0 + 1 from rfl, this]
      exact rl_A true 1 (.inr rfl) r (fun h => by omega)
  · rw [if_neg h]
    exact rl_A false 0 (.inl rfl) xs (fun _ => h)

end Go.Proofs.Qxb6619243a
