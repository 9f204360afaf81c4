/-
  THE PLAIN LAW of Parse: a minus ahead; a plain integer.
-/
import Derived.Test.Qxb6619243aParse1
import Derived.Test.Qxb6619243aMatch
namespace Go.Proofs.Qxb6619243a

/-! ### one byte ahead -/
theorem dEnd_cons (c : Int) (xs : List Int) (i : Nat) : dEnd (c :: xs) (i + 1) = dEnd xs i + 1 := by
  unfold dEnd; simp; omega
theorem seg_cons (c : Int) (xs : List Int) (l r : Nat) : seg (c :: xs) (l + 1) (r + 1) = seg xs l r := by
  unfold seg; simp
theorem getD_cons (c : Int) (xs : List Int) (i : Nat) : (c :: xs).getD (i + 1) 0 = xs.getD i 0 := by simp
theorem expAt_cons (c : Int) (xs : List Int) (i : Nat) : expAt (c :: xs) (i + 1) = expAt xs i + 1 := by
  unfold expAt; rw [getD_cons]; split <;> rfl
theorem parseD_cons (c : Int) (xs : List Int) (g : Bool) (I F E : List Int) (i : Nat) : parseD (c :: xs) g I F E (i + 1) = parseD xs g I F E i := by
  unfold parseD; simp
theorem parseC_cons (c : Int) (xs : List Int) (g : Bool) (I F : List Int) (i : Nat) : parseC (c :: xs) g I F (i + 1) = parseC xs g I F i := by
  unfold parseC
  rw [getD_cons, expAt_cons, dEnd_cons, seg_cons, parseD_cons, parseD_cons]
  simp
theorem parseB_cons (c : Int) (xs : List Int) (g : Bool) (I : List Int) (i : Nat) : parseB (c :: xs) g I (i + 1) = parseB xs g I i := by
  unfold parseB
  rw [getD_cons, dEnd_cons, seg_cons, parseC_cons, parseC_cons]
  simp
theorem parseA_cons (c : Int) (xs : List Int) (g : Bool) (i : Nat) : parseA (c :: xs) g (i + 1) = parseA xs g i := by
  unfold parseA
  rw [getD_cons, dEnd_cons, seg_cons, seg_cons, parseB_cons, parseB_cons]

/-! ### the sign -/
def negate (N : Num) : Num := ⟨decide (N.hi ++ N.lo ≠ []), N.hi, N.lo, N.point, N.big⟩
theorem sigOf_negate (I F E : List Int) : sigOf true I F E = negate (sigOf false I F E) := by
  by_cases h : Qdec.lead (I ++ F) = (I ++ F).length
  · rw [sigOf_zero _ I F E h, sigOf_zero _ I F E h]; rfl
  · have hne : hiOf I F ++ loOf I F ≠ [] := by
      rw [hi_lo]; exact fun e => h ((Qdec.span_nil_iff _).1 e)
    rw [sigOf_some _ I F E h, sigOf_some _ I F E h]
    unfold negate
    split <;> simp only [hne, ne_eq, not_false_eq_true, decide_true]
theorem sigOf_false_neg (I F E : List Int) : (sigOf false I F E).neg = false := by
  unfold sigOf
  split
  · rfl
  · split <;> rfl
theorem parseD_neg (xs I F E : List Int) (i : Nat) : parseD xs true I F E i = (parseD xs false I F E i).map negate := by
  unfold parseD; split
  · rw [sigOf_negate]; rfl
  · rfl
theorem parseC_neg (xs I F : List Int) (i : Nat) : parseC xs true I F i = (parseC xs false I F i).map negate := by
  unfold parseC
  split
  · split
    · rfl
    · rw [parseD_neg]
  · rw [parseD_neg]
theorem parseB_neg (xs I : List Int) (i : Nat) : parseB xs true I i = (parseB xs false I i).map negate := by
  unfold parseB
  split
  · split
    · rfl
    · rw [parseC_neg]
  · rw [parseC_neg]
theorem parseA_neg (xs : List Int) (i : Nat) : parseA xs true i = (parseA xs false i).map negate := by
  unfold parseA
  split
  · rw [parseB_neg]
  · split
    · rw [parseB_neg]
    · rfl
theorem parseA_false (xs : List Int) (i : Nat) : ∀ N, parseA xs false i = some N → N.neg = false := by
  have hD : ∀ I F E i N, parseD xs false I F E i = some N → N.neg = false := by
    intro I F E i N h
    unfold parseD at h
    split at h
    · simp only [Option.some.injEq] at h; subst h; exact sigOf_false_neg _ _ _
    · simp at h
  have hC : ∀ I F i N, parseC xs false I F i = some N → N.neg = false := by
    intro I F i N h
    unfold parseC at h
    split at h
    · split at h
      · simp at h
      · exact hD _ _ _ _ _ h
    · exact hD _ _ _ _ _ h
  have hB : ∀ I i N, parseB xs false I i = some N → N.neg = false := by
    intro I i N h
    unfold parseB at h
    split at h
    · split at h
      · simp at h
      · exact hC _ _ _ _ h
    · exact hC _ _ _ _ h
  intro N h
  unfold parseA at h
  split at h
  · exact hB _ _ _ h
  · split at h
    · exact hB _ _ _ h
    · simp at h

/-- a minus ahead -/
theorem parse_minus (xs : List Int) :
    (xs.getD 0 0 = 45 ∧ parse (45 :: xs) = none) ∨
    (xs.getD 0 0 ≠ 45 ∧ parse (45 :: xs) = (parse xs).map negate ∧ ∀ N, parse xs = some N → N.neg = false) := by
  have e : parse (45 :: xs) = parseA xs true 0 := by
    unfold parse
    rw [if_pos (by simp)]
    exact parseA_cons 45 xs true 0
  by_cases h : xs.getD 0 0 = 45
  · left
    refine ⟨h, ?_⟩
    rw [e]
    unfold parseA
    rw [h, if_neg (by omega), if_neg (by omega)]
  · right
    have e2 : parse xs = parseA xs false 0 := by unfold parse; rw [if_neg h]
    exact ⟨h, by rw [e, e2, parseA_neg], by rw [e2]; exact parseA_false xs 0⟩

/-! ### a plain integer -/
def plainB (xs : List Int) : Bool := decide (xs.length ≠ 0) && (Qdec.allDig xs && (decide (xs.getD 0 0 ≠ 48) || decide (xs.length = 1)))
theorem dl_all (xs : List Int) (h : Qdec.allDig xs = true) : dl xs = xs.length :=
  dl_eq xs xs.length (fun i hi => Qdec.isDig_iff.2 (Qdec.allDig_getD xs i hi h)) (Nat.le_refl _) (fun h => by omega)
theorem parseB_end (xs : List Int) (g : Bool) (I : List Int) : parseB xs g I xs.length = some (sigOf g I [] []) := by
  have h : xs.getD xs.length 0 = 0 := getD_past xs xs.length xs.length rfl (by omega)
  unfold parseB parseC parseD
  rw [h, if_neg (by omega), if_neg (by omega), if_pos rfl]
theorem plain_parse (xs : List Int) (h : plainB xs = true) : parse xs = some (sigOf false xs [] []) := by
  simp only [plainB, Bool.and_eq_true, Bool.or_eq_true, decide_eq_true_eq] at h
  obtain ⟨h0, hd, h1⟩ := h
  have hc := Qdec.allDig_getD xs 0 (by omega) hd
  unfold parse parseA
  rw [if_neg (by omega)]
  by_cases h48 : xs.getD 0 0 = 48
  · have hl : xs.length = 1 := by
      rcases h1 with h1 | h1
      · exact absurd h48 h1
      · exact h1
    rw [if_pos h48]
    have hs : seg xs 0 (0 + 1) = xs := by unfold seg; simp; exact List.take_of_length_le (by omega)
    have := parseB_end xs false (seg xs 0 (0 + 1))
    rw [hl] at this
    rw [this, hs]
  · rw [if_neg h48, if_pos (by omega)]
    have he : dEnd xs 0 = xs.length := by unfold dEnd; simp [dl_all xs hd]
    have hs : seg xs 0 xs.length = xs := by unfold seg; simp
    rw [he, hs, parseB_end]
/-- the parts of a plain integer -/
theorem plain_parts (xs : List Int) (h : plainB xs = true) :
    (lnz xs < 0 ∧ sigOf false xs [] [] = Num.zero) ∨
    (0 ≤ lnz xs ∧ lnz xs < xs.length ∧ sigOf false xs [] [] = ⟨false, xs.take (lnz xs + 1).toNat, [], (xs.length : Int), .none⟩) := by
  simp only [plainB, Bool.and_eq_true, Bool.or_eq_true, decide_eq_true_eq] at h
  obtain ⟨h0, hd, h1⟩ := h
  have eM : xs ++ ([] : List Int) = xs := List.append_nil xs
  by_cases hz : Qdec.lead xs = xs.length
  · left
    refine ⟨?_, sigOf_zero false xs [] [] (by rw [eM]; exact hz)⟩
    have hr : Qdec.lead xs.reverse = xs.length := by
      have := (Qdec.trimR_nil_iff' xs).2 ((Qdec.trimL_nil_iff xs).2 hz)
      exact trimR_allzero xs this
    unfold lnz
    omega
  · right
    have hends := Qdec.ends_le xs hz
    have hlz : Qdec.lead xs = 0 := by
      by_cases h48 : xs.getD 0 0 = 48
      · have hl : xs.length = 1 := by
          rcases h1 with h1 | h1
          · exact absurd h48 h1
          · exact h1
        have hle := Qdec.lead_le xs
        omega
      · exact Qdec.lead_eq xs 0 (fun i hi => by omega) (Nat.zero_le _) (fun _ => h48)
    have hz' : Qdec.lead (xs ++ []) ≠ (xs ++ []).length := by rw [eM]; exact hz
    have hse : (lnz xs + 1).toNat = spanEnd xs := by unfold lnz spanEnd; omega
    have hse2 : spanEnd xs ≤ xs.length := by unfold spanEnd; omega
    refine ⟨by unfold lnz; omega, by unfold lnz; omega, ?_⟩
    rw [sigOf_some false xs [] [] hz', hi_seg xs [] hz', lo_seg xs [] hz', shift_eq, eM, hlz, hse]
    have e1 : Qdec.smallExp ([] : List Int) = (0, true) := rfl
    rw [e1]
    unfold sgm
    simp

end Go.Proofs.Qxb6619243a
