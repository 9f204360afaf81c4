/-
  THE PLAIN LAW of 'significant': its digits and its point, as the span of the joined digits.
-/
import Derived.Test.Qxb6619243aSig2
import Derived.Test.Qxb6619243aPlainB
namespace Go.Proofs.Qxb6619243a

def sgm (xs : List Int) (l r : Nat) : List Int := (xs.drop l).take (r - l)
theorem loOf_nil_iff (I F : List Int) (h : Qdec.trimL I = []) : loOf I F = Qdec.span F := by
  unfold loOf loIn Qdec.span; rw [if_pos h]
theorem loOf_ne (I F : List Int) (h : ¬ Qdec.trimL I = []) : loOf I F = Qdec.trimR F := by
  unfold loOf loIn; rw [if_neg h]
theorem hiOf_nil (I F : List Int) (h : Qdec.trimL I = []) : hiOf I F = [] := by
  unfold hiOf; rw [h]; split <;> rfl
theorem hi_lo (I F : List Int) : hiOf I F ++ loOf I F = Qdec.span (I ++ F) := by
  by_cases h : Qdec.trimL I = []
  · rw [hiOf_nil I F h, loOf_nil_iff I F h]
    unfold Qdec.span
    rw [Qdec.trimL_append_nil _ _ h]; rfl
  · unfold Qdec.span
    rw [Qdec.trimL_append_ne _ _ h]
    unfold hiOf
    rw [loOf_ne I F h]
    by_cases h2 : Qdec.trimR F = []
    · rw [if_pos h2, h2, Qdec.trimR_append_nil _ _ h2, List.append_nil]
    · rw [if_neg h2, Qdec.trimR_append_ne _ _ h2]
theorem shift_eq (I F : List Int) : shiftOf I F = (I.length : Int) - Qdec.lead (I ++ F) := by
  unfold shiftOf
  by_cases h : Qdec.trimL I = []
  · have h' := (Qdec.trimL_nil_iff I).1 h
    rw [if_pos h, Qdec.lead_append_all I F h', h']; omega
  · have h' : Qdec.lead I ≠ I.length := fun e => h ((Qdec.trimL_nil_iff I).2 e)
    rw [if_neg h, Qdec.lead_append_some I F h']; simp
theorem both_nil_iff (I F : List Int) : (hiOf I F = [] ∧ loOf I F = []) ↔ Qdec.lead (I ++ F) = (I ++ F).length := by
  rw [← Qdec.span_nil_iff, ← hi_lo]; simp
theorem trimR_allzero (F : List Int) (h : Qdec.trimR F = []) : Qdec.lead F.reverse = F.length := by
  rw [Qdec.trimR_nil_iff, Qdec.trimL_nil_iff] at h
  simpa using h

/-- the end of the span -/
def spanEnd (M : List Int) : Nat := M.length - Qdec.lead M.reverse
theorem end_A (I F : List Int) (hF : Qdec.lead F.reverse ≠ F.length) : spanEnd (I ++ F) = I.length + (F.length - Qdec.lead F.reverse) ∧ Qdec.lead F.reverse < F.length := by
  have h1 : Qdec.lead F.reverse ≠ F.reverse.length := by simpa using hF
  have h2 := Qdec.lead_rev_le F
  unfold spanEnd
  rw [List.reverse_append, Qdec.lead_append_some _ _ h1]
  simp; omega
theorem end_B (I F : List Int) (hF : Qdec.lead F.reverse = F.length) : spanEnd (I ++ F) = I.length - Qdec.lead I.reverse := by
  have h1 : Qdec.lead F.reverse = F.reverse.length := by simpa using hF
  unfold spanEnd
  rw [List.reverse_append, Qdec.lead_append_all _ _ h1]
  simp; omega

theorem hi_seg (I F : List Int) (h : Qdec.lead (I ++ F) ≠ (I ++ F).length) : hiOf I F = sgm (I ++ F) (min (Qdec.lead (I ++ F)) I.length) (min (spanEnd (I ++ F)) I.length) := by
  have hends := Qdec.ends_le _ h
  have hl : (I ++ F).length = I.length + F.length := List.length_append
  by_cases hI : Qdec.trimL I = []
  · have h' := (Qdec.trimL_nil_iff I).1 hI
    have e1 := Qdec.lead_append_all I F h'
    have e2 : I.length ≤ spanEnd (I ++ F) := by unfold spanEnd; omega
    rw [hiOf_nil I F hI]
    unfold sgm
    rw [show min (spanEnd (I ++ F)) I.length - min (Qdec.lead (I ++ F)) I.length = 0 by omega]
    simp
  · have h' : Qdec.lead I ≠ I.length := fun e => hI ((Qdec.trimL_nil_iff I).2 e)
    have e1 := Qdec.lead_append_some I F h'
    have e3 := Qdec.lead_le I
    have e4 := Qdec.ends_le I h'
    unfold hiOf
    rw [loOf_ne I F hI, e1]
    by_cases h2 : Qdec.trimR F = []
    · have e2 := end_B I F (trimR_allzero F h2)
      rw [if_pos h2, e2]
      show Qdec.span I = _
      rw [Qdec.span_eq I h']
      unfold sgm
      rw [show min (Qdec.lead I) I.length = Qdec.lead I by omega, show min (I.length - Qdec.lead I.reverse) I.length = I.length - Qdec.lead I.reverse by omega,
        List.drop_append_of_le_length e3, List.take_append_of_le_length (by simp; omega)]
    · have hF : Qdec.lead F.reverse ≠ F.length := by
        intro e
        apply h2
        rw [Qdec.trimR_nil_iff, Qdec.trimL_nil_iff]
        simpa using e
      have e2 := end_A I F hF
      rw [if_neg h2]
      unfold sgm Qdec.trimL
      rw [show min (Qdec.lead I) I.length = Qdec.lead I by omega, show min (spanEnd (I ++ F)) I.length = I.length by omega,
        List.drop_append_of_le_length e3]
      rw [List.take_append_of_le_length (by simp), List.take_of_length_le (by simp)]

theorem lo_seg (I F : List Int) (h : Qdec.lead (I ++ F) ≠ (I ++ F).length) : loOf I F = sgm (I ++ F) (max (Qdec.lead (I ++ F)) I.length) (max (spanEnd (I ++ F)) I.length) := by
  have hends := Qdec.ends_le _ h
  have hl : (I ++ F).length = I.length + F.length := List.length_append
  by_cases hI : Qdec.trimL I = []
  · have h' := (Qdec.trimL_nil_iff I).1 hI
    have e1 := Qdec.lead_append_all I F h'
    have hF0 : Qdec.lead F ≠ F.length := by omega
    have e4 := Qdec.ends_le F hF0
    have e2 := end_A I F (by omega)
    rw [loOf_nil_iff I F hI, Qdec.span_eq F hF0]
    unfold sgm
    rw [show max (Qdec.lead (I ++ F)) I.length = I.length + Qdec.lead F by omega, show max (spanEnd (I ++ F)) I.length = I.length + (F.length - Qdec.lead F.reverse) by omega,
      ← List.drop_drop, List.drop_left]
    congr 1
    omega
  · have h' : Qdec.lead I ≠ I.length := fun e => hI ((Qdec.trimL_nil_iff I).2 e)
    have e1 := Qdec.lead_append_some I F h'
    have e3 := Qdec.lead_le I
    rw [loOf_ne I F hI, e1]
    by_cases h2 : Qdec.trimR F = []
    · have e2 := end_B I F (trimR_allzero F h2)
      rw [h2, e2]
      unfold sgm
      rw [show max (I.length - Qdec.lead I.reverse) I.length - max (Qdec.lead I) I.length = 0 by omega]
      simp
    · have hF : Qdec.lead F.reverse ≠ F.length := by
        intro e
        apply h2
        rw [Qdec.trimR_nil_iff, Qdec.trimL_nil_iff]
        simpa using e
      have e2 := end_A I F hF
      rw [Qdec.trimR_eq]
      unfold sgm
      rw [show max (Qdec.lead I) I.length = I.length by omega, show max (spanEnd (I ++ F)) I.length = I.length + (F.length - Qdec.lead F.reverse) by omega, List.drop_left]
      congr 1
      omega

end Go.Proofs.Qxb6619243a
