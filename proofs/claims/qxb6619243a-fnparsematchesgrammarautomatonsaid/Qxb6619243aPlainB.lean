/-
  THE PLAIN LAWS of the trimmed digits (no Go in sight).
-/
import Derived.Test.Qxb6619243aPlain
namespace Qdec

theorem lead_append_all (I F : List Int) (h : lead I = I.length) : lead (I ++ F) = I.length + lead F := by
  induction I with
  | nil => simp
  | cons c r ih =>
    by_cases hc : c = 48
    · subst hc
      rw [lead_cons_zero] at h
      simp at h
      rw [List.cons_append, lead_cons_zero, ih h]
      simp; omega
    · rw [lead_cons_ne hc] at h
      simp at h
theorem lead_append_some (I F : List Int) (h : lead I ≠ I.length) : lead (I ++ F) = lead I := by
  induction I with
  | nil => simp [lead] at h
  | cons c r ih =>
    by_cases hc : c = 48
    · subst hc
      rw [lead_cons_zero] at h
      simp at h
      rw [List.cons_append, lead_cons_zero, lead_cons_zero, ih h]
    · rw [List.cons_append, lead_cons_ne hc, lead_cons_ne hc]
theorem trimL_append_nil (I F : List Int) (h : trimL I = []) : trimL (I ++ F) = trimL F := by
  have h' := (trimL_nil_iff I).1 h
  unfold trimL
  rw [lead_append_all I F h', ← List.drop_drop, List.drop_left]
theorem trimL_append_ne (I F : List Int) (h : ¬ trimL I = []) : trimL (I ++ F) = trimL I ++ F := by
  have h' : lead I ≠ I.length := fun e => h ((trimL_nil_iff I).2 e)
  have hle := lead_le I
  unfold trimL
  rw [lead_append_some I F h', List.drop_append_of_le_length hle]
theorem trimR_nil_iff (X : List Int) : trimR X = [] ↔ trimL X.reverse = [] := by
  unfold trimR; simp
theorem trimR_append_nil (A F : List Int) (h : trimR F = []) : trimR (A ++ F) = trimR A := by
  rw [trimR_nil_iff] at h
  unfold trimR
  rw [List.reverse_append, trimL_append_nil _ _ h]
theorem trimR_append_ne (A F : List Int) (h : ¬ trimR F = []) : trimR (A ++ F) = A ++ trimR F := by
  rw [trimR_nil_iff] at h
  unfold trimR
  rw [List.reverse_append, trimL_append_ne _ _ h]
  simp
/-- all zeros from the left is all zeros from the right -/
theorem all_zero_iff (X : List Int) : trimL X = [] ↔ ∀ x ∈ X, x = 48 := by
  induction X with
  | nil => simp [trimL]
  | cons c r ih =>
    by_cases hc : c = 48
    · subst hc
      have : trimL (48 :: r) = trimL r := by unfold trimL; rw [lead_cons_zero]; rfl
      rw [this, ih]; simp
    · have : trimL (c :: r) = c :: r := by unfold trimL; rw [lead_cons_ne hc]; rfl
      rw [this]; simp [hc]
theorem trimR_nil_iff' (X : List Int) : trimR X = [] ↔ trimL X = [] := by
  rw [trimR_nil_iff, all_zero_iff, all_zero_iff]; simp
theorem trimR_eq (X : List Int) : trimR X = X.take (X.length - lead X.reverse) := by
  unfold trimR trimL
  rw [List.drop_reverse, List.reverse_reverse]
theorem lead_rev_le (X : List Int) : lead X.reverse ≤ X.length := by
  have := lead_le X.reverse
  simpa using this

/-- the span -/
def span (M : List Int) : List Int := trimR (trimL M)
theorem trimL_trimL (X : List Int) : trimL (trimL X) = trimL X := by
  by_cases h : lead X < X.length
  · have h1 := lead_stop X h
    have h2 : lead (trimL X) = 0 := by
      refine lead_eq _ 0 (fun i hi => by omega) (Nat.zero_le _) (fun _ => ?_)
      unfold trimL
      simpa using h1
    have : trimL (trimL X) = (trimL X).drop (lead (trimL X)) := rfl
    rw [this, h2]; rfl
  · have hle := lead_le X
    have : trimL X = [] := (trimL_nil_iff X).2 (by omega)
    rw [this]; rfl
theorem span_nil_iff (M : List Int) : span M = [] ↔ lead M = M.length := by
  unfold span
  rw [trimR_nil_iff', trimL_trimL, trimL_nil_iff]
/-- the right end of M's span, from the left -/
theorem lead_rev_trimL (M : List Int) (h : lead M ≠ M.length) : lead (trimL M).reverse = lead M.reverse := by
  have h1 : M.reverse = (trimL M).reverse ++ (M.take (lead M)).reverse := by
    rw [← List.reverse_append]
    unfold trimL
    rw [List.take_append_drop]
  have h2 : lead (trimL M).reverse ≠ (trimL M).reverse.length := by
    intro e
    rw [← trimL_nil_iff, ← trimR_nil_iff, trimR_nil_iff', trimL_trimL, trimL_nil_iff] at e
    exact h e
  rw [h1, lead_append_some _ _ h2]
theorem span_eq (M : List Int) (h : lead M ≠ M.length) : span M = (M.drop (lead M)).take (M.length - lead M.reverse - lead M) := by
  unfold span
  rw [trimR_eq, lead_rev_trimL M h, trimL_length]
  unfold trimL
  congr 1
  omega
theorem span_length (M : List Int) (h : lead M ≠ M.length) : (span M).length = M.length - lead M.reverse - lead M := by
  rw [span_eq M h]
  have := lead_le M
  simp; omega
/-- the two ends don't cross -/
theorem ends_le (M : List Int) (h : lead M ≠ M.length) : lead M + lead M.reverse < M.length := by
  have h1 : span M ≠ [] := fun e => h ((span_nil_iff M).1 e)
  have h2 := span_length M h
  have h3 : 0 < (span M).length := by
    cases hs : span M with
    | nil => exact absurd hs h1
    | cons => simp
  omega

end Qdec
