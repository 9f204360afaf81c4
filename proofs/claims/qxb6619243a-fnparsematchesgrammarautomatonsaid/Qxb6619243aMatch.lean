/-
  WALKS: minInt (33), maxInt (34), matchesValue (15).
-/
import Derived.Test.Qxb6619243aSigPlain
namespace Go.Proofs.Qxb6619243a
open Go.RowKit

set_option maxHeartbeats 400000 in
theorem minInt_any (a b : Nat) (w : World) : Calls Try.prog 33 #[.int .i64 (a : Int), .int .i64 (b : Int)] w fun e w' => e = .returned (.int .i64 ((min a b : Nat) : Int)) ∧ w' = w := by
  by_cases h : (a : Int) < (b : Int)
  · go_enter Try.func33, Try.ntmps33
    go_wp2
    go_ret
    exact ⟨ret_int (by omega), rfl⟩
  · go_enter Try.func33, Try.ntmps33
    go_wp2
    go_ret
    exact ⟨ret_int (by omega), rfl⟩
set_option maxHeartbeats 400000 in
theorem maxInt_any (a b : Nat) (w : World) : Calls Try.prog 34 #[.int .i64 (a : Int), .int .i64 (b : Int)] w fun e w' => e = .returned (.int .i64 ((max a b : Nat) : Int)) ∧ w' = w := by
  by_cases h : (b : Int) < (a : Int)
  · go_enter Try.func34, Try.ntmps34
    go_wp2
    go_ret
    exact ⟨ret_int (by omega), rfl⟩
  · go_enter Try.func34, Try.ntmps34
    go_wp2
    go_ret
    exact ⟨ret_int (by omega), rfl⟩

theorem sigOf_zero (neg : Bool) (I F E : List Int) (h : Qdec.lead (I ++ F) = (I ++ F).length) : sigOf neg I F E = Num.zero := by
  unfold sigOf; rw [if_pos ((both_nil_iff I F).2 h)]
theorem sigOf_some (neg : Bool) (I F E : List Int) (h : Qdec.lead (I ++ F) ≠ (I ++ F).length) :
    sigOf neg I F E = if (Qdec.smallExp E).2 then ⟨neg, hiOf I F, loOf I F, shiftOf I F + (Qdec.smallExp E).1, .none⟩ else ⟨neg, hiOf I F, loOf I F, shiftOf I F, .some E⟩ := by
  unfold sigOf; rw [if_neg (fun e => h ((both_nil_iff I F).1 e))]
theorem fnz_some (M : List Int) (h : Qdec.lead M ≠ M.length) : fnz M = (Qdec.lead M : Int) := by unfold fnz; rw [if_neg h]
theorem fnz_none (M : List Int) (h : Qdec.lead M = M.length) : fnz M = -1 := by unfold fnz; rw [if_pos h]

/-- 'x[l:r]' at a known address where l is not the capacity -/
theorem Row.sgm {w : World} {b off n cap : Nat} {xs : List Int} (h : Row w (some ⟨b, off, none⟩) n cap xs) (l r : Nat) (hl : l ≤ r) (hr : r ≤ n) (hc : ¬ cap = l) : Row w (some ⟨b, off + l, none⟩) (r - l) (cap - l) (Qxb6619243a.sgm xs l r) := by
  have h1 := h.cut l r hl hr
  rw [if_neg hc, Option.map_some, Go.WideShapes.add_plain] at h1
  exact h1
theorem Row.sgm' {w : World} {a : Option Addr} {n : Nat} {xs : List Int} (l r : Nat) (h : Row w a n l xs) (hl : l ≤ r) (hr : r ≤ n) : Row w a (r - l) (l - l) (Qxb6619243a.sgm xs l r) := by
  have h1 := h.cut l r hl hr
  rw [if_pos rfl] at h1
  exact h1

set_option maxHeartbeats 4000000 in
set_option maxRecDepth 100000 in
theorem matchesValue_any (neg : Bool) (I F E : List Int) (v : Value) (aM : Option Addr) (nM cM : Nat) (k : Nat) (aE : Option Addr) (nE cE : Nat) (w : World)
    (hv : IsNum w v (sigOf neg I F E)) (hM : Row w aM nM cM (I ++ F)) (hk : I.length = k) (hE : Row w aE nE cE E) (hT : Qdec.isExpT E = true) :
    Calls Try.prog 15 #[v, .bool neg, .slice aM nM cM, .int .i64 (k : Int), .slice aE nE cE] w fun e w' => e = .returned (.bool true) ∧ Below w.heap.size w w' := by
  have hnil := fun (w : World) (a : Option Addr) (n c : Nat) => Lib.run_eql_slice_nil (P := Try.prog) w 22 5 a n c 0 0 Try.underlying22
  have hnnil := fun (w : World) (a : Option Addr) (n c : Nat) => run_neq_slice_nil_any (P := Try.prog) w 22 5 a n c 0 0 Try.underlying22
  obtain ⟨a1, n1, c1, a2, n2, c2, a3, n3, c3, rfl, h1, h2, h3⟩ := hv
  have HM : Hid (Row w aM nM cM (I ++ F)) := hM
  have HE : Hid (Row w aE nE cE E) := hE
  have HT : Hid (Qdec.isExpT E = true) := hT
  have hnM := hM.bd
  have HL : Hid ((I ++ F).length = nM) := hM.len
  have HK : Hid (I.length = k) := hk
  have hkM : k ≤ nM := by rw [← hM.len, ← hk]; simp
  clear hM hE hT hk
  by_cases hz : Qdec.lead (I ++ F) = (I ++ F).length
  · rw [sigOf_zero neg I F E hz] at h1 h2 h3 ⊢
    obtain rfl : n1 = 0 := h1.len.symm
    obtain rfl : n2 = 0 := h2.len.symm
    obtain ⟨rfl, rfl, rfl⟩ := h3
    have HF : Hid (fnz (I ++ F) = -1) := fnz_none _ hz
    clear h1 h2 hz
    show Calls Try.prog 15 #[.agg #[.bool false, .slice a1 0 c1, .slice a2 0 c2, .int .i64 0, .slice none 0 0], .bool neg, .slice aM nM cM, .int .i64 (k : Int), .slice aE nE cE] w _
    go_enter Try.func15, Try.ntmps15
    go_wp2_with fail
    refine (zzParts_any _ _ _ _ _ _ _ _ _ _ _ _).mono ?_
    rintro e w1 ⟨rfl, hB⟩
    have HB : Hid (Below w.heap.size w w1) := ((Below.refl w.heap.size w).alloc (Nat.le_refl _) _).trans (hB.mono (by simp))
    clear hB
    have HM1 : Hid (Row w1 aM nM cM (I ++ F)) := HM.out.below HB.out (Nat.le_refl _)
    go_wp2_with fail
    refine (firstNonzero_any aM nM cM (I ++ F) _ HM1.out).mono ?_
    rintro e w2 ⟨rfl, rfl⟩
    rw [HF.out]
    go_wp2
    go_ret
    exact ⟨rfl, HB.out⟩
  · have hends := Qdec.ends_le _ hz
    have HhiS : Hid (hiOf I F = sgm (I ++ F) (min (Qdec.lead (I ++ F)) I.length) (min (spanEnd (I ++ F)) I.length)) := hi_seg I F hz
    have HloS : Hid (loOf I F = sgm (I ++ F) (max (Qdec.lead (I ++ F)) I.length) (max (spanEnd (I ++ F)) I.length)) := lo_seg I F hz
    have HFz : Hid (fnz (I ++ F) = (Qdec.lead (I ++ F) : Int)) := fnz_some _ hz
    have HLz : Hid (lnz (I ++ F) = ((spanEnd (I ++ F) - 1 : Nat) : Int)) := by unfold Hid lnz spanEnd; omega
    have HSh : Hid (shiftOf I F = (I.length : Int) - (Qdec.lead (I ++ F) : Int)) := shift_eq I F
    have hsp : Qdec.lead (I ++ F) < spanEnd (I ++ F) ∧ spanEnd (I ++ F) ≤ nM := by rw [← HL.out]; unfold spanEnd; omega
    rw [sigOf_some neg I F E hz] at h1 h2 h3 ⊢
    rw [HSh.out] at h1 h2 h3 ⊢
    rw [HK.out] at HhiS HloS h1 h2 h3 ⊢
    obtain ⟨bM, oM, rfl, _⟩ := HM.out.cells (by omega)
    clear hz hends HSh
    generalize Qdec.lead (I ++ F) = f at *
    obtain ⟨e1, he1⟩ : ∃ e1, spanEnd (I ++ F) = e1 + 1 := ⟨spanEnd (I ++ F) - 1, by omega⟩
    rw [he1] at HhiS HloS HLz hsp
    rw [show e1 + 1 - 1 = e1 by omega] at HLz
    clear he1
    obtain ⟨hsp1, hsp2⟩ := hsp
    have hcM := HM.out.le
    have HSB := smallExp_bd E HT.out
    obtain ⟨pe, hpe⟩ : ∃ p, Qdec.smallExp E = p := ⟨_, rfl⟩
    rw [hpe] at h1 h2 h3 HSB ⊢
    have HPE : Hid (Qdec.smallExp E = pe) := hpe
    clear hpe
    obtain ⟨ee, eb⟩ := pe
    obtain ⟨hee1, hee2⟩ := HSB
    simp only at hee1 hee2
    have hgg : (neg != neg) = false := by cases neg <;> rfl
    cases eb with
    | true =>
      simp only [if_true] at h1 h2 h3 ⊢
      obtain ⟨rfl, rfl, rfl⟩ := h3
      have H1 : Hid (Row w a1 n1 c1 (hiOf I F)) := h1
      have H2 : Hid (Row w a2 n2 c2 (loOf I F)) := h2
      clear h1 h2
      have hpp : (((k : Int) - (f : Int) + ee) == ((k : Int) - (f : Int) + ee)) = true := small_eq _
      go_enter Try.func15, Try.ntmps15
      go_wp2_with fail
      refine (zzParts_any _ _ _ _ _ _ _ _ _ _ _ _).mono ?_
      rintro e w1 ⟨rfl, hB⟩
      have HB : Hid (Below w.heap.size w w1) := ((Below.refl w.heap.size w).alloc (Nat.le_refl _) _).trans (hB.mono (by simp))
      clear hB
      have HM1 : Hid (Row w1 (some ⟨bM, oM, none⟩) nM cM (I ++ F)) := HM.out.below HB.out (Nat.le_refl _)
      go_wp2_with fail
      refine (firstNonzero_any _ nM cM (I ++ F) _ HM1.out).mono ?_
      rintro e w2 ⟨rfl, rfl⟩
      rw [HFz.out]
      go_wp2_with fail
      refine (lastNonzero_any _ nM cM (I ++ F) _ HM1.out).mono ?_
      rintro e w2 ⟨rfl, rfl⟩
      rw [HLz.out]
      go_wp2_with fail
      refine (minInt_any f k _).mono ?_
      rintro e w2 ⟨rfl, rfl⟩
      go_wp2_with fail
      rw [show ((e1 : Int) + 1) = ((e1 + 1 : Nat) : Int) by omega]
      refine (minInt_any (e1 + 1) k _).mono ?_
      rintro e w2 ⟨rfl, rfl⟩
      have R1 : Hid (Row w2 (some ⟨bM, oM + min f k, none⟩) (min (e1 + 1) k - min f k) (cM - min f k) (hiOf I F)) := by
        rw [HhiS.out]; exact HM1.out.sgm (min f k) (min (e1 + 1) k) (by omega) (by omega) (by omega)
      have hmin1 : min f k ≤ min (e1 + 1) k := by omega
      have hmin2 : min (e1 + 1) k ≤ cM := by omega
      have hmin3 : ¬ cM = min f k := by omega
      generalize min f k = p1 at R1 hmin1 hmin2 hmin3
      generalize min (e1 + 1) k = p2 at R1 hmin1 hmin2
      go_wp2_with fail
      refine (sameBytes_any a1 n1 c1 _ _ _ _ _ _ (H1.out.below HB.out (Nat.le_refl _)) R1.out).mono ?_
      rintro e w3 ⟨rfl, hB2⟩
      have HB2 : Hid (Below w.heap.size w w3) := HB.out.trans (hB2.mono HB.out.size)
      clear hB2 R1 hmin1 hmin2 hmin3 HM1
      rw [show decide (hiOf I F = hiOf I F) = true from decide_eq_true rfl]
      have HM2 : Hid (Row w3 (some ⟨bM, oM, none⟩) nM cM (I ++ F)) := HM.out.below HB2.out (Nat.le_refl _)
      go_wp2_with fail
      refine (maxInt_any f k _).mono ?_
      rintro e w2 ⟨rfl, rfl⟩
      go_wp2_with fail
      rw [show ((e1 : Int) + 1) = ((e1 + 1 : Nat) : Int) by omega]
      refine (maxInt_any (e1 + 1) k _).mono ?_
      rintro e w2 ⟨rfl, rfl⟩
      have R2 : (cM = max f k ∧ cM = max (e1 + 1) k ∧ Hid (Row w2 (some ⟨bM, oM, none⟩) 0 0 (loOf I F))) ∨ (¬ cM = max f k ∧ Hid (Row w2 (some ⟨bM, oM + max f k, none⟩) (max (e1 + 1) k - max f k) (cM - max f k) (loOf I F))) := by
        by_cases hmx : cM = max f k
        · left
          have h := HM2.out.cut (max f k) (max (e1 + 1) k) (by omega) (by omega)
          have hm2 : cM = max (e1 + 1) k := by omega
          refine ⟨hmx, hm2, ?_⟩
          rw [if_pos hmx, ← hm2, ← hmx, Nat.sub_self] at h
          rw [HloS.out, ← hm2, ← hmx]
          unfold sgm
          rw [Nat.sub_self]; exact h
        · right
          refine ⟨hmx, ?_⟩
          rw [HloS.out]; exact HM2.out.sgm (max f k) (max (e1 + 1) k) (by omega) (by omega) hmx
      have hmin1 : max f k ≤ max (e1 + 1) k := by omega
      have hmin2 : max (e1 + 1) k ≤ cM := by omega
      generalize max f k = p1 at R2 hmin1
      generalize max (e1 + 1) k = p2 at R2 hmin1 hmin2
      rcases R2 with ⟨rfl, rfl, R2⟩ | ⟨hmx, R2⟩
      all_goals
        go_wp2_with fail
        refine (sameBytes_any a2 n2 c2 _ _ _ _ _ _ (H2.out.below HB2.out (Nat.le_refl _)) R2.out).mono ?_
        rintro e w4 ⟨rfl, hB3⟩
        have HB3 : Hid (Below w.heap.size w w4) := HB2.out.trans (hB3.mono HB2.out.size)
        clear hB3 R2 HM2
        rw [show decide (loOf I F = loOf I F) = true from decide_eq_true rfl]
        go_wp2_with fail
        refine (expModel_any aE nE cE E _ (HE.out.below HB3.out (Nat.le_refl _)) HT.out).mono ?_
        rintro e w5 ⟨rfl, rfl⟩
        rw [HPE.out]
        go_wp2
        go_ret
        exact ⟨rfl, HB3.out⟩
    | false =>
      simp only [Bool.false_eq_true, if_false] at h1 h2 h3 ⊢
      obtain ⟨h3, h4⟩ := h3
      have H1 : Hid (Row w a1 n1 c1 (hiOf I F)) := h1
      have H2 : Hid (Row w a2 n2 c2 (loOf I F)) := h2
      have H3 : Hid (Row w a3 n3 c3 E) := h4
      clear h1 h2 h4
      have hpp : (((k : Int) - (f : Int)) == ((k : Int) - (f : Int))) = true := small_eq _
      go_enter Try.func15, Try.ntmps15
      go_wp2_with fail
      refine (zzParts_any _ _ _ _ _ _ _ _ _ _ _ _).mono ?_
      rintro e w1 ⟨rfl, hB⟩
      have HB : Hid (Below w.heap.size w w1) := ((Below.refl w.heap.size w).alloc (Nat.le_refl _) _).trans (hB.mono (by simp))
      clear hB
      have HM1 : Hid (Row w1 (some ⟨bM, oM, none⟩) nM cM (I ++ F)) := HM.out.below HB.out (Nat.le_refl _)
      go_wp2_with fail
      refine (firstNonzero_any _ nM cM (I ++ F) _ HM1.out).mono ?_
      rintro e w2 ⟨rfl, rfl⟩
      rw [HFz.out]
      go_wp2_with fail
      refine (lastNonzero_any _ nM cM (I ++ F) _ HM1.out).mono ?_
      rintro e w2 ⟨rfl, rfl⟩
      rw [HLz.out]
      go_wp2_with fail
      refine (minInt_any f k _).mono ?_
      rintro e w2 ⟨rfl, rfl⟩
      go_wp2_with fail
      rw [show ((e1 : Int) + 1) = ((e1 + 1 : Nat) : Int) by omega]
      refine (minInt_any (e1 + 1) k _).mono ?_
      rintro e w2 ⟨rfl, rfl⟩
      have R1 : Hid (Row w2 (some ⟨bM, oM + min f k, none⟩) (min (e1 + 1) k - min f k) (cM - min f k) (hiOf I F)) := by
        rw [HhiS.out]; exact HM1.out.sgm (min f k) (min (e1 + 1) k) (by omega) (by omega) (by omega)
      have hmin1 : min f k ≤ min (e1 + 1) k := by omega
      have hmin2 : min (e1 + 1) k ≤ cM := by omega
      have hmin3 : ¬ cM = min f k := by omega
      generalize min f k = p1 at R1 hmin1 hmin2 hmin3
      generalize min (e1 + 1) k = p2 at R1 hmin1 hmin2
      go_wp2_with fail
      refine (sameBytes_any a1 n1 c1 _ _ _ _ _ _ (H1.out.below HB.out (Nat.le_refl _)) R1.out).mono ?_
      rintro e w3 ⟨rfl, hB2⟩
      have HB2 : Hid (Below w.heap.size w w3) := HB.out.trans (hB2.mono HB.out.size)
      clear hB2 R1 hmin1 hmin2 hmin3 HM1
      rw [show decide (hiOf I F = hiOf I F) = true from decide_eq_true rfl]
      have HM2 : Hid (Row w3 (some ⟨bM, oM, none⟩) nM cM (I ++ F)) := HM.out.below HB2.out (Nat.le_refl _)
      go_wp2_with fail
      refine (maxInt_any f k _).mono ?_
      rintro e w2 ⟨rfl, rfl⟩
      go_wp2_with fail
      rw [show ((e1 : Int) + 1) = ((e1 + 1 : Nat) : Int) by omega]
      refine (maxInt_any (e1 + 1) k _).mono ?_
      rintro e w2 ⟨rfl, rfl⟩
      have R2 : (cM = max f k ∧ cM = max (e1 + 1) k ∧ Hid (Row w2 (some ⟨bM, oM, none⟩) 0 0 (loOf I F))) ∨ (¬ cM = max f k ∧ Hid (Row w2 (some ⟨bM, oM + max f k, none⟩) (max (e1 + 1) k - max f k) (cM - max f k) (loOf I F))) := by
        by_cases hmx : cM = max f k
        · left
          have h := HM2.out.cut (max f k) (max (e1 + 1) k) (by omega) (by omega)
          have hm2 : cM = max (e1 + 1) k := by omega
          refine ⟨hmx, hm2, ?_⟩
          rw [if_pos hmx, ← hm2, ← hmx, Nat.sub_self] at h
          rw [HloS.out, ← hm2, ← hmx]
          unfold sgm
          rw [Nat.sub_self]; exact h
        · right
          refine ⟨hmx, ?_⟩
          rw [HloS.out]; exact HM2.out.sgm (max f k) (max (e1 + 1) k) (by omega) (by omega) hmx
      have hmin1 : max f k ≤ max (e1 + 1) k := by omega
      have hmin2 : max (e1 + 1) k ≤ cM := by omega
      generalize max f k = p1 at R2 hmin1
      generalize max (e1 + 1) k = p2 at R2 hmin1 hmin2
      rcases R2 with ⟨rfl, rfl, R2⟩ | ⟨hmx, R2⟩
      all_goals
        go_wp2_with fail
        refine (sameBytes_any a2 n2 c2 _ _ _ _ _ _ (H2.out.below HB2.out (Nat.le_refl _)) R2.out).mono ?_
        rintro e w4 ⟨rfl, hB3⟩
        have HB3 : Hid (Below w.heap.size w w4) := HB2.out.trans (hB3.mono HB2.out.size)
        clear hB3 R2 HM2
        rw [show decide (loOf I F = loOf I F) = true from decide_eq_true rfl]
        go_wp2_with fail
        refine (expModel_any aE nE cE E _ (HE.out.below HB3.out (Nat.le_refl _)) HT.out).mono ?_
        rintro e w5 ⟨rfl, rfl⟩
        rw [HPE.out]
        go_wp2_with fail
        refine (sameBytes_any a3 n3 c3 E aE nE cE E _ (H3.out.below HB3.out (Nat.le_refl _)) (HE.out.below HB3.out (Nat.le_refl _))).mono ?_
        rintro e w6 ⟨rfl, hB5⟩
        have HB5 : Hid (Below w.heap.size w w6) := HB3.out.trans (hB5.mono HB3.out.size)
        clear hB5
        rw [show decide (E = E) = true from decide_eq_true rfl]
        go_wp2
        go_ret
        exact ⟨rfl, HB5.out⟩

end Go.Proofs.Qxb6619243a
