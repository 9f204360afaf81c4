/-
  WALKS: expModel (17).
-/
import Derived.Test.Qxb6619243aWalksC
namespace Go.Proofs.Qxb6619243a
open Go.RowKit

theorem lead_drop (xs : List Int) (s k : Nat) (hs : s ≤ k) (hk : k ≤ xs.length) (h1 : ∀ i, s ≤ i → i < k → xs.getD i 0 = 48) (h2 : k < xs.length → xs.getD k 0 ≠ 48) : Qdec.lead (xs.drop s) = k - s := by
  refine Qdec.lead_eq _ _ (fun i hi => ?_) (by simp; omega) (fun h => ?_)
  · have := h1 (s + i) (by omega) (by omega)
    simpa using this
  · have e : s + (k - s) = k := by omega
    have := h2 (by simp at h; omega)
    simpa [e] using this
theorem exp_big {xs : List Int} {k : Nat} (hs : sgn xs ≤ k) (hk : k ≤ xs.length) (h1 : ∀ i, sgn xs ≤ i → i < k → xs.getD i 0 = 48) (h2 : k < xs.length → xs.getD k 0 ≠ 48) (h : 18 < xs.length - k) : Qdec.smallExp xs = (0, false) :=
  smallExp_big (unsign_eq xs) (lead_drop xs _ k hs hk h1 h2) (by simp; omega)
theorem exp_ok {xs : List Int} {k : Nat} {b : Bool} (hs : sgn xs ≤ k) (hk : k ≤ xs.length) (h1 : ∀ i, sgn xs ≤ i → i < k → xs.getD i 0 = 48) (h2 : k < xs.length → xs.getD k 0 ≠ 48) (h : ¬ 18 < xs.length - k) (hb : Qdec.isNeg xs = b) :
    Qdec.smallExp xs = (if b then - Qdec.val (xs.drop k) else Qdec.val (xs.drop k), true) := by
  rw [smallExp_ok (unsign_eq xs) (lead_drop xs _ k hs hk h1 h2) (by simp; omega) hb]
  have e : sgn xs + (k - sgn xs) = k := by omega
  simp [e]
theorem val_drop_bd (xs : List Int) (s t : Nat) (hd : Qdec.allDig (xs.drop s) = true) (h : s ≤ xs.length - t) (ht : t < 18) (hn : t ≤ xs.length) :
    0 ≤ Qdec.val (xs.drop (xs.length - t)) ∧ Qdec.val (xs.drop (xs.length - t)) ≤ 99999999999999999 := by
  have hd2 : Qdec.allDig (xs.drop (xs.length - t)) = true := by
    have := Qdec.allDig_drop _ (xs.length - t - s) hd
    rw [List.drop_drop] at this
    have e : s + (xs.length - t - s) = xs.length - t := by omega
    rwa [e] at this
  have hl : (xs.drop (xs.length - t)).length ≤ t := by simp; omega
  have := val_take_bd (xs.drop (xs.length - t)) t hd2 ht
  rwa [List.take_of_length_le hl] at this
theorem val_drop_succ (xs : List Int) (t : Nat) (ht : t < xs.length) : Qdec.val (xs.drop (xs.length - (t + 1))) = (xs.getD (xs.length - 1 - t) 0 - 48) * 10 ^ t + Qdec.val (xs.drop (xs.length - t)) := by
  have e1 : xs.length - (t + 1) = xs.length - 1 - t := by omega
  have e2 : xs.length - t = xs.length - 1 - t + 1 := by omega
  have hq : xs.length - 1 - t < xs.length := by omega
  rw [e1, List.drop_eq_getElem_cons hq, Qdec.val_cons, e2]
  have e3 : (xs.drop (xs.length - 1 - t + 1)).length = t := by simp; omega
  rw [e3]
  simp [hq]

theorem head3 (xs : List Int) (h : 0 < xs.length) : (xs.getD 0 0 = 43 ∧ sgn xs = 1 ∧ Qdec.isNeg xs = false) ∨ (xs.getD 0 0 = 45 ∧ sgn xs = 1 ∧ Qdec.isNeg xs = true) ∨
    ((xs.getD 0 0 == 43) = false ∧ (xs.getD 0 0 == 45) = false ∧ sgn xs = 0 ∧ Qdec.isNeg xs = false) := by
  rcases head_cases xs h with ⟨h1, _, hN⟩ | ⟨h1, _, hN⟩ | ⟨h1, h2, _, hN⟩
  · exact .inl ⟨h1, by unfold sgn; rw [h1]; rfl, hN⟩
  · exact .inr (.inl ⟨h1, by unfold sgn; rw [h1]; rfl, hN⟩)
  · refine .inr (.inr ⟨h1, h2, ?_, hN⟩)
    unfold sgn
    rw [if_neg]
    simp only [beq_eq_false_iff_ne] at h1 h2
    omega

set_option maxHeartbeats 4000000 in
theorem expModel_any (a : Option Addr) (n cap : Nat) (xs : List Int) (w : World) (hr : Row w a n cap xs) (hT : Qdec.isExpT xs = true) :
    Calls Try.prog 17 #[.slice a n cap] w fun e w' => e = .returned (.tuple #[.int .i64 (Qdec.smallExp xs).1, .bool (Qdec.smallExp xs).2]) ∧ w' = w := by
  have HT : Hid (Qdec.allDig (xs.drop (sgn xs)) = true) := by unfold Qdec.isExpT at hT; rwa [unsign_eq] at hT
  have hbd := hr.bd
  clear hT
  by_cases hn0 : n = 0
  · subst hn0
    have hx : xs = [] := by simpa using hr.len
    subst hx
    clear hr hbd
    have hd : decide ((0 : Int) < ((0 : Nat) : Int)) = false := by simp
    go_enter Try.func17, Try.ntmps17
    go_wp2
    refine wp_loop_rounds 1 ?_
    rw [rounds_succ]
    go_wp2
    refine wp_loop_rounds 1 ?_
    rw [rounds_succ]
    go_wp2
    go_ret2
    exact ⟨rfl, rfl⟩
  obtain ⟨b, off, rfl, hc⟩ := hr.cells (by omega)
  have hc0 := hc 0 (by omega)
  rw [Nat.add_zero] at hc0
  have HC : Hid (∀ i, i < n → w.cell? ⟨b, off + i, none⟩ = some (.int .u8 (xs.getD i 0))) := hc
  clear hc
  have hpos : (0 : Int) < (n : Int) := by omega
  have HL : Hid (xs.length = n) := hr.len
  have HD := head3 xs (by rw [hr.len]; omega)
  clear hr
  obtain ⟨bN, HN⟩ : ∃ bN, Hid (Qdec.isNeg xs = bN) := ⟨_, rfl⟩
  rw [HN.out] at HD
  obtain ⟨s, HS⟩ : ∃ s, Hid (sgn xs = s) := ⟨_, rfl⟩
  have HSL : Hid (s ≤ n) := by rw [Hid, ← HS.out, ← HL.out]; exact sgn_le xs
  rw [HS.out] at HD HT
  generalize xs.getD 0 0 = c0 at hc0 HD
  rcases HD with ⟨rfl, rfl, rfl⟩ | ⟨rfl, rfl, rfl⟩ | ⟨h43, h45, rfl, rfl⟩
  all_goals
    go_enter Try.func17, Try.ntmps17
    go_wp2
    go_loop [5, 6] (fun f j => ∃ k : Nat, Hid (sgn xs ≤ k) ∧ k ≤ n ∧ j = .int .i64 k ∧ f = .int .i64 n ∧ Hid (∀ i, sgn xs ≤ i → i < k → xs.getD i 0 = 48)) (fun _ j => n - (intOf j).toNat)
    case atStart => exact ⟨sgn xs, Nat.le_refl _, by rw [HS.out]; exact HSL.out, by rw [HS.out]; rfl, rfl, fun i h1 h2 => by omega⟩
    case round =>
      obtain ⟨k, HKS, hk, rfl, rfl, hall⟩ := hrel
      by_cases hlt : k < n
      · have hck := HC.out k hlt
        generalize hg : xs.getD k 0 = c at hck
        have HG : Hid (xs.getD k 0 = c) := hg
        clear hg
        by_cases h48 : c = 48
        · subst h48
          go_wp2
          go_round
          case rel =>
            refine ⟨k + 1, by have := HKS.out; unfold Hid; omega, by omega, by go_num, rfl, fun i hi1 hi => ?_⟩
            by_cases e : i = k
            · subst e; exact HG.out
            · exact hall.out i hi1 (by omega)
          case measure => simp [intOf]; omega
        · have hne : (c != 48) = true := by simpa using h48
          have hstop : Hid (k < xs.length → xs.getD k 0 ≠ 48) := fun _ => by rw [HG.out]; exact h48
          clear h48 HG
          by_cases hbig : 18 < n - k
          · have hbi : (18 : Int) < (n : Int) - (k : Int) := by omega
            go_wp2
            go_ret2
            have hfin := exp_big HKS.out (by rw [HL.out]; exact hk) hall.out hstop.out (by rw [HL.out]; exact hbig)
            exact ⟨ret_int_bool (by rw [hfin]) (by rw [hfin]), rfl⟩
          · have hbi : ¬ (18 : Int) < (n : Int) - (k : Int) := by omega
            have hfin := exp_ok HKS.out (by rw [HL.out]; exact hk) hall.out hstop.out (by rw [HL.out]; exact hbig) HN.out
            have HF : Hid (Qdec.smallExp xs = _) := hfin
            clear hfin hall hstop
            go_wp2
            go_loop [7, 8, 9] (fun v p j => ∃ t : Nat, t ≤ n - k ∧ j = .int .i64 ((n : Int) - 1 - (t : Int)) ∧ v = .int .i64 (Qdec.val (xs.drop (n - t))) ∧ p = .int .i64 (10 ^ t)) (fun _ _ j => (intOf j + 1).toNat)
            case atStart => exact ⟨0, Nat.zero_le _, by go_num, by rw [List.drop_of_length_le (by rw [HL.out]; omega)]; rfl, rfl⟩
            case round =>
              obtain ⟨t, ht, rfl, rfl, rfl⟩ := hrel
              by_cases htl : t < n - k
              · obtain ⟨q, hq⟩ : ∃ q : Nat, n - 1 - t = q := ⟨_, rfl⟩
                have hqi : (n : Int) - 1 - (t : Int) = (q : Int) := by omega
                have hcq := HC.out q (by omega)
                have hdq : 48 ≤ xs.getD q 0 ∧ xs.getD q 0 ≤ 57 := by
                  have hsk := HKS.out
                  rw [HS.out] at hsk
                  have := Qdec.allDig_getD (xs.drop _) (q - sgn xs) (by have := HL.out; have := HS.out; simp; omega) HT.out
                  rw [← HS.out] at this hsk
                  have e : sgn xs + (q - sgn xs) = q := by omega
                  simpa [e] using this
                have hv := val_drop_bd xs _ t HT.out (by have h1 := HKS.out; rw [HS.out] at h1; have := HL.out; omega) (by omega) (by have := HL.out; omega)
                have HV : Hid (Qdec.val (xs.drop (xs.length - (t + 1))) = (xs.getD (xs.length - 1 - t) 0 - 48) * 10 ^ t + Qdec.val (xs.drop (xs.length - t))) := val_drop_succ xs t (by rw [HL.out]; omega)
                rw [HL.out] at hv HV
                rw [hq] at HV
                rw [hqi]
                have hp := Qdec.pow_le18 (t + 1) (by omega)
                have hp0 := Qdec.pow_pos10 t
                have HP : Hid ((10 : Int) ^ (t + 1) = 10 ^ t * 10) := Int.pow_succ 10 t
                rw [HP.out] at hp
                generalize xs.getD q 0 = cq at hcq hdq HV
                generalize hvj : Qdec.val (xs.drop (n - t)) = v at hv HV
                generalize hpj : (10 : Int) ^ t = p at hp hp0 HP HV
                clear hvj hpj
                have HQ : Hid ((n : Int) - 1 - (t : Int) = (q : Int)) := hqi
                clear hqi hq
                have hql : q < n := by have := HQ.out; omega
                have hqk : (k : Int) ≤ (q : Int) := by have := HQ.out; omega
                obtain ⟨hd1, hd2⟩ := hdq
                obtain ⟨hv1, hv2⟩ := hv
                have hm1 : 0 ≤ (cq - 48) * p := Int.mul_nonneg (by omega) (by omega)
                have hm2 : (cq - 48) * p ≤ 9 * p := Int.mul_le_mul_of_nonneg_right (by omega) (by omega)
                have hm3 : (cq - 48) * p ≤ 900000000000000000 := by omega
                clear hm2
                go_wp2
                go_round
                case rel => exact ⟨t + 1, by omega, by have := HQ.out; go_num, by rw [HV.out, Int.add_comm], by rw [HP.out]⟩
                case measure => simp [intOf]
              · have htn : t = n - k := by omega
                have hge : ¬ ((k : Int) ≤ (n : Int) - 1 - (t : Int)) := by omega
                have HTk : Hid (n - t = k) := by unfold Hid; omega
                have hvb : 0 ≤ Qdec.val (xs.drop k) ∧ Qdec.val (xs.drop k) ≤ 999999999999999999 := by
                  refine val_bd18 _ ?_ (by have := HL.out; simp; omega)
                  have h1 := HKS.out
                  rw [HS.out] at h1
                  have := Qdec.allDig_drop _ (k - sgn xs) HT.out
                  rw [List.drop_drop] at this
                  rw [← HS.out] at this h1
                  have e : sgn xs + (k - sgn xs) = k := by omega
                  rwa [e] at this
                clear htn ht htl
                rw [HTk.out]
                generalize hvj : Qdec.val (xs.drop k) = v at hvb HF
                clear hvj
                obtain ⟨hv1, hv2⟩ := hvb
                go_wp2
                go_ret2
                exact ⟨ret_int_bool (by rw [HF.out]; rfl) (by rw [HF.out]), rfl⟩
      · have hkn : k = n := by omega
        subst hkn
        have hfin := exp_ok HKS.out (by rw [HL.out]; exact Nat.le_refl _) hall.out (fun h => by rw [HL.out] at h; omega) (by rw [HL.out]; omega) HN.out
        rw [List.drop_of_length_le (by rw [HL.out]; exact Nat.le_refl _)] at hfin
        have HF : Hid (Qdec.smallExp xs = _) := hfin
        clear hfin hall
        go_wp2
        refine wp_loop_rounds 1 ?_
        rw [rounds_succ]
        go_wp2
        go_ret2
        exact ⟨ret_int_bool (by rw [HF.out]; rfl) (by rw [HF.out]), rfl⟩

end Go.Proofs.Qxb6619243a
