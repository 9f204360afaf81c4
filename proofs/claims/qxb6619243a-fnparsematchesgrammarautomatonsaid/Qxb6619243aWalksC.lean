/-
  WALKS: smallExponent (35), ZZSmallExponent (18).
-/
import Derived.Test.Qxb6619243aWalksB
namespace Go.Proofs.Qxb6619243a
open Go.RowKit

/-- the length in a slot that holds a slice: for a measure -/
def lenOf : Value → Nat | .slice _ n _ => n | _ => 0

theorem ret_int_bool {k : IntKind} {a b : Int} {p q : Bool} (h : a = b) (h' : p = q) : Ending.returned (.tuple #[.int k a, .bool p]) = .returned (.tuple #[.int k b, .bool q]) := by rw [h, h']

theorem smallExp_big {xs U : List Int} {k : Nat} (hU : Qdec.unsign xs = U) (hk : Qdec.lead U = k) (h : 18 < U.length - k) : Qdec.smallExp xs = (0, false) := by
  unfold Qdec.smallExp
  rw [hU, Qdec.trimL_length, hk, if_pos h]
theorem smallExp_ok {xs U : List Int} {k : Nat} {b : Bool} (hU : Qdec.unsign xs = U) (hk : Qdec.lead U = k) (h : ¬ 18 < U.length - k) (hb : Qdec.isNeg xs = b) :
    Qdec.smallExp xs = (if b then - Qdec.val (U.drop k) else Qdec.val (U.drop k), true) := by
  unfold Qdec.smallExp
  rw [hU, Qdec.trimL_length, hk, if_neg h, hb, Qdec.trimL, hk]

/-- 'x[1:]', as the walk writes it at a known address -/
theorem Row.tail1 {w : World} {b off cap n : Nat} {xs : List Int} (h : Row w (some ⟨b, off, none⟩) n cap xs) (hn : 0 < n) (hc : cap ≠ 1) : Row w (some ⟨b, off + 1, none⟩) (n - 1) (cap - 1) (xs.drop 1) := by
  have := h.cut 1 n hn (Nat.le_refl _)
  rw [if_neg hc] at this
  have e : (xs.drop 1).take (n - 1) = xs.drop 1 := by
    apply List.take_of_length_le
    simp [h.len]
  rw [e] at this
  simpa [Addr.add] using this
theorem Row.tail1' {w : World} {a : Option Addr} {n : Nat} {xs : List Int} (h : Row w a n 1 xs) (hn : 0 < n) : Row w a 0 0 (xs.drop 1) := by
  have := h.cut 1 n hn (Nat.le_refl _)
  have h1 := h.le
  have e : n = 1 := by omega
  subst e
  rw [if_pos rfl] at this
  have e : (xs.drop 1).take (1 - 1) = xs.drop 1 := by
    apply List.take_of_length_le
    simp [h.len]
  rw [e] at this
  simpa using this

/-- what the head of smallExponent leaves -/
theorem head_cases (xs : List Int) (h : 0 < xs.length) : (xs.getD 0 0 = 43 ∧ Qdec.unsign xs = xs.drop 1 ∧ Qdec.isNeg xs = false) ∨ (xs.getD 0 0 = 45 ∧ Qdec.unsign xs = xs.drop 1 ∧ Qdec.isNeg xs = true) ∨
    ((xs.getD 0 0 == 43) = false ∧ (xs.getD 0 0 == 45) = false ∧ Qdec.unsign xs = xs ∧ Qdec.isNeg xs = false) := by
  cases xs with
  | nil => simp at h
  | cons c r =>
    by_cases h1 : c = 43
    · left; subst h1; exact ⟨rfl, rfl, rfl⟩
    · right
      by_cases h2 : c = 45
      · left; subst h2; exact ⟨rfl, rfl, rfl⟩
      · right
        simp [Qdec.unsign, Qdec.isSgn, Qdec.isNeg, h1, h2]

theorem head5 {w : World} {b off n cap : Nat} {xs : List Int} (hr : Row w (some ⟨b, off, none⟩) n cap xs) (hn : 0 < n) :
    (n = 1 ∧ cap = 1 ∧ xs.getD 0 0 = 43 ∧ Qdec.isNeg xs = false ∧ Hid (Row w (some ⟨b, off, none⟩) 0 0 (Qdec.unsign xs))) ∨
    (cap ≠ 1 ∧ xs.getD 0 0 = 43 ∧ Qdec.isNeg xs = false ∧ Hid (Row w (some ⟨b, off + 1, none⟩) (n - 1) (cap - 1) (Qdec.unsign xs))) ∨
    (n = 1 ∧ cap = 1 ∧ xs.getD 0 0 = 45 ∧ Qdec.isNeg xs = true ∧ Hid (Row w (some ⟨b, off, none⟩) 0 0 (Qdec.unsign xs))) ∨
    (cap ≠ 1 ∧ xs.getD 0 0 = 45 ∧ Qdec.isNeg xs = true ∧ Hid (Row w (some ⟨b, off + 1, none⟩) (n - 1) (cap - 1) (Qdec.unsign xs))) ∨
    ((xs.getD 0 0 == 43) = false ∧ (xs.getD 0 0 == 45) = false ∧ Qdec.isNeg xs = false ∧ Hid (Row w (some ⟨b, off, none⟩) n cap (Qdec.unsign xs))) := by
  have hle := hr.le
  rcases head_cases xs (by rw [hr.len]; omega) with ⟨h1, hU, hN⟩ | ⟨h1, hU, hN⟩ | ⟨h1, h2, hU, hN⟩
  · rw [hU]
    by_cases hcap : cap = 1
    · subst hcap
      exact .inl ⟨by omega, rfl, h1, hN, hr.tail1' hn⟩
    · exact .inr (.inl ⟨hcap, h1, hN, hr.tail1 hn hcap⟩)
  · rw [hU]
    by_cases hcap : cap = 1
    · subst hcap
      exact .inr (.inr (.inl ⟨by omega, rfl, h1, hN, hr.tail1' hn⟩))
    · exact .inr (.inr (.inr (.inl ⟨hcap, h1, hN, hr.tail1 hn hcap⟩)))
  · rw [hU]
    exact .inr (.inr (.inr (.inr ⟨h1, h2, hN, hr⟩)))

theorem val_take_bd (D : List Int) (j : Nat) (h : Qdec.allDig D = true) (hj : j < 18) : 0 ≤ Qdec.val (D.take j) ∧ Qdec.val (D.take j) ≤ 99999999999999999 := by
  have hd : Qdec.allDig (D.take j) = true := by
    simp only [Qdec.allDig, List.all_eq_true] at h ⊢
    exact fun x hx => h x (List.mem_of_mem_take hx)
  have h1 := Qdec.val_bd _ hd
  have h2 : (D.take j).length ≤ 17 := by simp; omega
  have h3 : (10 : Int) ^ (D.take j).length ≤ 10 ^ 17 := by
    have h' := Nat.pow_le_pow_right (show 0 < 10 by omega) h2
    have : ((10 ^ (D.take j).length : Nat) : Int) ≤ ((10 ^ 17 : Nat) : Int) := by omega
    simpa using this
  simp only [Int.reducePow] at h3
  omega
theorem val_bd18 (D : List Int) (h : Qdec.allDig D = true) (hj : D.length ≤ 18) : 0 ≤ Qdec.val D ∧ Qdec.val D ≤ 999999999999999999 := by
  have h1 := Qdec.val_bd _ h
  have h3 := Qdec.pow_le18 _ hj
  omega
theorem val_take_succ (D : List Int) (j : Nat) (h : j < D.length) : Qdec.val (D.take (j + 1)) = Qdec.val (D.take j) * 10 + (D.getD j 0 - 48) := by
  rw [List.take_succ_eq_append_getElem h, Qdec.val_snoc]
  simp [h]

set_option maxHeartbeats 4000000 in
theorem smallExponent_any (a : Option Addr) (n cap : Nat) (xs : List Int) (w : World) (hr : Row w a n cap xs) (hT : Qdec.isExpT xs = true) :
    Calls Try.prog 35 #[.slice a n cap] w fun e w' => e = .returned (.tuple #[.int .i64 (Qdec.smallExp xs).1, .bool (Qdec.smallExp xs).2]) ∧ w' = w := by
  have HT : Hid (Qdec.allDig (Qdec.unsign xs) = true) := hT
  have hbd := hr.bd
  clear hT
  by_cases hn0 : n = 0
  · subst hn0
    have hx : xs = [] := by simpa using hr.len
    subst hx
    clear hr hbd
    have hd : decide ((0 : Int) < ((0 : Nat) : Int)) = false := by simp
    go_enter Try.func35, Try.ntmps35
    go_wp2
    refine wp_loop_rounds 1 ?_
    rw [rounds_succ]
    go_wp2
    refine wp_loop_rounds 1 ?_
    rw [rounds_succ]
    go_wp2
    go_ret2
    exact ⟨rfl, rfl⟩
  obtain ⟨b, off, rfl, hc⟩ := hr.cells (by omega)
  have hc0 := hc 0 (by omega)
  rw [Nat.add_zero] at hc0
  clear hc
  have hpos : (0 : Int) < (n : Int) := by omega
  have HD := head5 hr (by omega)
  clear hr
  obtain ⟨bN, HN⟩ : ∃ bN, Hid (Qdec.isNeg xs = bN) := ⟨_, rfl⟩
  rw [HN.out] at HD
  obtain ⟨U, HU⟩ : ∃ U, Hid (Qdec.unsign xs = U) := ⟨_, rfl⟩
  rw [HU.out] at HD HT
  generalize xs.getD 0 0 = c0 at hc0 HD
  rcases HD with ⟨rfl, rfl, rfl, rfl, HR1⟩ | ⟨hcap, rfl, rfl, HR1⟩ | ⟨rfl, rfl, rfl, rfl, HR1⟩ | ⟨hcap, rfl, rfl, HR1⟩ | ⟨h43, h45, rfl, HR1⟩
  all_goals
    go_enter Try.func35, Try.ntmps35
    go_wp2
    go_loop [4] (fun d => ∃ (k : Nat) (a' : Option Addr) (n' cap' : Nat), Hid (k ≤ U.length) ∧ d = .slice a' n' cap' ∧ Hid (Row w a' n' cap' (U.drop k)) ∧ Hid (∀ i, i < k → U.getD i 0 = 48)) (fun d => lenOf d)
    case atStart => exact ⟨0, _, _, _, Nat.zero_le _, rfl, HR1.out, fun i hi => by omega⟩
    case round =>
      obtain ⟨k, a', n', cap', hk, rfl, HR2, hall⟩ := hrel
      clear HR1
      have hbd' := HR2.out.bd
      have hle' := HR2.out.le
      by_cases hn' : n' = 0
      · subst hn'
        have hd' : decide ((0 : Int) < ((0 : Nat) : Int)) = false := by simp
        have hlead : Hid (Qdec.lead U = k) := by
          have h1 := HR2.out.len
          simp at h1
          exact Qdec.lead_eq U k hall.out hk.out (fun h => by omega)
        go_wp2
        refine wp_loop_rounds 1 ?_
        rw [rounds_succ]
        go_wp2
        go_ret2
        have hdr : U.drop k = [] := List.eq_nil_of_length_eq_zero HR2.out.len
        have hfin := smallExp_ok HU.out hlead.out (by have := HR2.out.len; simp at this; omega) HN.out
        rw [hdr] at hfin
        exact ⟨ret_int_bool (by rw [hfin]; rfl) (by rw [hfin]), rfl⟩
      · obtain ⟨b', off', rfl, hc'⟩ := HR2.out.cells (by omega)
        have hc1 := hc' 0 (by omega)
        rw [Nat.add_zero] at hc1
        have hpos' : (0 : Int) < (n' : Int) := by omega
        have HC' : Hid (∀ i, i < n' → w.cell? ⟨b', off' + i, none⟩ = some (.int .u8 ((U.drop k).getD i 0))) := hc'
        have HG : Hid ((U.drop k).getD 0 0 = U.getD k 0) := by simp [Hid]
        rw [HG.out] at hc1
        have HL : Hid (U.length - k = n') := by have := HR2.out.len; simp at this; exact this
        clear hc' HG
        generalize hg : U.getD k 0 = c at hc1
        have HG : Hid (U.getD k 0 = c) := hg
        clear hg
        by_cases h48 : c = 48
        · subst h48
          have hall2 : Hid (∀ i, i < k + 1 → U.getD i 0 = 48) := by
            intro i hi
            by_cases e : i = k
            · subst e; exact HG.out
            · exact hall.out i (by omega)
          have hk2 : Hid (k + 1 ≤ U.length) := by have := HL.out; unfold Hid; omega
          have hdd : Hid ((U.drop k).drop 1 = U.drop (k + 1)) := by simp [Hid]
          by_cases hcap' : cap' = 1
          · subst hcap'
            obtain rfl : n' = 1 := by omega
            have HR3 : Hid (Row w (some ⟨b', off', none⟩) 0 0 (U.drop (k + 1))) := by have := HR2.out.tail1' (by omega); rwa [hdd.out] at this
            clear HR2 hdd HC' hall
            go_wp2
            go_round
            case rel => exact ⟨k + 1, _, _, _, hk2, rfl, HR3, hall2⟩
            case measure => simp [lenOf]
          · have HR3 : Hid (Row w (some ⟨b', off' + 1, none⟩) (n' - 1) (cap' - 1) (U.drop (k + 1))) := by have := HR2.out.tail1 (by omega) hcap'; rwa [hdd.out] at this
            clear HR2 hdd HC' hall
            go_wp2
            go_round
            case rel => exact ⟨k + 1, _, _, _, hk2, rfl, HR3, hall2⟩
            case measure => simp [lenOf]; omega
        · have hne : (c == 48) = false := by simpa using h48
          have hlead : Hid (Qdec.lead U = k) := Qdec.lead_eq U k hall.out hk.out (fun _ => by rw [HG.out]; exact h48)
          clear h48 hall HG
          by_cases hbig : 18 < n'
          · go_wp2
            go_ret2
            have hfin := smallExp_big HU.out hlead.out (by have := HL.out; omega)
            exact ⟨ret_int_bool (by rw [hfin]) (by rw [hfin]), rfl⟩
          · obtain ⟨D, HD⟩ : ∃ D, Hid (U.drop k = D) := ⟨_, rfl⟩
            have HDD : Hid (Qdec.allDig D = true) := by rw [← HD.out]; exact Qdec.allDig_drop U k HT.out
            have HDL : Hid (D.length = n') := by rw [← HD.out, List.length_drop]; exact HL.out
            rw [HD.out] at HC'
            have hfin := smallExp_ok HU.out hlead.out (by have := HL.out; omega) HN.out
            rw [HD.out] at hfin
            have HF : Hid (Qdec.smallExp xs = _) := hfin
            clear HR2 hfin HD HL HT hlead hk
            go_wp2
            go_loop [5, 42] (fun e i => ∃ j : Nat, j ≤ n' ∧ i = .int .i64 j ∧ e = .int .i64 (Qdec.val (D.take j))) (fun _ i => n' - (intOf i).toNat)
            case atStart => exact ⟨0, Nat.zero_le _, rfl, rfl⟩
            case round =>
              obtain ⟨j, hj, rfl, rfl⟩ := hrel
              by_cases hlt : j < n'
              · have hcj := HC'.out j hlt
                have hdj := Qdec.allDig_getD D j (by rw [HDL.out]; exact hlt) HDD.out
                have hv := val_take_bd D j HDD.out (by omega)
                have HV : Hid (Qdec.val (D.take (j + 1)) = Qdec.val (D.take j) * 10 + (D.getD j 0 - 48)) := val_take_succ D j (by rw [HDL.out]; exact hlt)
                generalize D.getD j 0 = cj at hcj hdj HV
                generalize hvj : Qdec.val (D.take j) = v at hv HV
                clear hvj
                obtain ⟨hd1, hd2⟩ := hdj
                obtain ⟨hv1, hv2⟩ := hv
                go_wp2
                go_round
                case rel => exact ⟨j + 1, by omega, by go_num, by rw [HV.out]⟩
                case measure => simp [intOf]; omega
              · have hjn : j = n' := by omega
                subst hjn
                have HTk : Hid (D.take j = D) := by unfold Hid; rw [← HDL.out]; simp
                have hvb := val_bd18 D HDD.out (by rw [HDL.out]; omega)
                rw [HTk.out]
                generalize hvj : Qdec.val D = v at hvb HF
                clear hvj
                obtain ⟨hv1, hv2⟩ := hvb
                go_wp2
                go_ret2
                exact ⟨ret_int_bool (by rw [HF.out]; rfl) (by rw [HF.out]), rfl⟩

/-! ### ZZSmallExponent -/
set_option maxHeartbeats 400000 in
theorem zzSmallExponent_any (a : Option Addr) (n cap : Nat) (xs : List Int) (w : World) (hr : Row w a n cap xs) (hT : Qdec.isExpT xs = true) :
    Calls Try.prog 18 #[.slice a n cap] w fun e w' => e = .returned (.tuple #[.int .i64 (Qdec.smallExp xs).1, .bool (Qdec.smallExp xs).2]) ∧ w' = w := by
  have HR : Hid (Row w a n cap xs) := hr
  have HT : Hid (Qdec.isExpT xs = true) := hT
  clear hr hT
  go_enter Try.func18, Try.ntmps18
  go_wp2_with fail
  refine (smallExponent_any a n cap xs w HR.out HT.out).mono ?_
  rintro e w' ⟨rfl, rfl⟩
  go_wp2
  go_ret2
  exact ⟨rfl, rfl⟩

end Go.Proofs.Qxb6619243a
