/-
  WALKS: isDigit (31), allDigits (10), isExpText (11), firstNonzero (20), lastNonzero (27).
-/
import Derived.Test.Qxb6619243aBase
namespace Go.Proofs.Qxb6619243a
open Go.RowKit

theorem ret_bool {a b : Bool} (h : a = b) : Ending.returned (.bool a) = .returned (.bool b) := by rw [h]
theorem ret_int {k : IntKind} {a b : Int} (h : a = b) : Ending.returned (.int k a) = .returned (.int k b) := by rw [h]

/-! ### allDigits -/
theorem allDig_of {xs : List Int} (k : Nat) (hk : k = xs.length) (h : ∀ i, i < k → Qdec.isDig (xs.getD i 0) = true) : Qdec.allDig xs = true := by
  simp only [Qdec.allDig, List.all_eq_true]
  intro x hx
  obtain ⟨i, hi, rfl⟩ := List.mem_iff_getElem.1 hx
  have := h i (by omega)
  simpa [hi] using this
theorem allDig_not {xs : List Int} (k : Nat) (hk : k < xs.length) (h : Qdec.isDig (xs.getD k 0) = false) : Qdec.allDig xs = false := by
  cases e : Qdec.allDig xs with
  | false => rfl
  | true =>
    have := Qdec.allDig_getD xs k hk e
    rw [← Qdec.isDig_iff, h] at this
    simp at this

set_option maxHeartbeats 400000 in
theorem allDigits_any (a : Option Addr) (n cap : Nat) (xs : List Int) (w : World) (hr : Row w a n cap xs) :
    Calls Try.prog 10 #[.slice a n cap] w fun e w' => e = .returned (.bool (Qdec.allDig xs)) ∧ w' = w := by
  have hlen := hr.len
  have hbd := hr.bd
  by_cases h0 : n = 0
  · subst h0
    have hx : xs = [] := by simpa using hlen
    subst hx
    clear hr hlen hbd
    go_enter Try.func10, Try.ntmps10
    go_wp2
    refine wp_loop_rounds 1 ?_
    rw [rounds_succ]
    go_wp2
    go_ret
    exact ⟨rfl, rfl⟩
  · obtain ⟨b, off, rfl, hc⟩ := hr.cells (by omega)
    have hby := hr.byte
    have HL : Hid (xs.length = n) := hlen
    clear hlen hr
    go_enter Try.func10, Try.ntmps10
    go_wp2
    go_loop [3] (fun i => ∃ k : Nat, k ≤ n ∧ i = .int .i64 k ∧ Hid (∀ i, i < k → Qdec.isDig (xs.getD i 0) = true)) (fun i => n - (intOf i).toNat)
    case atStart => exact ⟨0, Nat.zero_le _, rfl, fun i hi => by omega⟩
    case round =>
      obtain ⟨k, hk, rfl, hall⟩ := hrel
      by_cases hlt : k < n
      · have hck := hc k hlt
        have hbk := hby k
        clear hc hby
        generalize hg : xs.getD k 0 = c at hck hbk
        have HG : Hid (xs.getD k 0 = c) := hg
        clear hg
        by_cases hd : 48 ≤ c ∧ c ≤ 57
        · obtain ⟨hd1, hd2⟩ := hd
          go_wp2
          go_round
          case rel =>
            refine ⟨k + 1, by omega, by go_num, fun i hi => ?_⟩
            by_cases e : i = k
            · subst e; rw [HG.out]; exact Qdec.isDig_iff.2 ⟨hd1, hd2⟩
            · exact hall.out i (by omega)
          case measure => simp [intOf]; omega
        · have hfin : Hid (Qdec.allDig xs = false) := allDig_not k (by rw [HL.out]; exact hlt) (by rw [HG.out]; exact Qdec.isDig_not.2 hd)
          by_cases hd1 : 48 ≤ c
          · have hd2 : ¬ c ≤ 57 := by omega
            clear hd
            go_wp2
            go_ret
            exact ⟨ret_bool hfin.out.symm, rfl⟩
          · clear hd
            go_wp2
            go_ret
            exact ⟨ret_bool hfin.out.symm, rfl⟩
      · clear hc hby
        go_wp2
        go_ret
        exact ⟨ret_bool (allDig_of k (by have := HL.out; omega) hall.out).symm, rfl⟩

/-! ### isExpText -/
theorem allDig_drop_of {xs : List Int} (s k : Nat) (hk : k = xs.length) (h : ∀ i, s ≤ i → i < k → Qdec.isDig (xs.getD i 0) = true) : Qdec.allDig (xs.drop s) = true := by
  refine allDig_of (xs.length - s) (by simp) (fun i hi => ?_)
  have := h (s + i) (by omega) (by omega)
  simpa using this
theorem allDig_drop_not {xs : List Int} (s k : Nat) (hs : s ≤ k) (hk : k < xs.length) (h : Qdec.isDig (xs.getD k 0) = false) : Qdec.allDig (xs.drop s) = false := by
  refine allDig_not (k - s) (by simp; omega) ?_
  have e : s + (k - s) = k := by omega
  simpa [e] using h
/-- how many bytes the sign takes -/
def sgn (xs : List Int) : Nat := if xs.getD 0 0 = 43 ∨ xs.getD 0 0 = 45 then 1 else 0
theorem unsign_eq (xs : List Int) : Qdec.unsign xs = xs.drop (sgn xs) := by
  cases xs with
  | nil => simp [Qdec.unsign]
  | cons c r =>
    simp only [Qdec.unsign, Qdec.isSgn, sgn]
    by_cases h1 : c = 43
    · simp [h1]
    · by_cases h2 : c = 45
      · simp [h2]
      · simp [h1, h2]
theorem sgn_le (xs : List Int) : sgn xs ≤ xs.length := by
  cases xs with
  | nil => simp [sgn]
  | cons c r => simp only [sgn]; split <;> simp

set_option maxHeartbeats 1000000 in
theorem isExpText_any (a : Option Addr) (n cap : Nat) (xs : List Int) (w : World) (hr : Row w a n cap xs) :
    Calls Try.prog 11 #[.slice a n cap] w fun e w' => e = .returned (.bool (Qdec.isExpT xs)) ∧ w' = w := by
  have hlen := hr.len
  have hbd := hr.bd
  have hT : Hid (Qdec.isExpT xs = Qdec.allDig (xs.drop (sgn xs))) := by unfold Qdec.isExpT Hid; rw [unsign_eq]
  by_cases h0 : n = 0
  · subst h0
    have hx : xs = [] := by simpa using hlen
    subst hx
    clear hr hlen hbd hT
    have hd : decide ((0 : Int) < ((0 : Nat) : Int)) = false := by simp
    go_enter Try.func11, Try.ntmps11
    go_wp2
    refine wp_loop_rounds 1 ?_
    rw [rounds_succ]
    go_wp2
    go_ret
    exact ⟨rfl, rfl⟩
  · obtain ⟨b, off, rfl, hc⟩ := hr.cells (by omega)
    have hby := hr.byte
    have HL : Hid (xs.length = n) := hlen
    have hc0 := hc 0 (by omega)
    rw [Nat.add_zero] at hc0
    have hpos : (0 : Int) < (n : Int) := by omega
    have hsl : Hid (sgn xs ≤ xs.length) := sgn_le xs
    have HS : Hid (sgn xs = if xs.getD 0 0 = 43 ∨ xs.getD 0 0 = 45 then 1 else 0) := rfl
    generalize xs.getD 0 0 = c0 at hc0 HS
    clear hlen hr
    have h3 : (c0 = 43) ∨ (c0 = 45) ∨ ((c0 == 43) = false ∧ (c0 == 45) = false) := by
      by_cases h1 : c0 = 43
      · exact .inl h1
      · by_cases h2 : c0 = 45
        · exact .inr (.inl h2)
        · exact .inr (.inr (by simp [h1, h2]))
    rcases h3 with rfl | rfl | ⟨hn1, hn2⟩
    case' inl => have HS' : Hid (sgn xs = 1) := by rw [Hid, HS.out]; simp
    case' inr.inl => have HS' : Hid (sgn xs = 1) := by rw [Hid, HS.out]; simp
    case' inr.inr => have HS' : Hid (sgn xs = 0) := by rw [Hid, HS.out]; simp at hn1 hn2; simp [hn1, hn2]
    all_goals
      clear HS
      go_enter Try.func11, Try.ntmps11
      go_wp2
      go_loop [4] (fun i => ∃ k : Nat, sgn xs ≤ k ∧ k ≤ n ∧ i = .int .i64 k ∧ Hid (∀ i, sgn xs ≤ i → i < k → Qdec.isDig (xs.getD i 0) = true)) (fun i => n - (intOf i).toNat)
      case atStart => exact ⟨sgn xs, Nat.le_refl _, by have := hsl.out; have := HL.out; omega, by rw [HS'.out]; rfl, fun i h1 h2 => by omega⟩
      case round =>
        obtain ⟨k, hks, hk, rfl, hall⟩ := hrel
        have HKS : Hid (sgn xs ≤ k) := hks
        clear hks
        by_cases hlt : k < n
        · have hck := hc k hlt
          have hbk := hby k
          clear hc hby
          generalize hg : xs.getD k 0 = c at hck hbk
          have HG : Hid (xs.getD k 0 = c) := hg
          clear hg
          by_cases hd : 48 ≤ c ∧ c ≤ 57
          · obtain ⟨hd1, hd2⟩ := hd
            go_wp2
            go_round
            case rel =>
              refine ⟨k + 1, by have := HKS.out; omega, by omega, by go_num, fun i hi1 hi => ?_⟩
              by_cases e : i = k
              · subst e; rw [HG.out]; exact Qdec.isDig_iff.2 ⟨hd1, hd2⟩
              · exact hall.out i hi1 (by omega)
            case measure => simp [intOf]; omega
          · have hfin : Hid (Qdec.isExpT xs = false) := by rw [Hid, hT.out]; exact allDig_drop_not _ k HKS.out (by rw [HL.out]; exact hlt) (by rw [HG.out]; exact Qdec.isDig_not.2 hd)
            by_cases hd1 : 48 ≤ c
            · have hd2 : ¬ c ≤ 57 := by omega
              clear hd
              go_wp2
              go_ret
              exact ⟨ret_bool hfin.out.symm, rfl⟩
            · clear hd
              go_wp2
              go_ret
              exact ⟨ret_bool hfin.out.symm, rfl⟩
        · clear hc hby
          go_wp2
          go_ret
          exact ⟨ret_bool (by rw [hT.out, allDig_drop_of _ k (by have := HL.out; omega) hall.out]), rfl⟩

end Go.Proofs.Qxb6619243a
