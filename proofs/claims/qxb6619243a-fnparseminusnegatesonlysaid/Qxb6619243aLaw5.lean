/-
  FnSmallExponentSignNegates (5).
-/
import Derived.Test.Qxb6619243aWalksE
namespace Go.Proofs.Qxb6619243a
open Go.RowKit

theorem Filled.kept {w w' : World} {B g n k : Nat} {xs : List Int} {row : Option Nat} (h : Filled w B g n xs k) (hg : w.grownBy w' row) (hne : some g ≠ row) : Filled w' B g n xs k := by
  obtain ⟨L, h1, h2⟩ := h.own
  exact ⟨L, h1.kept hg (.inr hne), h2⟩
theorem Filled.setOther {w : World} {B g n k : Nat} {xs : List Int} (h : Filled w B g n xs k) (g' j : Nat) (v : Value) (hne : g ≠ g') : Filled (w.setCell ⟨g', j, none⟩ v) B g n xs k :=
  h.kept (row := some g') ⟨rfl, rfl, rfl, by simp [World.setCell], fun i _ hi => Below.heap_setCell _ _ _ _ (by simpa using fun e => hi (by simp [e]))⟩ (by simpa using hne)

theorem smallExp_digits (xs : List Int) (h : Qdec.allDig xs = true) : Qdec.unsign xs = xs ∧ Qdec.isNeg xs = false := by
  cases xs with
  | nil => exact ⟨rfl, rfl⟩
  | cons c r =>
    rw [Qdec.allDig_cons] at h
    constructor
    · have hs : Qdec.isSgn c = false := by simp [Qdec.isSgn]; omega
      simp [Qdec.unsign, hs]
    · simp [Qdec.isNeg]; omega
theorem smallExp_plus (xs : List Int) (h : Qdec.allDig xs = true) : Qdec.smallExp (43 :: xs) = Qdec.smallExp xs := by
  obtain ⟨h1, h2⟩ := smallExp_digits xs h
  unfold Qdec.smallExp
  rw [h1, h2]
  rfl
theorem smallExp_minus (xs : List Int) (h : Qdec.allDig xs = true) : Qdec.smallExp (45 :: xs) = (- (Qdec.smallExp xs).1, (Qdec.smallExp xs).2) := by
  obtain ⟨h1, h2⟩ := smallExp_digits xs h
  have e : Qdec.unsign (45 :: xs) = xs := rfl
  have e2 : Qdec.isNeg (45 :: xs) = true := rfl
  unfold Qdec.smallExp
  rw [h1, h2, e, e2]
  split <;> simp
theorem val_trim_pos (xs : List Int) (h : Qdec.allDig xs = true) (hl : Qdec.lead xs < xs.length) : 0 < Qdec.val (Qdec.trimL xs) := by
  unfold Qdec.trimL
  have h1 := Qdec.lead_stop xs hl
  have h2 := Qdec.allDig_getD xs _ hl h
  have h3 := Qdec.val_bd _ (Qdec.allDig_drop xs (Qdec.lead xs + 1) h)
  rw [List.drop_eq_getElem_cons hl, Qdec.val_cons]
  have e : xs.getD (Qdec.lead xs) 0 = xs[Qdec.lead xs] := by simp [hl]
  rw [e] at h1 h2
  have hp := Qdec.pow_pos10 (xs.drop (Qdec.lead xs + 1)).length
  have := Int.mul_pos (show 0 < xs[Qdec.lead xs] - 48 by omega) hp
  omega
/-- the three ways -/
theorem sig_cases (xs : List Int) (h : Qdec.allDig xs = true) :
    (Qdec.lead xs = xs.length ∧ Qdec.smallExp xs = (0, true)) ∨
    (Qdec.lead xs < xs.length ∧ xs.length - Qdec.lead xs ≤ 18 ∧ ∃ v, 0 < v ∧ v ≤ 999999999999999999 ∧ Qdec.smallExp xs = (v, true)) ∨
    (18 < xs.length - Qdec.lead xs ∧ Qdec.smallExp xs = (0, false)) := by
  obtain ⟨h1, h2⟩ := smallExp_digits xs h
  have hle := Qdec.lead_le xs
  unfold Qdec.smallExp
  rw [h1, h2, Qdec.trimL_length]
  by_cases ha : Qdec.lead xs = xs.length
  · left
    refine ⟨ha, ?_⟩
    rw [if_neg (by omega), (Qdec.trimL_nil_iff xs).2 ha]
    rfl
  · by_cases hb : 18 < xs.length - Qdec.lead xs
    · right; right
      exact ⟨hb, by rw [if_pos hb]⟩
    · right; left
      refine ⟨by omega, by omega, Qdec.val (Qdec.trimL xs), val_trim_pos xs h (by omega), ?_, by rw [if_neg hb]; rfl⟩
      exact (val_bd18 _ (Qdec.allDig_drop xs _ h) (by simp; omega)).2

theorem cons_byte {xs : List Int} (c : Int) (hc : 0 ≤ c ∧ c ≤ 255) (h : ∀ i, 0 ≤ xs.getD i 0 ∧ xs.getD i 0 ≤ 255) : ∀ i, 0 ≤ (c :: xs).getD i 0 ∧ (c :: xs).getD i 0 ≤ 255 := by
  intro i
  cases i with
  | zero => simpa using hc
  | succ i => simpa using h i

set_option maxHeartbeats 4000000 in
theorem law5 (a : Option Addr) (n cap : Nat) (xs : List Int) (w : World) (hn : n ≤ 1048576) (hr : Row w a n cap xs) :
    Calls Try.prog 5 #[.slice a n cap] w fun e w' => e = .returned (.bool true) ∧ Below w.heap.size w w' := by
  have HR : Hid (Row w a n cap xs) := hr
  have HL : Hid (xs.length = n) := hr.len
  have HBY : Hid (∀ i, 0 ≤ xs.getD i 0 ∧ xs.getD i 0 ≤ 255) := hr.byte
  clear hr
  obtain ⟨i0, hi, hz0, hz1, hz2⟩ := info_parts info5
  have hd20 : decide ((1048576 : Int) < (n : Int)) = false := by simp; omega
  go_enter Try.func5, Try.ntmps5
  go_wp2_with fail
  refine (zz19 a n cap _ hn).mono ?_
  rintro e w0 ⟨rfl, rfl⟩
  go_wp2_with fail
  refine (allDigits_any a n cap xs _ HR.out).mono ?_
  rintro e w0 ⟨rfl, rfl⟩
  cases hT : Qdec.allDig xs with
  | false =>
    go_wp2
    go_ret
    exact ⟨rfl, Below.refl _ _⟩
  | true =>
    have HT : Hid (Qdec.allDig xs = true) := hT
    clear hT
    go_wp2_with fail
    refine (cloneBytes_any a n cap xs _ HR.out).mono ?_
    rintro e w1 ⟨a1, c1, rfl, _, HR1, HB1⟩
    have HR1' : Hid (Row w1 a1 n c1 xs) := HR1
    have HB1' : Hid (Below _ _ w1) := HB1
    clear HR1 HB1 HR
    go_wp2_with (at_make; refine wpList_make_full _ rfl _ _ 22 rfl w1.heap.size 5 i0 (.int .u8 0) 1 Try.underlying22 hi hz0 hz1 _ _ _ _ (n + 1) rfl rfl (by omega) (by omega) ?c1 ?c2 ?c3 ?_)
    case c1 => rw [hz2]; omega
    case c2 => unfold maxLen; omega
    case c3 => exact Nat.le_refl _
    intro w2 hown hgrow
    have HF1 : Hid (Filled w2 w1.heap.size w1.heap.size (n + 1) (43 :: xs) 0) := ⟨_, hown, fun i hi => by omega⟩
    have HB2 : Hid (Below w1.heap.size w1 w2) := (Below.refl _ _).grown hgrow (Nat.le_refl _) (fun k hk => by simp at hk)
    have hs12 : w1.heap.size < w2.heap.size := HF1.out.lt.2
    clear hown hgrow
    go_wp2_with (at_make; refine wpList_make_full _ rfl _ _ 22 rfl w2.heap.size 5 i0 (.int .u8 0) 1 Try.underlying22 hi hz0 hz1 _ _ _ _ (n + 1) rfl rfl (by omega) (by omega) ?d1 ?d2 ?d3 ?_)
    case d1 => rw [hz2]; omega
    case d2 => unfold maxLen; omega
    case d3 => exact Nat.le_refl _
    intro w3 hown hgrow
    have HG2 : Hid (Filled w3 w2.heap.size w2.heap.size (n + 1) (45 :: xs) 0) := ⟨_, hown, fun i hi => by omega⟩
    have HF2 : Hid (Filled w3 w1.heap.size w1.heap.size (n + 1) (43 :: xs) 0) := HF1.out.kept hgrow (by simp)
    have HB3 : Hid (Below w1.heap.size w1 w3) := HB2.out.grown hgrow (by omega) (fun k hk => by simp at hk)
    clear hown hgrow HF1 HB2 hi hz0 hz1 hz2
    have hne : ¬ w1.heap.size = w2.heap.size := by omega
    have hne' : ¬ w2.heap.size = w1.heap.size := by omega
    have hle12 : w1.heap.size ≤ w2.heap.size := by omega
    obtain ⟨g2, hg2⟩ : ∃ g, g = w2.heap.size := ⟨_, rfl⟩
    rw [← hg2] at HG2 hne hne' hle12 hs12 ⊢
    clear hg2
    obtain ⟨v1, hv1⟩ := HF2.out.cell 0 (by omega)
    have hf1 := HF2.out.free 0
    obtain ⟨v2, hv2⟩ := HG2.out.cell 0 (by omega)
    have hf2 := HG2.out.free 0
    have HF3 : Hid (Filled (w3.setCell ⟨w1.heap.size, 0, none⟩ (.int .u8 43)) w1.heap.size w1.heap.size (n + 1) (43 :: xs) 1) := HF2.out.set (by omega)
    have HG3 : Hid (Filled ((w3.setCell ⟨w1.heap.size, 0, none⟩ (.int .u8 43)).setCell ⟨g2, 0, none⟩ (.int .u8 45)) g2 g2 (n + 1) (45 :: xs) 1) := (HG2.out.setOther w1.heap.size 0 _ hne').set (by omega)
    have HF4 : Hid (Filled ((w3.setCell ⟨w1.heap.size, 0, none⟩ (.int .u8 43)).setCell ⟨g2, 0, none⟩ (.int .u8 45)) w1.heap.size w1.heap.size (n + 1) (43 :: xs) 1) := HF3.out.setOther g2 0 _ hne
    have HB4 : Hid (Below w1.heap.size w1 ((w3.setCell ⟨w1.heap.size, 0, none⟩ (.int .u8 43)).setCell ⟨g2, 0, none⟩ (.int .u8 45))) := (HB3.out.setCell (p := ⟨w1.heap.size, 0, none⟩) (Nat.le_refl _) _).setCell (p := ⟨g2, 0, none⟩) hle12 _
    clear HF2 HG2 HF3 HB3
    go_wp2
    go_loopw [5] (fun i wr => ∃ k : Nat, k ≤ n ∧ i = .int .i64 k ∧ Hid (Filled wr w1.heap.size w1.heap.size (n + 1) (43 :: xs) (k + 1)) ∧ Hid (Filled wr g2 g2 (n + 1) (45 :: xs) (k + 1)) ∧ Hid (Below w1.heap.size w1 wr)) (fun i _ => n - (intOf i).toNat)
    case atStart => exact ⟨0, Nat.zero_le _, rfl, HF4, HG3, HB4⟩
    case round =>
      obtain ⟨k, hk, rfl, HFr, HGr, HBr⟩ := hrel
      clear HF4 HG3 HB4 hv1 hf1 hv2 hf2
      by_cases hlt : k < n
      · obtain ⟨b, off, rfl, hc⟩ := HR1'.out.cells (by omega)
        have hck := hc k hlt
        have hblt := cell_lt hck
        have hblt1 : b < w1.heap.size := hblt
        rw [← HBr.out.cell hblt] at hck
        have hb1 : ¬ w1.heap.size = b := by omega
        have hb2 : ¬ g2 = b := by omega
        clear hc hblt hblt1
        obtain ⟨v1, hv1⟩ := HFr.out.cell (k + 1) (by omega)
        have hf1 := HFr.out.free (k + 1)
        obtain ⟨v2, hv2⟩ := HGr.out.cell (k + 1) (by omega)
        have hf2 := HGr.out.free (k + 1)
        have HF5 : Hid (Filled ((wr.setCell ⟨w1.heap.size, k + 1, none⟩ (.int .u8 (xs.getD k 0))).setCell ⟨g2, k + 1, none⟩ (.int .u8 (xs.getD k 0))) w1.heap.size w1.heap.size (n + 1) (43 :: xs) (k + 1 + 1)) := by
          have := (HFr.out.set (by omega)).setOther g2 (k + 1) (.int .u8 (xs.getD k 0)) hne
          unfold Hid; simpa using this
        have HG5 : Hid (Filled ((wr.setCell ⟨w1.heap.size, k + 1, none⟩ (.int .u8 (xs.getD k 0))).setCell ⟨g2, k + 1, none⟩ (.int .u8 (xs.getD k 0))) g2 g2 (n + 1) (45 :: xs) (k + 1 + 1)) := by
          have := (HGr.out.setOther w1.heap.size (k + 1) (.int .u8 (xs.getD k 0)) hne').set (by omega)
          unfold Hid; simpa using this
        have HB5 : Hid (Below w1.heap.size w1 ((wr.setCell ⟨w1.heap.size, k + 1, none⟩ (.int .u8 (xs.getD k 0))).setCell ⟨g2, k + 1, none⟩ (.int .u8 (xs.getD k 0)))) := (HBr.out.setCell (p := ⟨w1.heap.size, k + 1, none⟩) (Nat.le_refl _) _).setCell (p := ⟨g2, k + 1, none⟩) hle12 _
        generalize xs.getD k 0 = c at hck HF5 HG5 HB5
        clear HFr HGr HBr
        go_wp2
        go_roundw
        case rel => exact ⟨k + 1, by omega, by go_num, HF5, HG5, HB5⟩
        case measure => simp [intOf]; omega
      · have hkn : k = n := by omega
        subst hkn
        have HRd : Hid (Row wr a1 k c1 xs) := HR1'.out.below HBr.out (Nat.le_refl _)
        have HRp : Hid (Row wr (some ⟨w1.heap.size, 0, none⟩) (k + 1) (k + 1) (43 :: xs)) := HFr.out.row (by simp [HL.out]) (by omega) (cons_byte 43 (by omega) HBY.out)
        have HRm : Hid (Row wr (some ⟨g2, 0, none⟩) (k + 1) (k + 1) (45 :: xs)) := HGr.out.row (by simp [HL.out]) (by omega) (cons_byte 45 (by omega) HBY.out)
        clear HFr HGr hlt hk
        go_wp2_with fail
        refine (firstNonzero_any a1 k c1 xs _ HRd.out).mono ?_
        rintro e w4 ⟨rfl, rfl⟩
        have HE1 : Hid (Qdec.isExpT xs = true) := by unfold Hid Qdec.isExpT; rw [(smallExp_digits xs HT.out).1]; exact HT.out
        have HE2 : Hid (Qdec.isExpT (43 :: xs) = true) := HT
        have HE3 : Hid (Qdec.isExpT (45 :: xs) = true) := HT
        have HP : Hid (Qdec.smallExp (43 :: xs) = Qdec.smallExp xs) := smallExp_plus xs HT.out
        have HM : Hid (Qdec.smallExp (45 :: xs) = (- (Qdec.smallExp xs).1, (Qdec.smallExp xs).2)) := smallExp_minus xs HT.out
        rcases sig_cases xs HT.out with ⟨hl, hS⟩ | ⟨hl, hl2, v, hv1, hv2, hS⟩ | ⟨hl, hS⟩
        all_goals
          have HS : Hid (Qdec.smallExp xs = _) := hS
          rw [hS] at HP HM
          clear hS
        · have hf : fnz xs = -1 := by unfold fnz; rw [if_pos hl]
          rw [hf]
          clear hf hl
          go_wp2_with fail
          refine (cloneBytes_any a1 k c1 xs _ HRd.out).mono ?_
          rintro e w5 ⟨a2, c2, rfl, _, HR2, HB2⟩
          have HR2' : Hid (Row w5 a2 k c2 xs) := HR2
          have HB2' : Hid (Below _ _ w5) := HB2
          clear HR2 HB2
          have HRp' : Hid (Row w5 _ (k + 1) (k + 1) (43 :: xs)) := HRp.out.below HB2'.out (Nat.le_refl _)
          have HRm' : Hid (Row w5 _ (k + 1) (k + 1) (45 :: xs)) := HRm.out.below HB2'.out (Nat.le_refl _)
          go_wp2_with fail
          refine (zzSmallExponent_any a2 k c2 xs _ HR2'.out HE1.out).mono ?_
          rintro e w6 ⟨rfl, rfl⟩
          rw [HS.out]
          go_wp2_with fail
          refine (zzSmallExponent_any _ _ _ (43 :: xs) _ HRp'.out HE2.out).mono ?_
          rintro e w6 ⟨rfl, rfl⟩
          rw [HP.out]
          go_wp2_with fail
          refine (zzSmallExponent_any _ _ _ (45 :: xs) _ HRm'.out HE3.out).mono ?_
          rintro e w6 ⟨rfl, rfl⟩
          rw [HM.out]
          go_wp2
          go_ret
          exact ⟨rfl, HB1'.out.trans ((HBr.out.trans (HB2'.out.mono HBr.out.size)).mono HB1'.out.size)⟩
        · have hf : fnz xs = (Qdec.lead xs : Int) := by unfold fnz; rw [if_neg (by omega)]
          rw [hf]
          rw [HL.out] at hl hl2
          generalize Qdec.lead xs = L at hl hl2
          clear hf
          have hvz : (v == 0) = false := by simp; omega
          have hsz : ((k : Int) - (L : Int) == 0) = false := by simp; omega
          have hsl : decide ((k : Int) - (L : Int) ≤ 18) = true := by simp; omega
          have hvv := small_eq v
          have hvv' := small_eq (-v)
          go_wp2_with fail
          refine (cloneBytes_any a1 k c1 xs _ HRd.out).mono ?_
          rintro e w5 ⟨a2, c2, rfl, _, HR2, HB2⟩
          have HR2' : Hid (Row w5 a2 k c2 xs) := HR2
          have HB2' : Hid (Below _ _ w5) := HB2
          clear HR2 HB2
          have HRp' : Hid (Row w5 _ (k + 1) (k + 1) (43 :: xs)) := HRp.out.below HB2'.out (Nat.le_refl _)
          have HRm' : Hid (Row w5 _ (k + 1) (k + 1) (45 :: xs)) := HRm.out.below HB2'.out (Nat.le_refl _)
          go_wp2_with fail
          refine (zzSmallExponent_any a2 k c2 xs _ HR2'.out HE1.out).mono ?_
          rintro e w6 ⟨rfl, rfl⟩
          rw [HS.out]
          go_wp2_with fail
          refine (zzSmallExponent_any _ _ _ (43 :: xs) _ HRp'.out HE2.out).mono ?_
          rintro e w6 ⟨rfl, rfl⟩
          rw [HP.out]
          go_wp2_with fail
          refine (zzSmallExponent_any _ _ _ (45 :: xs) _ HRm'.out HE3.out).mono ?_
          rintro e w6 ⟨rfl, rfl⟩
          rw [HM.out]
          go_wp2
          go_ret
          exact ⟨rfl, HB1'.out.trans ((HBr.out.trans (HB2'.out.mono HBr.out.size)).mono HB1'.out.size)⟩
        · have hf : fnz xs = (Qdec.lead xs : Int) := by unfold fnz; rw [if_neg (by omega)]
          rw [hf]
          rw [HL.out] at hl
          generalize Qdec.lead xs = L at hl
          clear hf
          have hsl : decide ((k : Int) - (L : Int) ≤ 18) = false := by simp; omega
          have hLk : L ≤ k := by omega
          go_wp2_with fail
          refine (cloneBytes_any a1 k c1 xs _ HRd.out).mono ?_
          rintro e w5 ⟨a2, c2, rfl, _, HR2, HB2⟩
          have HR2' : Hid (Row w5 a2 k c2 xs) := HR2
          have HB2' : Hid (Below _ _ w5) := HB2
          clear HR2 HB2
          have HRp' : Hid (Row w5 _ (k + 1) (k + 1) (43 :: xs)) := HRp.out.below HB2'.out (Nat.le_refl _)
          have HRm' : Hid (Row w5 _ (k + 1) (k + 1) (45 :: xs)) := HRm.out.below HB2'.out (Nat.le_refl _)
          go_wp2_with fail
          refine (zzSmallExponent_any a2 k c2 xs _ HR2'.out HE1.out).mono ?_
          rintro e w6 ⟨rfl, rfl⟩
          rw [HS.out]
          go_wp2_with fail
          refine (zzSmallExponent_any _ _ _ (43 :: xs) _ HRp'.out HE2.out).mono ?_
          rintro e w6 ⟨rfl, rfl⟩
          rw [HP.out]
          go_wp2_with fail
          refine (zzSmallExponent_any _ _ _ (45 :: xs) _ HRm'.out HE3.out).mono ?_
          rintro e w6 ⟨rfl, rfl⟩
          rw [HM.out]
          go_wp2
          go_ret
          exact ⟨rfl, HB1'.out.trans ((HBr.out.trans (HB2'.out.mono HBr.out.size)).mono HB1'.out.size)⟩

set_option maxHeartbeats 400000 in
theorem law5' (a : Option Addr) (n cap : Nat) (w : World) (hn : ¬ n ≤ 1048576) (hm : n ≤ maxLen) :
    Calls Try.prog 5 #[.slice a n cap] w fun e w' => e = .returned (.bool true) ∧ Below w.heap.size w w' := by
  go_enter Try.func5, Try.ntmps5
  go_wp2_with fail
  refine (zz19' a n cap _ hn hm).mono ?_
  rintro e w0 ⟨rfl, rfl⟩
  go_wp2
  go_ret
  exact ⟨rfl, Below.refl _ _⟩

end Go.Proofs.Qxb6619243a
