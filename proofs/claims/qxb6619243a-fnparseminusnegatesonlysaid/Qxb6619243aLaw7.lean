/-
  isPlainInteger (26), FnParseMinusNegatesOnly (7).
-/
import Derived.Test.Qxb6619243aParsePlain
import Derived.Test.Qxb6619243aLaw5
import Derived.Test.Qxb6619243aLaw3
namespace Go.Proofs.Qxb6619243a
open Go.RowKit

set_option maxHeartbeats 1000000 in
theorem isPlain_any (a : Option Addr) (n cap : Nat) (xs : List Int) (w : World) (hr : Row w a n cap xs) :
    Calls Try.prog 26 #[.slice a n cap] w fun e w' => e = .returned (.bool (plainB xs)) ∧ w' = w := by
  have HR : Hid (Row w a n cap xs) := hr
  have HL : Hid (xs.length = n) := hr.len
  by_cases h0 : n = 0
  · subst h0
    have HF : Hid (plainB xs = false) := by unfold Hid plainB; rw [HL.out]; rfl
    clear hr
    go_enter Try.func26, Try.ntmps26
    go_wp2
    go_ret
    exact ⟨ret_bool HF.out.symm, rfl⟩
  · obtain ⟨b, off, rfl, hc⟩ := hr.cells (by omega)
    have hc0 := hc 0 (by omega)
    rw [Nat.add_zero] at hc0
    have hpos : (0 : Int) < (n : Int) := by omega
    have hnz : ((n : Int) == 0) = false := by simp; omega
    have HP : Hid (plainB xs = (Qdec.allDig xs && (decide (xs.getD 0 0 ≠ 48) || decide (n = 1)))) := by
      unfold Hid plainB; rw [HL.out]; simp [h0]
    generalize xs.getD 0 0 = c0 at hc0 HP
    clear hc hr
    go_enter Try.func26, Try.ntmps26
    go_wp2_with fail
    refine (allDigits_any _ n cap xs _ HR.out).mono ?_
    rintro e w0 ⟨rfl, rfl⟩
    cases hT : Qdec.allDig xs with
    | false =>
      have HF : Hid (plainB xs = false) := by rw [Hid, HP.out, hT]; rfl
      clear hT
      go_wp2
      go_ret
      exact ⟨ret_bool HF.out.symm, rfl⟩
    | true =>
      by_cases h48 : c0 = 48
      · have hb : (c0 != 48) = false := by simp [h48]
        by_cases h1 : n = 1
        · have HF : Hid (plainB xs = true) := by rw [Hid, HP.out, hT, h48]; simp [h1]
          have hb1 : ((n : Int) == 1) = true := by simp; omega
          clear hT h48 h1
          go_wp2
          go_ret
          exact ⟨ret_bool (by rw [HF.out]), rfl⟩
        · have HF : Hid (plainB xs = false) := by rw [Hid, HP.out, hT, h48]; simp [h1]
          have hb1 : ((n : Int) == 1) = false := by simp; omega
          clear hT h48 h1
          go_wp2
          go_ret
          exact ⟨ret_bool (by rw [HF.out]), rfl⟩
      · have hb : (c0 != 48) = true := by simpa using h48
        have HF : Hid (plainB xs = true) := by rw [Hid, HP.out, hT]; simp [h48]
        clear hT h48
        go_wp2
        go_ret
        exact ⟨ret_bool (by rw [HF.out]), rfl⟩

theorem box5w {w W w1 : World} {v0 v1 v2 v3 v4 : Value} {t : TypeId} (hW : W = w.alloc (.cells #[v0, v1, v2, v3, v4] t)) (hb : Below W.heap.size W w1) :
    Cells5 w1 w.heap.size v0 v1 v2 v3 v4 := by
  subst hW
  exact (box5 (by simpa using hb)).1

/-- the starts-with test, as the walk needs it -/
theorem starts_dec (xs : List Int) : ∃ b, Hid (decide (xs.getD 0 0 = 45) = b) := ⟨_, rfl⟩

set_option maxHeartbeats 4000000 in
set_option maxRecDepth 100000 in
theorem law7 (a : Option Addr) (n cap : Nat) (xs : List Int) (w : World) (hn : n ≤ 1048576) (hr : Row w a n cap xs) :
    Calls Try.prog 7 #[.slice a n cap] w fun e w' => e = .returned (.bool true) ∧ Below w.heap.size w w' := by
  have hnil := fun (w : World) (a : Option Addr) (n c : Nat) => Lib.run_eql_slice_nil (P := Try.prog) w 22 5 a n c 0 0 Try.underlying22
  have hnnil := fun (w : World) (a : Option Addr) (n c : Nat) => run_neq_slice_nil_any (P := Try.prog) w 22 5 a n c 0 0 Try.underlying22
  have HR : Hid (Row w a n cap xs) := hr
  have HL : Hid (xs.length = n) := hr.len
  have HBY : Hid (∀ i, 0 ≤ xs.getD i 0 ∧ xs.getD i 0 ≤ 255) := hr.byte
  clear hr
  obtain ⟨i0, hi, hz0, hz1, hz2⟩ := info_parts info5
  have hd20 : decide ((1048576 : Int) < (n : Int)) = false := by simp; omega
  go_enter Try.func7, Try.ntmps7
  go_wp2_with fail
  refine (zz25 a n cap _ hn).mono ?_
  rintro e w0 ⟨rfl, rfl⟩
  go_wp2_with fail
  refine (cloneBytes_any a n cap xs _ HR.out).mono ?_
  rintro e w1 ⟨a1, c1, rfl, _, HR1, HB1⟩
  have HR1' : Hid (Row w1 a1 n c1 xs) := HR1
  have HB1' : Hid (Below _ _ w1) := HB1
  clear HR1 HB1 HR
  go_wp2_with (at_make; refine wpList_make_full _ rfl _ _ 22 rfl w1.heap.size 5 i0 (.int .u8 0) 1 Try.underlying22 hi hz0 hz1 _ _ _ _ (n + 1) rfl rfl (by omega) (by omega) ?c1 ?c2 ?c3 ?_)
  case c1 => rw [hz2]; omega
  case c2 => unfold maxLen; omega
  case c3 => exact Nat.le_refl _
  intro w3 hown hgrow
  have HG2 : Hid (Filled w3 w1.heap.size w1.heap.size (n + 1) (45 :: xs) 0) := ⟨_, hown, fun i hi => by omega⟩
  have HB3 : Hid (Below w1.heap.size w1 w3) := (Below.refl _ _).grown hgrow (Nat.le_refl _) (fun k hk => by simp at hk)
  clear hown hgrow hi hz0 hz1 hz2
  obtain ⟨v2, hv2⟩ := HG2.out.cell 0 (by omega)
  have hf2 := HG2.out.free 0
  have HG3 : Hid (Filled (w3.setCell ⟨w1.heap.size, 0, none⟩ (.int .u8 45)) w1.heap.size w1.heap.size (n + 1) (45 :: xs) 1) := HG2.out.set (by omega)
  have HB4 : Hid (Below w1.heap.size w1 (w3.setCell ⟨w1.heap.size, 0, none⟩ (.int .u8 45))) := HB3.out.setCell (p := ⟨w1.heap.size, 0, none⟩) (Nat.le_refl _) _
  clear HG2 HB3
  go_wp2
  go_loopw [4] (fun i wr => ∃ k : Nat, k ≤ n ∧ i = .int .i64 k ∧ Hid (Filled wr w1.heap.size w1.heap.size (n + 1) (45 :: xs) (k + 1)) ∧ Hid (Below w1.heap.size w1 wr)) (fun i _ => n - (intOf i).toNat)
  case atStart => exact ⟨0, Nat.zero_le _, rfl, HG3, HB4⟩
  case round =>
    obtain ⟨k, hk, rfl, HGr, HBr⟩ := hrel
    clear HG3 HB4 hv2 hf2
    by_cases hlt : k < n
    · obtain ⟨b, off, rfl, hc⟩ := HR1'.out.cells (by omega)
      have hck := hc k hlt
      have hblt := cell_lt hck
      rw [← HBr.out.cell hblt] at hck
      clear hc hblt
      obtain ⟨v2, hv2⟩ := HGr.out.cell (k + 1) (by omega)
      have hf2 := HGr.out.free (k + 1)
      have HG5 : Hid (Filled (wr.setCell ⟨w1.heap.size, k + 1, none⟩ (.int .u8 (xs.getD k 0))) w1.heap.size w1.heap.size (n + 1) (45 :: xs) (k + 1 + 1)) := by
        have := HGr.out.set (by omega)
        unfold Hid; simpa using this
      have HB5 : Hid (Below w1.heap.size w1 (wr.setCell ⟨w1.heap.size, k + 1, none⟩ (.int .u8 (xs.getD k 0)))) := HBr.out.setCell (p := ⟨w1.heap.size, k + 1, none⟩) (Nat.le_refl _) _
      generalize xs.getD k 0 = c at hck HG5 HB5
      clear HGr HBr
      go_wp2
      go_roundw
      case rel => exact ⟨k + 1, by omega, by go_num, HG5, HB5⟩
      case measure => simp [intOf]; omega
    · have hkn : k = n := by omega
      subst hkn
      have RB : Hid (Row wr a1 k c1 xs) := HR1'.out.below HBr.out (Nat.le_refl _)
      have RM : Hid (Row wr (some ⟨w1.heap.size, 0, none⟩) (k + 1) (k + 1) (45 :: xs)) := HGr.out.row (by simp [HL.out]) (by omega) (cons_byte 45 (by omega) HBY.out)
      have HB : Hid (Below _ _ wr) := HB1'.out.trans (HBr.out.mono HB1'.out.size)
      clear HGr hlt hk HBr HB1' HR1'
      go_wp2_with fail
      refine (isPlain_any a1 k c1 xs _ RB.out).mono ?_
      rintro e w4 ⟨rfl, rfl⟩
      go_wp2_with fail
      refine (lastNonzero_any a1 k c1 xs _ RB.out).mono ?_
      rintro e w4 ⟨rfl, rfl⟩
      go_wp2_with fail
      refine (cloneBytes_any a1 k c1 xs _ RB.out).mono ?_
      rintro e w5 ⟨a2, c2, rfl, _, qB, hB⟩
      have KB5 : Hid (Row w5 a2 k c2 xs) := qB
      have RB5 : Hid (Row w5 a1 k c1 xs) := RB.out.below hB (Nat.le_refl _)
      have RM5 : Hid (Row w5 (some ⟨w1.heap.size, 0, none⟩) (k + 1) (k + 1) (45 :: xs)) := RM.out.below hB (Nat.le_refl _)
      have HB5 : Hid (Below _ _ w5) := HB.out.trans (hB.mono HB.out.size)
      clear qB hB RB RM HB
      go_wp2_with fail
      refine (parse_any a2 k c2 xs _ KB5.out).mono ?_
      rintro e w6 ⟨v1, rfl, qN, hB⟩
      have HN6 : Hid (IsNum w6 v1 ((parse xs).getD Num.zero)) := qN.below hB (Nat.le_refl _)
      have RB6 : Hid (Row w6 a1 k c1 xs) := RB5.out.below hB (Nat.le_refl _)
      have RM6 : Hid (Row w6 (some ⟨w1.heap.size, 0, none⟩) (k + 1) (k + 1) (45 :: xs)) := RM5.out.below hB (Nat.le_refl _)
      have HB6 : Hid (Below _ _ w6) := HB5.out.trans (hB.mono HB5.out.size)
      clear qN hB KB5 RB5 RM5 HB5
      obtain ⟨e1, f1, s1, e2, f2, s2, e3, f3, s3, hv, _⟩ := HN6.out
      rw [hv]
      rw [hv] at HN6
      clear hv
      generalize hNN1 : (parse xs).getD Num.zero = N1 at HN6 ⊢
      have HNN1 : Hid ((parse xs).getD Num.zero = N1) := hNN1
      clear hNN1
      generalize hok1 : (parse xs).isSome = ok1
      have HOK1 : Hid ((parse xs).isSome = ok1) := hok1
      clear hok1
      obtain ⟨W, HW⟩ : ∃ W, Hid (W = w6.alloc (.cells #[.bool N1.neg, .slice e1 f1 s1, .slice e2 f2 s2, .int .i64 N1.point, .slice e3 f3 s3] 28)) := ⟨_, rfl⟩
      have hbW : Hid (Below w6.heap.size w6 W) := by rw [HW.out]; exact (Below.refl _ _).alloc (Nat.le_refl _) _
      go_wp2_with fail
      rw [← HW.out]
      have RMW : Hid (Row W (some ⟨w1.heap.size, 0, none⟩) (k + 1) (k + 1) (45 :: xs)) := RM6.out.below hbW.out (Nat.le_refl _)
      have RBW : Hid (Row W a1 k c1 xs) := RB6.out.below hbW.out (Nat.le_refl _)
      have HNW : Hid (IsNum W _ N1) := HN6.out.below hbW.out (Nat.le_refl _)
      have HBW : Hid (Below _ _ W) := HB6.out.trans (hbW.out.mono HB6.out.size)
      clear RM6 RB6 HN6 HB6 hbW
      refine (parse_any _ _ _ (45 :: xs) _ RMW.out).mono ?_
      rintro e w7 ⟨v2, rfl, qN, hB⟩
      have HN7 : Hid (IsNum w7 v2 ((parse (45 :: xs)).getD Num.zero)) := qN.below hB (Nat.le_refl _)
      have RB7 : Hid (Row w7 a1 k c1 xs) := RBW.out.below hB (Nat.le_refl _)
      have HN17 : Hid (IsNum w7 _ N1) := HNW.out.below hB (Nat.le_refl _)
      have HBW7 : Hid (Below W.heap.size W w7) := hB
      clear qN hB RMW RBW HNW
      obtain ⟨e1', f1', s1', e2', f2', s2', e3', f3', s3', hv, _⟩ := HN7.out
      rw [hv]
      rw [hv] at HN7
      clear hv
      generalize hNN2 : (parse (45 :: xs)).getD Num.zero = N2 at HN7 ⊢
      have HNN2 : Hid ((parse (45 :: xs)).getD Num.zero = N2) := hNN2
      clear hNN2
      generalize hok2 : (parse (45 :: xs)).isSome = ok2
      have HOK2 : Hid ((parse (45 :: xs)).isSome = ok2) := hok2
      clear hok2
      obtain ⟨W2, HW2⟩ : ∃ W2, Hid (W2 = w7.alloc (.cells #[.bool N2.neg, .slice e1' f1' s1', .slice e2' f2' s2', .int .i64 N2.point, .slice e3' f3' s3'] 28)) := ⟨_, rfl⟩
      have hbW2 : Hid (Below w7.heap.size w7 W2) := by rw [HW2.out]; exact (Below.refl _ _).alloc (Nat.le_refl _) _
      have HBWW : Hid (Below W.heap.size W W2) := HBW7.out.trans (hbW2.out.mono HBW7.out.size)
      have CW : Hid (Cells5 W2 w6.heap.size (.bool N1.neg) (.slice e1 f1 s1) (.slice e2 f2 s2) (.int .i64 N1.point) (.slice e3 f3 s3)) := box5w HW.out HBWW.out
      have RB2 : Hid (Row W2 a1 k c1 xs) := RB7.out.below hbW2.out (Nat.le_refl _)
      have P1 : Hid (IsNum W2 (.agg #[.bool N1.neg, .slice e1 f1 s1, .slice e2 f2 s2, .int .i64 N1.point, .slice e3 f3 s3]) N1) := HN17.out.below hbW2.out (Nat.le_refl _)
      have P2 : Hid (IsNum W2 (.agg #[.bool N2.neg, .slice e1' f1' s1', .slice e2' f2' s2', .int .i64 N2.point, .slice e3' f3' s3']) N2) := HN7.out.below hbW2.out (Nat.le_refl _)
      have HBW2 : Hid (Below _ _ W2) := HBW.out.trans (HBWW.out.mono HBW.out.size)
      clear HN17 HN7 RB7 hbW2 HBW7 HBWW HBW
      have PP1 : Hid (Row W2 e1 f1 s1 N1.hi ∧ Row W2 e2 f2 s2 N1.lo ∧ IsBig W2 e3 f3 s3 N1.big) := by
        obtain ⟨x1, x2, x3, x4, x5, x6, x7, x8, x9, hx, y1, y2, y3⟩ := P1.out
        simp only [Value.agg.injEq, Array.mk.injEq, List.cons.injEq, Value.slice.injEq, true_and, and_true] at hx
        obtain ⟨⟨rfl, rfl, rfl⟩, ⟨rfl, rfl, rfl⟩, rfl, rfl, rfl⟩ := hx
        exact ⟨y1, y2, y3⟩
      have PP2 : Hid (Row W2 e1' f1' s1' N2.hi ∧ Row W2 e2' f2' s2' N2.lo ∧ IsBig W2 e3' f3' s3' N2.big) := by
        obtain ⟨x1, x2, x3, x4, x5, x6, x7, x8, x9, hx, y1, y2, y3⟩ := P2.out
        simp only [Value.agg.injEq, Array.mk.injEq, List.cons.injEq, Value.slice.injEq, true_and, and_true] at hx
        obtain ⟨⟨rfl, rfl, rfl⟩, ⟨rfl, rfl, rfl⟩, rfl, rfl, rfl⟩ := hx
        exact ⟨y1, y2, y3⟩
      clear P1 P2
      have hbf1 := PP1.out.1.bd
      have hbf2 := PP1.out.2.1.bd
      obtain ⟨sm, HSM⟩ := starts_dec xs
      go_upto_region 16 with fail
      rw [← HW2.out]
      go_cut [11] (fun t wc => t = .bool sm ∧ W2 = wc)
      case first =>
        by_cases hk0 : k = 0
        · subst hk0
          have hd : decide ((0 : Int) < ((0 : Nat) : Int)) = false := by simp
          have hsm : Hid (sm = false) := by
            have hx : xs = [] := by simpa using HL.out
            rw [Hid, ← HSM.out, hx]; rfl
          go_wp2
          go_meet
          case rel => exact ⟨by rw [hsm.out], rfl⟩
        · obtain ⟨b, off, rfl, hc⟩ := RB2.out.cells (by omega)
          have hc0 := hc 0 (by omega)
          rw [Nat.add_zero] at hc0
          have hpos : (0 : Int) < (k : Int) := by omega
          generalize hg : xs.getD 0 0 = c0 at hc0
          have HG : Hid (xs.getD 0 0 = c0) := hg
          have hb : (c0 == 45) = sm := by rw [← HSM.out, HG.out]; by_cases h : c0 = 45 <;> simp [h]
          clear hg hc
          go_wp2
          go_meet
          case rel => exact ⟨rfl, rfl⟩
      case rest =>
        obtain ⟨rfl, rfl⟩ := hcut
        obtain ⟨q0, q1, q2, q3, q4⟩ := CW.out
        have HPM := parse_minus xs
        have HPL : Hid (plainB xs = true → xs.getD 0 0 ≠ 45 ∧ parse xs = some (sigOf false xs [] [])) := by
          intro h
          refine ⟨?_, plain_parse xs h⟩
          simp only [plainB, Bool.and_eq_true, Bool.or_eq_true, decide_eq_true_eq] at h
          have := Qdec.allDig_getD xs 0 (by omega) h.2.1
          omega
        by_cases hcase : ok2 = true
        · -- both are accepted
          subst hcase
          have HB : Hid (sm = false ∧ ok1 = true ∧ N1.neg = false ∧ N2 = negate N1 ∧ parse xs = some N1) := by
            rcases HPM with ⟨_, h4⟩ | ⟨h3, h4, h5⟩
            · have := HOK2.out; rw [h4] at this; simp at this
            · have h6 := HOK2.out
              rw [h4] at h6
              cases hp : parse xs with
              | none => rw [hp] at h6; simp at h6
              | some N =>
                have h7 : N = N1 := by have := HNN1.out; rw [hp] at this; exact this
                subst h7
                refine ⟨by rw [← HSM.out]; exact decide_eq_false h3, by rw [← HOK1.out, hp]; rfl, h5 N hp, ?_, rfl⟩
                have := HNN2.out
                rw [h4, hp] at this
                exact this.symm
          clear HPM
          obtain ⟨hsm, hok, hng, hN2, hps⟩ := HB.out
          subst hsm
          subst hok
          have HPS : Hid (parse xs = some N1) := hps
          have HN2 : Hid (N2 = negate N1) := hN2
          have HNG : Hid (N1.neg = false) := hng
          rw [HNG.out] at q0
          clear hN2 hps HB hng
          go_wp2_with fail
          refine (zzParts_any _ _ _ _ _ _ _ _ _ _ _ _).mono ?_
          rintro e w8 ⟨rfl, hB⟩
          have HB8 : Hid (Below W2.heap.size W2 w8) := hB
          clear hB q0 q1 q2 q3 q4
          go_upto_if 89 with fail
          go_cut [5, 6, 12, 13, 14, 15, 16] (fun t5 t6 t12 t13 t14 t15 t16 wc => t12 = .bool false ∧ t13 = .slice e1 f1 s1 ∧ t14 = .slice e2 f2 s2 ∧ t15 = .int .i64 N1.point ∧ t16 = .slice e3 f3 s3 ∧ Hid (Below W2.heap.size W2 wc))
          case first =>
            cases hpl : plainB xs with
            | false =>
              go_wp2
              go_meet
              case rel => exact ⟨rfl, rfl, rfl, rfl, rfl, HB8⟩
            | true =>
              have HN1 : Hid (N1 = sigOf false xs [] []) := by
                have h1 := (HPL.out hpl).2
                rw [HPS.out] at h1
                simpa [Hid] using h1
              have HPT := plain_parts xs hpl
              rw [← HN1.out] at HPT
              clear hpl
              rcases HPT with ⟨hl, hz⟩ | ⟨hl0, hl1, hz⟩
              · clear HN1
                subst hz
                obtain ⟨hb1, hb2, hb3⟩ := PP1.out
                obtain rfl : f1 = 0 := hb1.len.symm
                obtain rfl : f2 = 0 := hb2.len.symm
                obtain ⟨rfl, rfl, rfl⟩ := hb3
                have hpz : Num.zero.point = 0 := rfl
                have hld : decide (lnz xs < 0) = true := by simpa using hl
                generalize lnz xs = l at *
                rw [hpz]
                clear hb1 hb2
                go_wp2
                go_meet
                case rel => exact ⟨rfl, rfl, rfl, rfl, rfl, HB8⟩
              · clear HN1
                subst hz
                obtain ⟨hb1, hb2, hb3⟩ := PP1.out
                obtain rfl : f2 = 0 := hb2.len.symm
                obtain ⟨rfl, rfl, rfl⟩ := hb3
                rw [HL.out] at hl1
                obtain ⟨l, hlq⟩ := Int.eq_ofNat_of_zero_le hl0
                have hpt : (⟨false, xs.take (lnz xs + 1).toNat, [], (xs.length : Int), .none⟩ : Num).point = (k : Int) := by rw [← HL.out]
                rw [hpt]
                have hb1' : Row W2 e1 f1 s1 (xs.take (lnz xs + 1).toNat) := hb1
                rw [hlq] at hl1 hb1'
                rw [show ((l : Int) + 1).toNat = l + 1 by omega] at hb1'
                have HLQ : Hid (lnz xs = (l : Int)) := hlq
                rw [HLQ.out]
                obtain ⟨b, off, rfl, _⟩ := RB2.out.cells (by omega)
                have RC : Hid (Row w8 (some ⟨b, off, none⟩) (l + 1) c1 (xs.take (l + 1))) := (RB2.out.pre (l + 1) (by omega)).below HB8.out (Nat.le_refl _)
                have RH : Hid (Row w8 e1 f1 s1 (xs.take (l + 1))) := hb1'.below HB8.out (Nat.le_refl _)
                have hcl := RB2.out.le
                have hc0 : ¬ c1 = 0 := by omega
                have hkk : ((k : Int) != (k : Int)) = false := by simp
                have HPT2 : Hid _ := hpt
                clear hb1 hb1' hb2 hpt hlq
                go_wp2_with fail
                refine (sameBytes_any e1 f1 s1 _ _ _ _ _ _ RH.out RC.out).mono ?_
                rintro e w9 ⟨rfl, hB⟩
                have HB9 : Hid (Below W2.heap.size W2 w9) := HB8.out.trans (hB.mono HB8.out.size)
                clear hB RH RC
                rw [show decide (xs.take (l + 1) = xs.take (l + 1)) = true from decide_eq_true rfl]
                go_wp2
                go_meet
                case rel => exact ⟨rfl, rfl, rfl, by rw [HPT2.out], rfl, HB9⟩
          case rest =>
            obtain ⟨rfl, rfl, rfl, rfl, rfl, HB9⟩ := hcut
            have CW2 : Hid (Cells5 wc w7.heap.size (.bool N2.neg) (.slice e1' f1' s1') (.slice e2' f2' s2') (.int .i64 N2.point) (.slice e3' f3' s3')) := box5w HW2.out HB9.out
            obtain ⟨q0, q1, q2, q3, q4⟩ := CW2.out
            rw [HN2.out] at PP2 q0 q3
            have hpt : (negate N1).point = N1.point := rfl
            have hng : ((negate N1).neg = false ∧ f1 = 0 ∧ f2 = 0) ∨ ((negate N1).neg = true ∧ (0 : Int) < (f1 : Int) + (f2 : Int)) := by
              have h1 := PP1.out.1.len
              have h2 := PP1.out.2.1.len
              have h3 : (N1.hi ++ N1.lo).length = f1 + f2 := by rw [List.length_append, h1, h2]
              have h4 : (negate N1).neg = decide (N1.hi ++ N1.lo ≠ []) := rfl
              rw [h4]
              by_cases h : N1.hi ++ N1.lo = []
              · left
                rw [h] at h3
                simp at h3
                exact ⟨by simp [h], by omega, by omega⟩
              · right
                have h5 : 0 < f1 + f2 := by
                  rw [← h3]
                  exact List.length_pos_iff.2 h
                exact ⟨by simp [h], by omega⟩
            rw [hpt] at q3
            generalize (negate N1).neg = ng2 at q0 hng
            go_wp2_with fail
            refine (zzParts_any _ _ _ _ _ _ _ _ _ _ _ _).mono ?_
            rintro e w10 ⟨rfl, hB⟩
            have HB10 : Hid (Below W2.heap.size W2 w10) := HB9.out.trans (hB.mono HB9.out.size)
            clear hB q0 q1 q2 q3 q4 CW2
            have QH : Hid (Row w10 e1 f1 s1 N1.hi) := PP1.out.1.below HB10.out (Nat.le_refl _)
            have QL : Hid (Row w10 e2 f2 s2 N1.lo) := PP1.out.2.1.below HB10.out (Nat.le_refl _)
            have QH' : Hid (Row w10 e1' f1' s1' N1.hi) := PP2.out.1.below HB10.out (Nat.le_refl _)
            have QL' : Hid (Row w10 e2' f2' s2' N1.lo) := PP2.out.2.1.below HB10.out (Nat.le_refl _)
            have hpp := small_eq N1.point
            generalize N1.point = pt at *
            rcases hng with ⟨rfl, rfl, rfl⟩ | ⟨rfl, hng⟩
            all_goals
              go_wp2_with fail
              refine (sameBytes_any e1' f1' s1' N1.hi e1 _ s1 N1.hi _ QH'.out QH.out).mono ?_
              rintro e w11 ⟨rfl, hB⟩
              have HB11 : Hid (Below w10.heap.size w10 w11) := hB
              clear hB
              rw [show decide (N1.hi = N1.hi) = true from decide_eq_true rfl]
              go_wp2_with fail
              refine (sameBytes_any e2' f2' s2' N1.lo e2 _ s2 N1.lo _ (QL'.out.below HB11.out (Nat.le_refl _)) (QL.out.below HB11.out (Nat.le_refl _))).mono ?_
              rintro e w12 ⟨rfl, hB⟩
              have HB12 : Hid (Below w10.heap.size w10 w12) := HB11.out.trans (hB.mono HB11.out.size)
              clear hB HB11
              rw [show decide (N1.lo = N1.lo) = true from decide_eq_true rfl]
              have HBF : Hid _ := HBW2.out.trans (HB10.out.mono HBW2.out.size)
              have HBIG : Hid (IsBig W2 e3 f3 s3 N1.big ∧ IsBig W2 e3' f3' s3' N1.big) := ⟨PP1.out.2.2, PP2.out.2.2⟩
              cases hbg : N1.big with
              | none =>
                rw [hbg] at HBIG
                obtain ⟨⟨rfl, rfl, rfl⟩, ⟨rfl, rfl, rfl⟩⟩ := HBIG.out
                clear hbg
                go_wp2_with fail
                refine (sameBytes_any none 0 0 [] none 0 0 [] _ (Row.nil _) (Row.nil _)).mono ?_
                rintro e w13 ⟨rfl, hB⟩
                have HB13 : Hid (Below w10.heap.size w10 w13) := HB12.out.trans (hB.mono HB12.out.size)
                clear hB
                rw [show decide (([] : List Int) = []) = true from decide_eq_true rfl]
                go_wp2
                go_ret
                exact ⟨rfl, HBF.out.trans (HB13.out.mono HBF.out.size)⟩
              | some bb =>
                rw [hbg] at HBIG
                obtain ⟨⟨u1, u2⟩, ⟨u3, u4⟩⟩ := HBIG.out
                have V1 : Hid (Row w10 e3 f3 s3 bb) := u2.below HB10.out (Nat.le_refl _)
                have V2 : Hid (Row w10 e3' f3' s3' bb) := u4.below HB10.out (Nat.le_refl _)
                clear u2 u4 hbg
                go_wp2_with fail
                refine (sameBytes_any e3' f3' s3' bb e3 f3 s3 bb _ (V2.out.below HB12.out (Nat.le_refl _)) (V1.out.below HB12.out (Nat.le_refl _))).mono ?_
                rintro e w13 ⟨rfl, hB⟩
                have HB13 : Hid (Below w10.heap.size w10 w13) := HB12.out.trans (hB.mono HB12.out.size)
                clear hB
                rw [show decide (bb = bb) = true from decide_eq_true rfl]
                go_wp2
                go_ret
                exact ⟨rfl, HBF.out.trans (HB13.out.mono HBF.out.size)⟩
        · -- the minus is refused
          have hok2 : ok2 = false := by simpa using hcase
          subst hok2
          clear hcase
          have HPF : Hid (plainB xs = false) := by
            cases hp : plainB xs with
            | false => rfl
            | true =>
              exfalso
              obtain ⟨h1, h2⟩ := HPL.out hp
              rcases HPM with ⟨h3, _⟩ | ⟨_, h4, _⟩
              · exact h1 h3
              · have h5 := HOK2.out
                rw [h4, h2] at h5
                simp at h5
          have hrel : (false != (ok1 && !sm)) = false := by
            rcases HPM with ⟨h3, _⟩ | ⟨h3, h4, _⟩
            · have : sm = true := by rw [← HSM.out]; exact decide_eq_true h3
              rw [this]; cases ok1 <;> rfl
            · have h5 := HOK2.out
              rw [h4] at h5
              have h6 : ok1 = false := by rw [← HOK1.out]; cases hp : parse xs with
                | none => rfl
                | some N => rw [hp] at h5; simp at h5
              rw [h6]; rfl
          rw [HPF.out]
          clear HPM
          cases ok1 <;> cases sm <;> simp at hrel
          all_goals
            go_wp2_with fail
            refine (zzParts_any _ _ _ _ _ _ _ _ _ _ _ _).mono ?_
            rintro e w8 ⟨rfl, hB⟩
            have HB8 : Hid (Below W2.heap.size W2 w8) := hB
            clear hB
            go_wp2
            go_ret
            exact ⟨rfl, HBW2.out.trans (HB8.out.mono HBW2.out.size)⟩

set_option maxHeartbeats 1000000 in
set_option maxRecDepth 100000 in
theorem law7' (a : Option Addr) (n cap : Nat) (w : World) (hn : ¬ n ≤ 1048576) (hm : n ≤ maxLen) :
    Calls Try.prog 7 #[.slice a n cap] w fun e w' => e = .returned (.bool true) ∧ Below w.heap.size w w' := by
  go_enter Try.func7, Try.ntmps7
  go_wp2_with fail
  refine (zz25' a n cap _ hn hm).mono ?_
  rintro e w0 ⟨rfl, rfl⟩
  go_wp2
  go_ret
  exact ⟨rfl, Below.refl _ _⟩

end Go.Proofs.Qxb6619243a
