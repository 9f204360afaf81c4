/-
  FnSignificantMovingThePointShiftsIt (8).
-/
import Derived.Test.Qxb6619243aLaw3
namespace Go.Proofs.Qxb6619243a
open Go.RowKit

set_option maxHeartbeats 1000000 in
theorem zz30 (g : Bool) (a1 : Option Addr) (n1 c1 : Nat) (a2 : Option Addr) (n2 c2 : Nat) (a3 : Option Addr) (n3 c3 : Nat) (k : Int) (w : World) (h : n1 + n2 + n3 ≤ 1048576) :
    Calls Try.prog 30 #[.bool g, .slice a1 n1 c1, .slice a2 n2 c2, .slice a3 n3 c3, .int .i64 k] w fun e w' => e = .returned (.bool true) ∧ w' = w := by
  go_enter Try.func30, Try.ntmps30
  go_wp2
  go_ret
  exact ⟨rfl, rfl⟩
set_option maxHeartbeats 1000000 in
theorem zz30' (g : Bool) (a1 : Option Addr) (n1 c1 : Nat) (a2 : Option Addr) (n2 c2 : Nat) (a3 : Option Addr) (n3 c3 : Nat) (k : Int) (w : World) (h : ¬ n1 + n2 + n3 ≤ 1048576) (h1 : n1 ≤ maxLen) (h2 : n2 ≤ maxLen) (h3 : n3 ≤ maxLen) :
    Calls Try.prog 30 #[.bool g, .slice a1 n1 c1, .slice a2 n2 c2, .slice a3 n3 c3, .int .i64 k] w fun e w' => e = .returned (.bool false) ∧ w' = w := by
  unfold maxLen at h1 h2 h3
  go_enter Try.func30, Try.ntmps30
  go_wp2
  all_goals
    go_ret
    exact ⟨rfl, rfl⟩

/-- cloneBytes, its capacity told -/
theorem cloneBytes_n (a : Option Addr) (n cap : Nat) (xs : List Int) (w : World) (hr : Row w a n cap xs) :
    Calls Try.prog 12 #[.slice a n cap] w fun e w' => ∃ a', e = .returned (.slice a' n n) ∧ a'.isNone = a.isNone ∧ Row w' a' n n xs ∧ Below w.heap.size w w' := by
  have hnil := fun (w : World) (a : Option Addr) (n c : Nat) => Lib.run_eql_slice_nil (P := Try.prog) w 22 5 a n c 0 0 Try.underlying22
  cases a with
  | none =>
    have hn : n = 0 := by
      by_cases h : 0 < n
      · obtain ⟨_, _, h, _⟩ := hr.cells h; simp at h
      · omega
    subst hn
    have hx : xs = [] := by simpa using hr.len
    subst hx
    clear hr
    go_enter Try.func12, Try.ntmps12
    go_wp2
    go_ret
    exact ⟨none, rfl, rfl, Row.nil _, Below.refl _ _⟩
  | some x =>
    have hbd := hr.bd
    have HR : Hid (Row w (some x) n cap xs) := hr
    obtain ⟨i0, hi, hz0, hz1, hz2⟩ := info_parts info5
    clear hr
    go_enter Try.func12, Try.ntmps12
    go_wp2_with (at_make; refine wpList_make_full _ rfl _ _ 22 rfl w.heap.size 5 i0 (.int .u8 0) 1 Try.underlying22 hi hz0 hz1 _ _ _ _ n rfl rfl rfl rfl ?c1 ?c2 ?c3 ?_)
    case c1 => rw [hz2]; omega
    case c2 => unfold maxLen; omega
    case c3 => exact Nat.le_refl _
    intro w1 hown hgrow
    have hF : Filled w1 w.heap.size w.heap.size n xs 0 := ⟨_, hown, fun i hi => by omega⟩
    have hB : Below w.heap.size w w1 := (Below.refl _ _).grown hgrow (Nat.le_refl _) (fun k hk => by simp at hk)
    clear hown hgrow hi hz0 hz1 hz2
    go_wp2
    go_loopw [4] (fun i wr => ∃ k : Nat, k ≤ n ∧ i = .int .i64 k ∧ Filled wr w.heap.size w.heap.size n xs k ∧ Below w.heap.size w wr) (fun i _ => n - (intOf i).toNat)
    case atStart => exact ⟨0, Nat.zero_le _, rfl, hF, hB⟩
    case round =>
      obtain ⟨k, hk, rfl, hFr, hBr⟩ := hrel
      clear hF hB
      by_cases hlt : k < n
      · obtain ⟨b, off, hx, hc⟩ := HR.out.cells (by omega)
        simp only [Option.some.injEq] at hx
        subst hx
        have hck := hc k hlt
        have hblt := cell_lt hck
        rw [← hBr.cell hblt] at hck
        clear hc hblt
        obtain ⟨v0, hv0⟩ := hFr.cell k hlt
        have hfz := hFr.free k
        have R := hFr.set hlt
        have RB := hBr.setCell (p := ⟨w.heap.size, k, none⟩) (Nat.le_refl _) (.int .u8 (xs.getD k 0))
        generalize xs.getD k 0 = c at hck R RB
        clear hFr hBr
        go_wp2
        go_roundw
        case rel => exact ⟨k + 1, by omega, by go_num, R, RB⟩
        case measure => simp [intOf]; omega
      · have hkn : k = n := by omega
        subst hkn
        go_wp2
        go_ret
        exact ⟨_, rfl, rfl, hFr.row HR.out.len hbd HR.out.byte, hBr⟩

/-- the two cuts of a slice whose capacity is its length -/
theorem two_cuts {w : World} {a : Option Addr} {n : Nat} {xs : List Int} (h : Row w a n n xs) (k : Nat) (hk : k ≤ n) :
    (n = 0 ∧ k = 0 ∧ Hid (Row w a 0 0 (xs.take k)) ∧ Hid (Row w a 0 0 (xs.drop k))) ∨
    (∃ b off, a = some ⟨b, off, none⟩ ∧ ¬ n = 0 ∧ n = k ∧ Hid (Row w (some ⟨b, off, none⟩) k n (xs.take k)) ∧ Hid (Row w (some ⟨b, off, none⟩) 0 0 (xs.drop k))) ∨
    (∃ b off, a = some ⟨b, off, none⟩ ∧ ¬ n = 0 ∧ ¬ n = k ∧ Hid (Row w (some ⟨b, off, none⟩) k n (xs.take k)) ∧ Hid (Row w (some ⟨b, off + k, none⟩) (n - k) (n - k) (xs.drop k))) := by
  have hlen := h.len
  by_cases h0 : n = 0
  · left
    subst h0
    obtain rfl : k = 0 := by omega
    have hx : xs = [] := by simpa using hlen
    subst hx
    exact ⟨rfl, rfl, h, h⟩
  · right
    obtain ⟨b, off, rfl, _⟩ := h.cells (by omega)
    have h1 := h.pre k hk
    have h2 := h.cut k n hk (Nat.le_refl _)
    have e : (xs.drop k).take (n - k) = xs.drop k := List.take_of_length_le (by simp; omega)
    rw [e] at h2
    by_cases hkn : n = k
    · left
      rw [if_pos hkn, show n - k = 0 by omega] at h2
      exact ⟨b, off, rfl, h0, hkn, h1, h2⟩
    · right
      rw [if_neg hkn, Option.map_some, Go.WideShapes.add_plain] at h2
      exact ⟨b, off, rfl, h0, hkn, h1, h2⟩

theorem span_cnt (M : List Int) : (fnz M < 0 ∧ (Qdec.span M).length = 0 ∧ Qdec.lead M = M.length) ∨ (0 ≤ fnz M ∧ fnz M ≤ lnz M ∧ lnz M < M.length ∧ lnz M - fnz M + 1 = ((Qdec.span M).length : Int) ∧ Qdec.lead M ≠ M.length) := by
  by_cases h : Qdec.lead M = M.length
  · left
    rw [fnz_none M h, (Qdec.span_nil_iff M).2 h]
    exact ⟨by omega, rfl, h⟩
  · right
    have h1 := Qdec.ends_le M h
    have h2 := Qdec.span_length M h
    rw [fnz_some M h, h2]
    unfold lnz
    refine ⟨by omega, by omega, by omega, by omega, h⟩

theorem box5' {w W w1 : World} {v0 v1 v2 v3 v4 : Value} {t : TypeId} (hW : W = w.alloc (.cells #[v0, v1, v2, v3, v4] t)) (hb : Below W.heap.size W w1) :
    (w1.cell? ⟨w.heap.size, 0, none⟩ = some v0 ∧ w1.cell? ⟨w.heap.size, 1, none⟩ = some v1 ∧ w1.cell? ⟨w.heap.size, 2, none⟩ = some v2 ∧ w1.cell? ⟨w.heap.size, 3, none⟩ = some v3 ∧ w1.cell? ⟨w.heap.size, 4, none⟩ = some v4) ∧
    (∀ j, w1.frozen? ⟨w.heap.size, j, none⟩ = false) ∧ w.heap.size < w1.heap.size := by
  subst hW
  exact box5 (by simpa using hb)

theorem sig_parts (g : Bool) (I F E : List Int) : (sigOf g I F E).hi ++ (sigOf g I F E).lo = Qdec.span (I ++ F) := by
  by_cases h : Qdec.lead (I ++ F) = (I ++ F).length
  · rw [sigOf_zero g I F E h, (Qdec.span_nil_iff _).2 h]; rfl
  · rw [sigOf_some g I F E h, ← hi_lo]
    split <;> rfl
/-- the two numbers -/
theorem move_plain (g : Bool) (I F E : List Int) (k : Nat) (hk : k ≤ F.length) (hT : Qdec.isExpT E = true) (hI : I.length ≤ 262144) (hF : F.length ≤ 262144) :
    ((Qdec.span (I ++ F)).length = 0 ∧ sigOf g I F E = Num.zero ∧ sigOf g (I ++ F.take k) (F.drop k) E = Num.zero) ∨
    ((Qdec.span (I ++ F)).length ≠ 0 ∧ (sigOf g I F E).neg = g ∧ (sigOf g (I ++ F.take k) (F.drop k) E).neg = g ∧ (sigOf g (I ++ F.take k) (F.drop k) E).point = (sigOf g I F E).point + (k : Int) ∧
      -1000000000010000000 ≤ (sigOf g I F E).point ∧ (sigOf g I F E).point ≤ 1000000000010000000 ∧ (sigOf g (I ++ F.take k) (F.drop k) E).big = (sigOf g I F E).big) := by
  have eM : (I ++ F.take k) ++ F.drop k = I ++ F := by rw [List.append_assoc, List.take_append_drop]
  by_cases h : Qdec.lead (I ++ F) = (I ++ F).length
  · left
    refine ⟨by rw [(Qdec.span_nil_iff _).2 h]; rfl, sigOf_zero g I F E h, sigOf_zero g _ _ E (by rw [eM]; exact h)⟩
  · right
    have hsp : (Qdec.span (I ++ F)).length ≠ 0 := by
      have h1 := Qdec.span_length _ h
      have h2 := Qdec.ends_le _ h
      omega
    have hbd := smallExp_bd E hT
    have hle := Qdec.lead_le (I ++ F)
    rw [sigOf_some g I F E h, sigOf_some g (I ++ F.take k) (F.drop k) E (by rw [eM]; exact h), shift_eq, shift_eq, eM]
    have hl : (I ++ F.take k).length = I.length + k := by simp; omega
    rw [hl]
    have hl2 : (I ++ F).length = I.length + F.length := List.length_append
    split
    · exact ⟨hsp, rfl, rfl, by simp only; omega, by simp only; omega, by simp only; omega, rfl⟩
    · exact ⟨hsp, rfl, rfl, by simp only; omega, by simp only; omega, by simp only; omega, rfl⟩

set_option maxHeartbeats 4000000 in
set_option maxRecDepth 100000 in
theorem law8 (g : Bool) (a1 : Option Addr) (n1 c1 : Nat) (I : List Int) (a2 : Option Addr) (n2 c2 : Nat) (F : List Int) (a3 : Option Addr) (n3 c3 : Nat) (E : List Int) (k : Nat) (w : World)
    (hn : n1 + n2 + n3 ≤ 1048576) (hb1 : n1 ≤ 262144) (hb2 : n2 ≤ 262144) (hb3 : n3 ≤ 262144) (hk : k ≤ n2) (h1 : Row w a1 n1 c1 I) (h2 : Row w a2 n2 c2 F) (h3 : Row w a3 n3 c3 E) :
    Calls Try.prog 8 #[.bool g, .slice a1 n1 c1, .slice a2 n2 c2, .slice a3 n3 c3, .int .i64 k] w fun e w' => e = .returned (.bool true) ∧ Below w.heap.size w w' := by
  have hnil := fun (w : World) (a : Option Addr) (n c : Nat) => Lib.run_eql_slice_nil (P := Try.prog) w 22 5 a n c 0 0 Try.underlying22
  have RI : Hid (Row w a1 n1 c1 I) := h1
  have RF : Hid (Row w a2 n2 c2 F) := h2
  have RE : Hid (Row w a3 n3 c3 E) := h3
  have HLI : Hid (I.length = n1) := h1.len
  have HLF : Hid (F.length = n2) := h2.len
  clear h1 h2 h3
  have hk0 : decide ((k : Int) < 0) = false := by simp
  have hk1 : decide ((n2 : Int) < (k : Int)) = false := by simp; omega
  go_enter Try.func8, Try.ntmps8
  go_wp2_with fail
  refine (zz30 g a1 n1 c1 a2 n2 c2 a3 n3 c3 _ _ hn).mono ?_
  rintro e w0 ⟨rfl, rfl⟩
  go_wp2_with fail
  refine (allDigits_any a1 n1 c1 I _ RI.out).mono ?_
  rintro e w0 ⟨rfl, rfl⟩
  cases hT1 : Qdec.allDig I with
  | false =>
    go_wp2
    go_ret
    exact ⟨rfl, Below.refl _ _⟩
  | true =>
  clear hT1
  go_wp2_with fail
  refine (allDigits_any a2 n2 c2 F _ RF.out).mono ?_
  rintro e w0 ⟨rfl, rfl⟩
  cases hT2 : Qdec.allDig F with
  | false =>
    go_wp2
    go_ret
    exact ⟨rfl, Below.refl _ _⟩
  | true =>
  clear hT2
  go_wp2_with fail
  refine (isExpText_any a3 n3 c3 E _ RE.out).mono ?_
  rintro e w0 ⟨rfl, rfl⟩
  cases hT3 : Qdec.isExpT E with
  | false =>
    go_wp2
    go_ret
    exact ⟨rfl, Below.refl _ _⟩
  | true =>
  have HT : Hid (Qdec.isExpT E = true) := hT3
  clear hT3
  go_wp2_with fail
  refine (cloneBytes_n a1 n1 c1 I _ RI.out).mono ?_
  rintro e w1 ⟨b1, rfl, _, qI, hB⟩
  have RI1 : Hid (Row w1 b1 n1 n1 I) := qI
  have RF1 : Hid (Row w1 a2 n2 c2 F) := RF.out.below hB (Nat.le_refl _)
  have RE1 : Hid (Row w1 a3 n3 c3 E) := RE.out.below hB (Nat.le_refl _)
  have HB1 : Hid (Below _ _ w1) := hB
  clear qI hB RI RF RE
  go_wp2_with fail
  refine (cloneBytes_n a2 n2 c2 F _ RF1.out).mono ?_
  rintro e w2 ⟨b2, rfl, _, qF, hB⟩
  have RI2 : Hid (Row w2 b1 n1 n1 I) := RI1.out.below hB (Nat.le_refl _)
  have RF2 : Hid (Row w2 b2 n2 n2 F) := qF
  have RE2 : Hid (Row w2 a3 n3 c3 E) := RE1.out.below hB (Nat.le_refl _)
  have HB2 : Hid (Below _ _ w2) := HB1.out.trans (hB.mono HB1.out.size)
  clear qF hB RI1 RF1 RE1 HB1
  go_wp2_with fail
  refine (cloneBytes_n a3 n3 c3 E _ RE2.out).mono ?_
  rintro e w3 ⟨b3, rfl, _, qE, hB⟩
  have RI3 : Hid (Row w3 b1 n1 n1 I) := RI2.out.below hB (Nat.le_refl _)
  have RF3 : Hid (Row w3 b2 n2 n2 F) := RF2.out.below hB (Nat.le_refl _)
  have RE3 : Hid (Row w3 b3 n3 n3 E) := qE
  have HB3 : Hid (Below _ _ w3) := HB2.out.trans (hB.mono HB2.out.size)
  clear qE hB RI2 RF2 RE2 HB2
  go_wp2_with fail
  refine (joinBytes_any b1 n1 n1 I b2 n2 n2 F _ RI3.out RF3.out (by omega)).mono ?_
  rintro e w4 ⟨b4, rfl, qM, hB⟩
  have RI4 : Hid (Row w4 b1 n1 n1 I) := RI3.out.below hB (Nat.le_refl _)
  have RF4 : Hid (Row w4 b2 n2 n2 F) := RF3.out.below hB (Nat.le_refl _)
  have RE4 : Hid (Row w4 b3 n3 n3 E) := RE3.out.below hB (Nat.le_refl _)
  have RM4 : Hid (Row w4 b4 (n1 + n2) (n1 + n2) (I ++ F)) := qM
  have HB4 : Hid (Below _ _ w4) := HB3.out.trans (hB.mono HB3.out.size)
  clear qM hB RI3 RF3 RE3 HB3
  go_wp2_with fail
  refine (firstNonzero_any b4 _ _ (I ++ F) _ RM4.out).mono ?_
  rintro e w5 ⟨rfl, rfl⟩
  go_upto_if 77 with fail
  go_cut [12] (fun c wc => c = .int .i64 ((Qdec.span (I ++ F)).length : Int) ∧ w5 = wc)
  case first =>
    rcases span_cnt (I ++ F) with ⟨q1, q2, _⟩ | ⟨q1, q2, q3, q4, _⟩
    · have hlt : ¬ 0 ≤ fnz (I ++ F) := by omega
      have HQ : Hid ((Qdec.span (I ++ F)).length = 0) := q2
      generalize fnz (I ++ F) = f at *
      clear q2
      go_wp2
      go_meet
      case rel => exact ⟨by rw [HQ.out]; rfl, rfl⟩
    · have HQ : Hid (lnz (I ++ F) - fnz (I ++ F) + 1 = ((Qdec.span (I ++ F)).length : Int)) := q4
      have q5 : lnz (I ++ F) ≤ 2097152 := by have := RM4.out.bd; have := RM4.out.len; omega
      generalize fnz (I ++ F) = f at *
      clear q4 q3
      go_wp2_with fail
      refine (lastNonzero_any b4 _ _ (I ++ F) _ RM4.out).mono ?_
      rintro e w6 ⟨rfl, rfl⟩
      generalize lnz (I ++ F) = l at *
      go_wp2
      go_meet
      case rel => exact ⟨by rw [← HQ.out], rfl⟩
  case rest =>
    obtain ⟨rfl, rfl⟩ := hcut
    go_upto_region 21 with fail
    go_cut [14] (fun t wc => ∃ b5, t = .slice b5 (n1 + k) (n1 + k) ∧ Hid (Row wc b5 (n1 + k) (n1 + k) (I ++ F.take k)) ∧ Hid (Below w5.heap.size w5 wc))
    case first =>
      rcases two_cuts RF4.out k hk with ⟨e1, e2, T1, T2⟩ | ⟨b, off, rfl, e1, e2, T1, T2⟩ | ⟨b, off, rfl, e1, e2, T1, T2⟩
      · subst e1
        subst e2
        go_wp2_with fail
        refine (joinBytes_any b1 n1 n1 I b2 0 0 (F.take 0) _ RI4.out T1.out (by omega)).mono ?_
        rintro e w6 ⟨b5, rfl, q5, hB⟩
        have R5 : Hid _ := q5
        have HB : Hid _ := hB
        clear q5 hB
        go_wp2
        go_meet
        case rel => exact ⟨b5, rfl, R5, HB⟩
      all_goals
        have hlk : (k : Int) ≤ (n2 : Int) := by omega
        clear e2
        go_wp2_with fail
        refine (joinBytes_any b1 n1 n1 I _ k n2 (F.take k) _ RI4.out T1.out (by omega)).mono ?_
        rintro e w6 ⟨b5, rfl, q5, hB⟩
        have R5 : Hid _ := q5
        have HB : Hid _ := hB
        clear q5 hB
        go_wp2
        go_meet
        case rel => exact ⟨b5, rfl, R5, HB⟩
    case rest =>
      obtain ⟨b5, rfl, R5, hB⟩ := hcut
      have RI5 : Hid (Row wc b1 n1 n1 I) := RI4.out.below hB.out (Nat.le_refl _)
      have RF5 : Hid (Row wc b2 n2 n2 F) := RF4.out.below hB.out (Nat.le_refl _)
      have RE5 : Hid (Row wc b3 n3 n3 E) := RE4.out.below hB.out (Nat.le_refl _)
      have HB5 : Hid (Below _ _ wc) := HB4.out.trans (hB.out.mono HB4.out.size)
      clear RI4 RF4 RE4 RM4 HB4 hB
      obtain ⟨w6, hw6⟩ : ∃ w6, w6 = wc := ⟨_, rfl⟩
      rw [← hw6] at RI5 RF5 RE5 HB5 R5 ⊢
      clear hw6 wc
      go_upto_region 22 with fail
      go_cut [15] (fun t wc => ∃ b6, t = .slice b6 (n2 - k) (n2 - k) ∧ Hid (Row wc b6 (n2 - k) (n2 - k) (F.drop k)) ∧ Hid (Below w6.heap.size w6 wc))
      case first =>
        rcases two_cuts RF5.out k hk with ⟨e1, e2, T1, T2⟩ | ⟨b, off, rfl, e1, e2, T1, T2⟩ | ⟨b, off, rfl, e1, e2, T1, T2⟩
        · subst e1
          subst e2
          go_wp2_with fail
          refine (cloneBytes_n b2 0 0 (F.drop 0) _ T2.out).mono ?_
          rintro e w7 ⟨b6, rfl, _, q5, hB⟩
          have R6 : Hid _ := q5
          have HB : Hid _ := hB
          clear q5 hB
          go_wp2
          go_meet
          case rel => exact ⟨b6, rfl, R6, HB⟩
        · subst e2
          go_wp2_with fail
          refine (cloneBytes_n _ 0 0 (F.drop n2) _ T2.out).mono ?_
          rintro e w7 ⟨b6, rfl, _, q5, hB⟩
          have R6 : Hid (Row w7 b6 (n2 - n2) (n2 - n2) (F.drop n2)) := by rw [Nat.sub_self]; exact q5
          have HB : Hid _ := hB
          clear q5 hB
          go_wp2
          go_meet
          case rel => exact ⟨b6, by rw [Nat.sub_self], R6, HB⟩
        · go_wp2_with fail
          refine (cloneBytes_n _ (n2 - k) (n2 - k) (F.drop k) _ T2.out).mono ?_
          rintro e w7 ⟨b6, rfl, _, q5, hB⟩
          have R6 : Hid _ := q5
          have HB : Hid _ := hB
          clear q5 hB
          go_wp2
          go_meet
          case rel => exact ⟨b6, rfl, R6, HB⟩
      case rest =>
        obtain ⟨b6, rfl, R6, hB⟩ := hcut
        have RI6 : Hid (Row wc b1 n1 n1 I) := RI5.out.below hB.out (Nat.le_refl _)
        have RF6 : Hid (Row wc b2 n2 n2 F) := RF5.out.below hB.out (Nat.le_refl _)
        have RE6 : Hid (Row wc b3 n3 n3 E) := RE5.out.below hB.out (Nat.le_refl _)
        have R56 : Hid (Row wc b5 (n1 + k) (n1 + k) (I ++ F.take k)) := R5.out.below hB.out (Nat.le_refl _)
        have HB6 : Hid (Below _ _ wc) := HB5.out.trans (hB.out.mono HB5.out.size)
        clear RI5 RF5 RE5 R5 HB5 hB
        go_wp2_with fail
        refine (cloneBytes_n b1 n1 n1 I _ RI6.out).mono ?_
        rintro e w7 ⟨k1, rfl, _, qI, hB⟩
        have KI7 : Hid (Row w7 k1 n1 n1 I) := qI
        have RF7 : Hid (Row w7 b2 n2 n2 F) := RF6.out.below hB (Nat.le_refl _)
        have RE7 : Hid (Row w7 b3 n3 n3 E) := RE6.out.below hB (Nat.le_refl _)
        have R57 : Hid (Row w7 b5 (n1 + k) (n1 + k) (I ++ F.take k)) := R56.out.below hB (Nat.le_refl _)
        have R67 : Hid (Row w7 b6 (n2 - k) (n2 - k) (F.drop k)) := R6.out.below hB (Nat.le_refl _)
        have HB7 : Hid (Below _ _ w7) := HB6.out.trans (hB.mono HB6.out.size)
        clear qI hB RI6 RF6 RE6 R56 R6 HB6
        go_wp2_with fail
        refine (cloneBytes_n b2 n2 n2 F _ RF7.out).mono ?_
        rintro e w8 ⟨k2, rfl, _, qF, hB⟩
        have KI8 : Hid (Row w8 k1 n1 n1 I) := KI7.out.below hB (Nat.le_refl _)
        have KF8 : Hid (Row w8 k2 n2 n2 F) := qF
        have RE8 : Hid (Row w8 b3 n3 n3 E) := RE7.out.below hB (Nat.le_refl _)
        have R58 : Hid (Row w8 b5 (n1 + k) (n1 + k) (I ++ F.take k)) := R57.out.below hB (Nat.le_refl _)
        have R68 : Hid (Row w8 b6 (n2 - k) (n2 - k) (F.drop k)) := R67.out.below hB (Nat.le_refl _)
        have HB8 : Hid (Below _ _ w8) := HB7.out.trans (hB.mono HB7.out.size)
        clear qF hB KI7 RF7 RE7 R57 R67 HB7
        go_wp2_with fail
        refine (cloneBytes_n b3 n3 n3 E _ RE8.out).mono ?_
        rintro e w9 ⟨k3, rfl, _, qE, hB⟩
        have KI9 : Hid (Row w9 k1 n1 n1 I) := KI8.out.below hB (Nat.le_refl _)
        have KF9 : Hid (Row w9 k2 n2 n2 F) := KF8.out.below hB (Nat.le_refl _)
        have KE9 : Hid (Row w9 k3 n3 n3 E) := qE
        have RE9 : Hid (Row w9 b3 n3 n3 E) := RE8.out.below hB (Nat.le_refl _)
        have R59 : Hid (Row w9 b5 (n1 + k) (n1 + k) (I ++ F.take k)) := R58.out.below hB (Nat.le_refl _)
        have R69 : Hid (Row w9 b6 (n2 - k) (n2 - k) (F.drop k)) := R68.out.below hB (Nat.le_refl _)
        have HB9 : Hid (Below _ _ w9) := HB8.out.trans (hB.mono HB8.out.size)
        clear qE hB KI8 KF8 RE8 R58 R68 HB8
        go_wp2_with fail
        refine (zzSignificant_any g k1 n1 n1 I k2 n2 n2 F k3 n3 n3 E _ KI9.out KF9.out KE9.out HT.out).mono ?_
        rintro e w10 ⟨v, rfl, hN, hB⟩
        have HN1 : Hid (IsNum w10 v (sigOf g I F E)) := hN.below hB (Nat.le_refl _)
        have RE10 : Hid (Row w10 b3 n3 n3 E) := RE9.out.below hB (Nat.le_refl _)
        have R510 : Hid (Row w10 b5 (n1 + k) (n1 + k) (I ++ F.take k)) := R59.out.below hB (Nat.le_refl _)
        have R610 : Hid (Row w10 b6 (n2 - k) (n2 - k) (F.drop k)) := R69.out.below hB (Nat.le_refl _)
        have HB10 : Hid (Below _ _ w10) := HB9.out.trans (hB.mono HB9.out.size)
        clear hN hB KI9 KF9 KE9 RE9 R59 R69 HB9
        obtain ⟨e1, f1, s1, e2, f2, s2, e3, f3, s3, hv, _⟩ := HN1.out
        rw [hv]
        rw [hv] at HN1
        clear hv
        obtain ⟨W, HW⟩ : ∃ W, Hid (W = w10.alloc (.cells #[.bool (sigOf g I F E).neg, .slice e1 f1 s1, .slice e2 f2 s2, .int .i64 (sigOf g I F E).point, .slice e3 f3 s3] 28)) := ⟨_, rfl⟩
        have hbW : Hid (Below w10.heap.size w10 W) := by rw [HW.out]; exact (Below.refl _ _).alloc (Nat.le_refl _) _
        go_wp2_with fail
        rw [← HW.out]
        have HNW : Hid (IsNum W _ (sigOf g I F E)) := HN1.out.below hbW.out (Nat.le_refl _)
        have REW : Hid (Row W b3 n3 n3 E) := RE10.out.below hbW.out (Nat.le_refl _)
        have R5W : Hid (Row W b5 (n1 + k) (n1 + k) (I ++ F.take k)) := R510.out.below hbW.out (Nat.le_refl _)
        have R6W : Hid (Row W b6 (n2 - k) (n2 - k) (F.drop k)) := R610.out.below hbW.out (Nat.le_refl _)
        have HBW : Hid (Below _ _ W) := HB10.out.trans (hbW.out.mono HB10.out.size)
        clear HN1 RE10 R510 R610 HB10 hbW
        refine (cloneBytes_n b3 n3 n3 E _ REW.out).mono ?_
        rintro e w11 ⟨k4, rfl, _, qE, hB⟩
        have KE11 : Hid (Row w11 k4 n3 n3 E) := qE
        have R511 : Hid (Row w11 b5 (n1 + k) (n1 + k) (I ++ F.take k)) := R5W.out.below hB (Nat.le_refl _)
        have R611 : Hid (Row w11 b6 (n2 - k) (n2 - k) (F.drop k)) := R6W.out.below hB (Nat.le_refl _)
        have HN11 : Hid (IsNum w11 _ (sigOf g I F E)) := HNW.out.below hB (Nat.le_refl _)
        have HBW11 : Hid (Below W.heap.size W w11) := hB
        clear qE hB REW R5W R6W HNW
        go_wp2_with fail
        refine (zzSignificant_any g b5 (n1 + k) (n1 + k) (I ++ F.take k) b6 (n2 - k) (n2 - k) (F.drop k) k4 n3 n3 E _ R511.out R611.out KE11.out HT.out).mono ?_
        rintro e w12 ⟨v2, rfl, hN, hB⟩
        have HN2 : Hid (IsNum w12 v2 (sigOf g (I ++ F.take k) (F.drop k) E)) := hN.below hB (Nat.le_refl _)
        have HN12 : Hid (IsNum w12 _ (sigOf g I F E)) := HN11.out.below hB (Nat.le_refl _)
        have HBW12 : Hid (Below W.heap.size W w12) := HBW11.out.trans (hB.mono HBW11.out.size)
        clear hN hB KE11 R511 R611 HN11 HBW11
        obtain ⟨e1', f1', s1', e2', f2', s2', e3', f3', s3', hv2, _⟩ := HN2.out
        rw [hv2]
        rw [hv2] at HN2
        clear hv2
        obtain ⟨W2, HW2⟩ : ∃ W2, Hid (W2 = w12.alloc (.cells #[.bool (sigOf g (I ++ F.take k) (F.drop k) E).neg, .slice e1' f1' s1', .slice e2' f2' s2', .int .i64 (sigOf g (I ++ F.take k) (F.drop k) E).point, .slice e3' f3' s3'] 28)) := ⟨_, rfl⟩
        have hbW2 : Hid (Below w12.heap.size w12 W2) := by rw [HW2.out]; exact (Below.refl _ _).alloc (Nat.le_refl _) _
        have HBWW : Hid (Below W.heap.size W W2) := HBW12.out.trans (hbW2.out.mono HBW12.out.size)
        obtain ⟨⟨q0, q1, q2, q3, q4⟩, _, _⟩ := box5' HW.out HBWW.out
        have HM : Hid _ := move_plain g I F E k (by rw [HLF.out]; exact hk) HT.out (by rw [HLI.out]; exact hb1) (by rw [HLF.out]; exact hb2)
        have HSP : Hid _ := sig_parts g I F E
        have HSP2 : Hid _ := sig_parts g (I ++ F.take k) (F.drop k) E
        have eM : (I ++ F.take k) ++ F.drop k = I ++ F := by rw [List.append_assoc, List.take_append_drop]
        rw [eM] at HSP2
        clear eM
        have P1 : Hid (IsNum W2 _ (sigOf g I F E)) := HN12.out.below hbW2.out (Nat.le_refl _)
        have P2 : Hid (IsNum W2 _ (sigOf g (I ++ F.take k) (F.drop k) E)) := HN2.out.below hbW2.out (Nat.le_refl _)
        have HBW2 : Hid (Below _ _ W2) := HBW.out.trans (HBWW.out.mono HBW.out.size)
        clear HN12 HN2 HBW12 HBW HBWW hbW2
        obtain ⟨x1, x2, x3, x4, x5, x6, x7, x8, x9, hx, P1a, P1b, P1c⟩ := P1.out
        simp only [Value.agg.injEq, Array.mk.injEq, List.cons.injEq, Value.slice.injEq, true_and, and_true] at hx
        obtain ⟨⟨rfl, rfl, rfl⟩, ⟨rfl, rfl, rfl⟩, rfl, rfl, rfl⟩ := hx
        obtain ⟨x1, x2, x3, x4, x5, x6, x7, x8, x9, hx, P2a, P2b, P2c⟩ := P2.out
        simp only [Value.agg.injEq, Array.mk.injEq, List.cons.injEq, Value.slice.injEq, true_and, and_true] at hx
        obtain ⟨⟨rfl, rfl, rfl⟩, ⟨rfl, rfl, rfl⟩, rfl, rfl, rfl⟩ := hx
        clear P1 P2
        generalize sigOf g I F E = N1 at *
        generalize sigOf g (I ++ F.take k) (F.drop k) E = N2 at *
        have HC1 : Hid (f1 + f2 = (Qdec.span (I ++ F)).length) := by
          rw [Hid, ← HSP.out, List.length_append, P1a.len, P1b.len]
        have HC2 : Hid (f1' + f2' = (Qdec.span (I ++ F)).length) := by
          rw [Hid, ← HSP2.out, List.length_append, P2a.len, P2b.len]
        have HSS : Hid (N1.hi ++ N1.lo = N2.hi ++ N2.lo) := by rw [Hid, HSP.out, HSP2.out]
        clear HSP HSP2
        have HCB : Hid ((Qdec.span (I ++ F)).length ≤ 524288) := by
          have h1 : (Qdec.span (I ++ F)).length ≤ (I ++ F).length := by
            unfold Qdec.span
            have := trimR_len (Qdec.trimL (I ++ F))
            have h2 := Qdec.trimL_length (I ++ F)
            omega
          have h2 : (I ++ F).length = I.length + F.length := List.length_append
          have h3 := HLI.out
          have h4 := HLF.out
          unfold Hid
          omega
        generalize (Qdec.span (I ++ F)).length = cnt at *
        have PP1 : Hid (Row W2 e1 f1 s1 N1.hi ∧ Row W2 e2 f2 s2 N1.lo ∧ IsBig W2 e3 f3 s3 N1.big) := ⟨P1a, P1b, P1c⟩
        have PP2 : Hid (Row W2 e1' f1' s1' N2.hi ∧ Row W2 e2' f2' s2' N2.lo ∧ IsBig W2 e3' f3' s3' N2.big) := ⟨P2a, P2b, P2c⟩
        clear P1a P1b P1c P2a P2b P2c
        obtain ⟨ng1, hi1, lo1, pt1, bg1⟩ := N1
        obtain ⟨ng2, hi2, lo2, pt2, bg2⟩ := N2
        simp only at PP1 PP2 HSS HW2 HW HM q0 q1 q2 q3 q4 ⊢
        have hbf : f1 ≤ 2097152 ∧ f2 ≤ 2097152 := ⟨PP1.out.1.bd, PP1.out.2.1.bd⟩
        have hbf' : f1' ≤ 2097152 ∧ f2' ≤ 2097152 := ⟨PP2.out.1.bd, PP2.out.2.1.bd⟩
        obtain ⟨hbf1, hbf2⟩ := hbf
        obtain ⟨hbf1', hbf2'⟩ := hbf'
        have hcnt : ((f1 : Int) + (f2 : Int) != (cnt : Int)) = false := by have := HC1.out; simp; omega
        go_upto_region 25 with fail
        rw [← HW2.out]
        go_wp2_with fail
        refine (zzParts_any _ _ _ _ _ _ _ _ _ _ _ _).mono ?_
        rintro e w13 ⟨rfl, hB⟩
        have HB13 : Hid (Below W2.heap.size W2 w13) := hB
        obtain ⟨⟨r0, r1, r2, r3, r4⟩, _, _⟩ := box5' HW2.out hB
        clear hB q0 q1 q2 q3 q4
        go_wp2_with fail
        refine (zzParts_any _ _ _ _ _ _ _ _ _ _ _ _).mono ?_
        rintro e w14 ⟨rfl, hB⟩
        have HB14 : Hid (Below W2.heap.size W2 w14) := HB13.out.trans (hB.mono HB13.out.size)
        clear hB HB13 r0 r1 r2 r3 r4
        rcases HM.out with ⟨m1, m2, m3⟩ | ⟨m1, m2, m3, m4, m5, m6, m7⟩
        · simp only [Num.zero, Num.mk.injEq] at m2 m3
          obtain ⟨rfl, rfl, rfl, rfl, rfl⟩ := m2
          obtain ⟨rfl, rfl, rfl, rfl, rfl⟩ := m3
          obtain ⟨rfl, rfl, rfl⟩ := PP1.out.2.2
          obtain ⟨rfl, rfl, rfl⟩ := PP2.out.2.2
          subst m1
          have hf1 : f1 = 0 := PP1.out.1.len.symm
          have hf2 : f2 = 0 := PP1.out.2.1.len.symm
          have hf1' : f1' = 0 := PP2.out.1.len.symm
          have hf2' : f2' = 0 := PP2.out.2.1.len.symm
          subst hf1 hf2 hf1' hf2'
          go_wp2
          go_ret
          exact ⟨rfl, HBW2.out.trans (HB14.out.mono HBW2.out.size)⟩
        · have m2' : ng1 = g := m2
          have m3' : ng2 = g := m3
          have m4' : pt2 = pt1 + (k : Int) := m4
          have m5' : -1000000000010000000 ≤ pt1 := m5
          have m6' : pt1 ≤ 1000000000010000000 := m6
          have m7' : bg1 = bg2 := m7.symm
          clear m2 m3 m4 m5 m6 m7
          subst m2'
          subst m3'
          subst m4'
          subst m7'
          have hcz : ((cnt : Int) == 0) = false := by simp; omega
          have hgg : (ng2 == ng2) = true := by cases ng2 <;> rfl
          have hpp : ((pt1 + (k : Int)) == (pt1 + (k : Int))) = true := small_eq _
          have HBF : Hid _ := HBW2.out.trans (HB14.out.mono HBW2.out.size)
          have Q1 : Hid (Row w14 e1 f1 s1 hi1) := PP1.out.1.below HB14.out (Nat.le_refl _)
          have Q2 : Hid (Row w14 e2 f2 s2 lo1) := PP1.out.2.1.below HB14.out (Nat.le_refl _)
          have Q1' : Hid (Row w14 e1' f1' s1' hi2) := PP2.out.1.below HB14.out (Nat.le_refl _)
          have Q2' : Hid (Row w14 e2' f2' s2' lo2) := PP2.out.2.1.below HB14.out (Nat.le_refl _)
          have hs1 : f1 + f2 ≤ 2097152 ∧ f1' + f2' ≤ 2097152 := by
            have h1 := HC1.out
            have h2 := HC2.out
            have h3 := HCB.out
            omega
          go_wp2_with fail
          refine (joinBytes_any e1 f1 s1 hi1 e2 f2 s2 lo1 _ Q1.out Q2.out hs1.1).mono ?_
          rintro e w15 ⟨j1, rfl, qJ, hB⟩
          have J1 : Hid (Row w15 j1 (f1 + f2) (f1 + f2) (hi1 ++ lo1)) := qJ
          have HB15 : Hid (Below w14.heap.size w14 w15) := hB
          clear qJ hB
          go_wp2_with fail
          refine (joinBytes_any e1' f1' s1' hi2 e2' f2' s2' lo2 _ (Q1'.out.below HB15.out (Nat.le_refl _)) (Q2'.out.below HB15.out (Nat.le_refl _)) hs1.2).mono ?_
          rintro e w16 ⟨j2, rfl, qJ, hB⟩
          have J2 : Hid (Row w16 j2 (f1' + f2') (f1' + f2') (hi2 ++ lo2)) := qJ
          have J1' : Hid (Row w16 j1 (f1 + f2) (f1 + f2) (hi1 ++ lo1)) := J1.out.below hB (Nat.le_refl _)
          have HB16 : Hid (Below w14.heap.size w14 w16) := HB15.out.trans (hB.mono HB15.out.size)
          clear qJ hB J1 HB15
          go_wp2_with fail
          refine (sameBytes_any _ _ _ _ _ _ _ _ _ J1'.out J2.out).mono ?_
          rintro e w17 ⟨rfl, hB⟩
          have HB17 : Hid (Below w14.heap.size w14 w17) := HB16.out.trans (hB.mono HB16.out.size)
          clear hB J1' J2 HB16
          rw [show decide (hi1 ++ lo1 = hi2 ++ lo2) = true from decide_eq_true HSS.out]
          cases bg1 with
          | none =>
            obtain ⟨rfl, rfl, rfl⟩ := PP1.out.2.2
            obtain ⟨rfl, rfl, rfl⟩ := PP2.out.2.2
            go_wp2_with fail
            refine (sameBytes_any none 0 0 [] none 0 0 [] _ (Row.nil _) (Row.nil _)).mono ?_
            rintro e w18 ⟨rfl, hB⟩
            have HB18 : Hid (Below w14.heap.size w14 w18) := HB17.out.trans (hB.mono HB17.out.size)
            clear hB
            rw [show decide (([] : List Int) = []) = true from decide_eq_true rfl]
            go_wp2
            go_ret
            exact ⟨rfl, HBF.out.trans (HB18.out.mono HBF.out.size)⟩
          | some bb =>
            obtain ⟨u1, u2⟩ := PP1.out.2.2
            obtain ⟨u3, u4⟩ := PP2.out.2.2
            have V1 : Hid (Row w14 e3 f3 s3 bb) := u2.below HB14.out (Nat.le_refl _)
            have V2 : Hid (Row w14 e3' f3' s3' bb) := u4.below HB14.out (Nat.le_refl _)
            clear u2 u4
            go_wp2_with fail
            refine (sameBytes_any e3 f3 s3 bb e3' f3' s3' bb _ (V1.out.below HB17.out (Nat.le_refl _)) (V2.out.below HB17.out (Nat.le_refl _))).mono ?_
            rintro e w18 ⟨rfl, hB⟩
            have HB18 : Hid (Below w14.heap.size w14 w18) := HB17.out.trans (hB.mono HB17.out.size)
            clear hB
            rw [show decide (bb = bb) = true from decide_eq_true rfl]
            go_wp2
            go_ret
            exact ⟨rfl, HBF.out.trans (HB18.out.mono HBF.out.size)⟩

end Go.Proofs.Qxb6619243a
