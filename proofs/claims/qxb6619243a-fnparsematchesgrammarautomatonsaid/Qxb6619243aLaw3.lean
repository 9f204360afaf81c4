/-
  FnSignificantMatchesDigitSpan (3).
-/
import Derived.Test.Qxb6619243aMatch
namespace Go.Proofs.Qxb6619243a
open Go.RowKit

theorem IsNum.below {w w' : World} {v : Value} {N : Num} {B : Nat} (h : IsNum w v N) (hb : Below B w w') (hB : w.heap.size ≤ B) : IsNum w' v N := by
  obtain ⟨a1, n1, c1, a2, n2, c2, a3, n3, c3, rfl, h1, h2, h3⟩ := h
  refine ⟨a1, n1, c1, a2, n2, c2, a3, n3, c3, rfl, h1.below hb hB, h2.below hb hB, ?_⟩
  cases hN : N.big with
  | none => rw [hN] at h3; exact h3
  | some e => rw [hN] at h3; exact ⟨h3.1, h3.2.below hb hB⟩

set_option maxHeartbeats 1000000 in
theorem zz9 (g : Bool) (a1 : Option Addr) (n1 c1 : Nat) (a2 : Option Addr) (n2 c2 : Nat) (a3 : Option Addr) (n3 c3 : Nat) (w : World) (h : n1 + n2 + n3 ≤ 1048576) :
    Calls Try.prog 9 #[.bool g, .slice a1 n1 c1, .slice a2 n2 c2, .slice a3 n3 c3] w fun e w' => e = .returned (.bool true) ∧ w' = w := by
  go_enter Try.func9, Try.ntmps9
  go_wp2
  go_ret
  exact ⟨rfl, rfl⟩
set_option maxHeartbeats 1000000 in
theorem zz9' (g : Bool) (a1 : Option Addr) (n1 c1 : Nat) (a2 : Option Addr) (n2 c2 : Nat) (a3 : Option Addr) (n3 c3 : Nat) (w : World) (h : ¬ n1 + n2 + n3 ≤ 1048576) (h1 : n1 ≤ maxLen) (h2 : n2 ≤ maxLen) (h3 : n3 ≤ maxLen) :
    Calls Try.prog 9 #[.bool g, .slice a1 n1 c1, .slice a2 n2 c2, .slice a3 n3 c3] w fun e w' => e = .returned (.bool false) ∧ w' = w := by
  unfold maxLen at h1 h2 h3
  go_enter Try.func9, Try.ntmps9
  go_wp2
  all_goals
    go_ret
    exact ⟨rfl, rfl⟩

set_option maxHeartbeats 4000000 in
theorem law3 (g : Bool) (a1 : Option Addr) (n1 c1 : Nat) (I : List Int) (a2 : Option Addr) (n2 c2 : Nat) (F : List Int) (a3 : Option Addr) (n3 c3 : Nat) (E : List Int) (w : World)
    (hn : n1 + n2 + n3 ≤ 1048576) (h1 : Row w a1 n1 c1 I) (h2 : Row w a2 n2 c2 F) (h3 : Row w a3 n3 c3 E) :
    Calls Try.prog 3 #[.bool g, .slice a1 n1 c1, .slice a2 n2 c2, .slice a3 n3 c3] w fun e w' => e = .returned (.bool true) ∧ Below w.heap.size w w' := by
  have RI : Hid (Row w a1 n1 c1 I) := h1
  have RF : Hid (Row w a2 n2 c2 F) := h2
  have RE : Hid (Row w a3 n3 c3 E) := h3
  have HLI : Hid (I.length = n1) := h1.len
  clear h1 h2 h3
  by_cases hb1 : n1 ≤ 262144
  case neg =>
    go_enter Try.func3, Try.ntmps3
    go_wp2_with fail
    refine (zz9 g a1 n1 c1 a2 n2 c2 a3 n3 c3 _ hn).mono ?_
    rintro e w0 ⟨rfl, rfl⟩
    go_wp2
    go_ret
    exact ⟨rfl, Below.refl _ _⟩
  by_cases hb2 : n2 ≤ 262144
  case neg =>
    go_enter Try.func3, Try.ntmps3
    go_wp2_with fail
    refine (zz9 g a1 n1 c1 a2 n2 c2 a3 n3 c3 _ hn).mono ?_
    rintro e w0 ⟨rfl, rfl⟩
    go_wp2
    go_ret
    exact ⟨rfl, Below.refl _ _⟩
  by_cases hb3 : n3 ≤ 262144
  case neg =>
    go_enter Try.func3, Try.ntmps3
    go_wp2_with fail
    refine (zz9 g a1 n1 c1 a2 n2 c2 a3 n3 c3 _ hn).mono ?_
    rintro e w0 ⟨rfl, rfl⟩
    go_wp2
    go_ret
    exact ⟨rfl, Below.refl _ _⟩
  go_enter Try.func3, Try.ntmps3
  go_wp2_with fail
  refine (zz9 g a1 n1 c1 a2 n2 c2 a3 n3 c3 _ hn).mono ?_
  rintro e w0 ⟨rfl, rfl⟩
  go_wp2_with fail
  refine (allDigits_any a1 n1 c1 I _ RI.out).mono ?_
  rintro e w0 ⟨rfl, rfl⟩
  cases hT1 : Qdec.allDig I with
  | false =>
    go_wp2
    go_ret
    exact ⟨rfl, Below.refl _ _⟩
  | true =>
  clear hT1
  go_wp2_with fail
  refine (allDigits_any a2 n2 c2 F _ RF.out).mono ?_
  rintro e w0 ⟨rfl, rfl⟩
  cases hT2 : Qdec.allDig F with
  | false =>
    go_wp2
    go_ret
    exact ⟨rfl, Below.refl _ _⟩
  | true =>
  clear hT2
  go_wp2_with fail
  refine (isExpText_any a3 n3 c3 E _ RE.out).mono ?_
  rintro e w0 ⟨rfl, rfl⟩
  cases hT3 : Qdec.isExpT E with
  | false =>
    go_wp2
    go_ret
    exact ⟨rfl, Below.refl _ _⟩
  | true =>
  have HT : Hid (Qdec.isExpT E = true) := hT3
  clear hT3
  go_wp2_with fail
  refine (cloneBytes_any a1 n1 c1 I _ RI.out).mono ?_
  rintro e w1 ⟨b1, d1, rfl, _, qI, hB⟩
  have RI1 : Hid (Row w1 b1 n1 d1 I) := qI
  have RF1 : Hid (Row w1 a2 n2 c2 F) := RF.out.below hB (Nat.le_refl _)
  have RE1 : Hid (Row w1 a3 n3 c3 E) := RE.out.below hB (Nat.le_refl _)
  have HB1 : Hid (Below _ _ w1) := hB
  clear qI hB RI RF RE
  go_wp2_with fail
  refine (cloneBytes_any a2 n2 c2 F _ RF1.out).mono ?_
  rintro e w2 ⟨b2, d2, rfl, _, qF, hB⟩
  have RI2 : Hid (Row w2 b1 n1 d1 I) := RI1.out.below hB (Nat.le_refl _)
  have RF2 : Hid (Row w2 b2 n2 d2 F) := qF
  have RE2 : Hid (Row w2 a3 n3 c3 E) := RE1.out.below hB (Nat.le_refl _)
  have HB2 : Hid (Below _ _ w2) := HB1.out.trans (hB.mono HB1.out.size)
  clear qF hB RI1 RF1 RE1 HB1
  go_wp2_with fail
  refine (cloneBytes_any a3 n3 c3 E _ RE2.out).mono ?_
  rintro e w3 ⟨b3, d3, rfl, _, qE, hB⟩
  have RI3 : Hid (Row w3 b1 n1 d1 I) := RI2.out.below hB (Nat.le_refl _)
  have RF3 : Hid (Row w3 b2 n2 d2 F) := RF2.out.below hB (Nat.le_refl _)
  have RE3 : Hid (Row w3 b3 n3 d3 E) := qE
  have HB3 : Hid (Below _ _ w3) := HB2.out.trans (hB.mono HB2.out.size)
  clear qE hB RI2 RF2 RE2 HB2
  go_wp2_with fail
  refine (joinBytes_any b1 n1 d1 I b2 n2 d2 F _ RI3.out RF3.out (by omega)).mono ?_
  rintro e w4 ⟨b4, rfl, qM, hB⟩
  have RI4 : Hid (Row w4 b1 n1 d1 I) := RI3.out.below hB (Nat.le_refl _)
  have RF4 : Hid (Row w4 b2 n2 d2 F) := RF3.out.below hB (Nat.le_refl _)
  have RE4 : Hid (Row w4 b3 n3 d3 E) := RE3.out.below hB (Nat.le_refl _)
  have RM4 : Hid (Row w4 b4 (n1 + n2) (n1 + n2) (I ++ F)) := qM
  have HB4 : Hid (Below _ _ w4) := HB3.out.trans (hB.mono HB3.out.size)
  clear qM hB RI3 RF3 RE3 HB3
  go_wp2_with fail
  refine (cloneBytes_any b1 n1 d1 I _ RI4.out).mono ?_
  rintro e w5 ⟨k1, m1, rfl, _, qI, hB⟩
  have KI5 : Hid (Row w5 k1 n1 m1 I) := qI
  have RF5 : Hid (Row w5 b2 n2 d2 F) := RF4.out.below hB (Nat.le_refl _)
  have RE5 : Hid (Row w5 b3 n3 d3 E) := RE4.out.below hB (Nat.le_refl _)
  have RM5 : Hid (Row w5 b4 (n1 + n2) (n1 + n2) (I ++ F)) := RM4.out.below hB (Nat.le_refl _)
  have HB5 : Hid (Below _ _ w5) := HB4.out.trans (hB.mono HB4.out.size)
  clear qI hB RI4 RF4 RE4 RM4 HB4
  go_wp2_with fail
  refine (cloneBytes_any b2 n2 d2 F _ RF5.out).mono ?_
  rintro e w6 ⟨k2, m2, rfl, _, qF, hB⟩
  have KI6 : Hid (Row w6 k1 n1 m1 I) := KI5.out.below hB (Nat.le_refl _)
  have KF6 : Hid (Row w6 k2 n2 m2 F) := qF
  have RE6 : Hid (Row w6 b3 n3 d3 E) := RE5.out.below hB (Nat.le_refl _)
  have RM6 : Hid (Row w6 b4 (n1 + n2) (n1 + n2) (I ++ F)) := RM5.out.below hB (Nat.le_refl _)
  have HB6 : Hid (Below _ _ w6) := HB5.out.trans (hB.mono HB5.out.size)
  clear qF hB KI5 RF5 RE5 RM5 HB5
  go_wp2_with fail
  refine (cloneBytes_any b3 n3 d3 E _ RE6.out).mono ?_
  rintro e w7 ⟨k3, m3, rfl, _, qE, hB⟩
  have KI7 : Hid (Row w7 k1 n1 m1 I) := KI6.out.below hB (Nat.le_refl _)
  have KF7 : Hid (Row w7 k2 n2 m2 F) := KF6.out.below hB (Nat.le_refl _)
  have KE7 : Hid (Row w7 k3 n3 m3 E) := qE
  have RE7 : Hid (Row w7 b3 n3 d3 E) := RE6.out.below hB (Nat.le_refl _)
  have RM7 : Hid (Row w7 b4 (n1 + n2) (n1 + n2) (I ++ F)) := RM6.out.below hB (Nat.le_refl _)
  have HB7 : Hid (Below _ _ w7) := HB6.out.trans (hB.mono HB6.out.size)
  clear qE hB KI6 KF6 RE6 RM6 HB6
  go_wp2_with fail
  refine (zzSignificant_any g k1 n1 m1 I k2 n2 m2 F k3 n3 m3 E _ KI7.out KF7.out KE7.out HT.out).mono ?_
  rintro e w8 ⟨v, rfl, hN, hB⟩
  have HN8 : Hid (IsNum w8 v (sigOf g I F E)) := hN.below hB (Nat.le_refl _)
  have RE8 : Hid (Row w8 b3 n3 d3 E) := RE7.out.below hB (Nat.le_refl _)
  have RM8 : Hid (Row w8 b4 (n1 + n2) (n1 + n2) (I ++ F)) := RM7.out.below hB (Nat.le_refl _)
  have HB8 : Hid (Below _ _ w8) := HB7.out.trans (hB.mono HB7.out.size)
  clear hN hB KI7 KF7 KE7 RE7 RM7 HB7
  obtain ⟨e1, f1, s1, e2, f2, s2, e3, f3, s3, hv, _⟩ := HN8.out
  rw [hv]
  rw [hv] at HN8
  clear hv
  have hb9 : Hid (Below w8.heap.size w8 (w8.alloc (.cells #[.bool (sigOf g I F E).neg, .slice e1 f1 s1, .slice e2 f2 s2, .int .i64 (sigOf g I F E).point, .slice e3 f3 s3] 28))) := (Below.refl _ _).alloc (Nat.le_refl _) _
  go_wp2_with fail
  refine (matchesValue_any g I F E _ b4 (n1 + n2) (n1 + n2) n1 b3 n3 d3 _ (HN8.out.below hb9.out (Nat.le_refl _)) (RM8.out.below hb9.out (Nat.le_refl _)) HLI.out (RE8.out.below hb9.out (Nat.le_refl _)) HT.out).mono ?_
  rintro e w9 ⟨rfl, hB⟩
  have HB9 : Hid (Below _ _ w9) := (HB8.out.trans (hb9.out.mono HB8.out.size)).trans (hB.mono (by have := HB8.out.size; simp; omega))
  clear hB
  go_wp2
  go_ret
  exact ⟨rfl, HB9.out⟩

set_option maxHeartbeats 1000000 in
theorem law3' (g : Bool) (a1 : Option Addr) (n1 c1 : Nat) (a2 : Option Addr) (n2 c2 : Nat) (a3 : Option Addr) (n3 c3 : Nat) (w : World) (h : ¬ n1 + n2 + n3 ≤ 1048576) (h1 : n1 ≤ maxLen) (h2 : n2 ≤ maxLen) (h3 : n3 ≤ maxLen) :
    Calls Try.prog 3 #[.bool g, .slice a1 n1 c1, .slice a2 n2 c2, .slice a3 n3 c3] w fun e w' => e = .returned (.bool true) ∧ Below w.heap.size w w' := by
  go_enter Try.func3, Try.ntmps3
  go_wp2_with fail
  refine (zz9' g a1 n1 c1 a2 n2 c2 a3 n3 c3 _ h h1 h2 h3).mono ?_
  rintro e w0 ⟨rfl, rfl⟩
  go_wp2
  go_ret
  exact ⟨rfl, Below.refl _ _⟩

end Go.Proofs.Qxb6619243a
