/-
  FnSignificantMovingThePointShiftsIt (8): the early returns.
-/
import Derived.Test.Qxb6619243aLaw8
namespace Go.Proofs.Qxb6619243a
open Go.RowKit

set_option maxHeartbeats 1000000 in
set_option maxRecDepth 100000 in
theorem law8_sum (g : Bool) (a1 : Option Addr) (n1 c1 : Nat) (a2 : Option Addr) (n2 c2 : Nat) (a3 : Option Addr) (n3 c3 : Nat) (k : Int) (w : World) (h : ¬ n1 + n2 + n3 ≤ 1048576) (h1 : n1 ≤ maxLen) (h2 : n2 ≤ maxLen) (h3 : n3 ≤ maxLen) :
    Calls Try.prog 8 #[.bool g, .slice a1 n1 c1, .slice a2 n2 c2, .slice a3 n3 c3, .int .i64 k] w fun e w' => e = .returned (.bool true) ∧ Below w.heap.size w w' := by
  go_enter Try.func8, Try.ntmps8
  go_wp2_with fail
  refine (zz30' g a1 n1 c1 a2 n2 c2 a3 n3 c3 k _ h h1 h2 h3).mono ?_
  rintro e w0 ⟨rfl, rfl⟩
  go_wp2
  go_ret
  exact ⟨rfl, Below.refl _ _⟩
set_option maxHeartbeats 1000000 in
set_option maxRecDepth 100000 in
theorem law8_long (g : Bool) (a1 : Option Addr) (n1 c1 : Nat) (a2 : Option Addr) (n2 c2 : Nat) (a3 : Option Addr) (n3 c3 : Nat) (k : Int) (w : World) (hn : n1 + n2 + n3 ≤ 1048576) (h : ¬ (n1 ≤ 262144 ∧ n2 ≤ 262144 ∧ n3 ≤ 262144)) :
    Calls Try.prog 8 #[.bool g, .slice a1 n1 c1, .slice a2 n2 c2, .slice a3 n3 c3, .int .i64 k] w fun e w' => e = .returned (.bool true) ∧ Below w.heap.size w w' := by
  have h' : ¬ n1 ≤ 262144 ∨ (n1 ≤ 262144 ∧ ¬ n2 ≤ 262144) ∨ (n1 ≤ 262144 ∧ n2 ≤ 262144 ∧ ¬ n3 ≤ 262144) := by omega
  clear h
  rcases h' with h1 | ⟨h1, h2⟩ | ⟨h1, h2, h3⟩
  all_goals
    go_enter Try.func8, Try.ntmps8
    go_wp2_with fail
    refine (zz30 g a1 n1 c1 a2 n2 c2 a3 n3 c3 k _ hn).mono ?_
    rintro e w0 ⟨rfl, rfl⟩
    go_wp2
    go_ret
    exact ⟨rfl, Below.refl _ _⟩
set_option maxHeartbeats 1000000 in
set_option maxRecDepth 100000 in
theorem law8_k (g : Bool) (a1 : Option Addr) (n1 c1 : Nat) (I : List Int) (a2 : Option Addr) (n2 c2 : Nat) (F : List Int) (a3 : Option Addr) (n3 c3 : Nat) (E : List Int) (k : Int) (w : World)
    (hn : n1 + n2 + n3 ≤ 1048576) (hb1 : n1 ≤ 262144) (hb2 : n2 ≤ 262144) (hb3 : n3 ≤ 262144) (hk : k < 0 ∨ (n2 : Int) < k) (h1 : Row w a1 n1 c1 I) (h2 : Row w a2 n2 c2 F) (h3 : Row w a3 n3 c3 E) :
    Calls Try.prog 8 #[.bool g, .slice a1 n1 c1, .slice a2 n2 c2, .slice a3 n3 c3, .int .i64 k] w fun e w' => e = .returned (.bool true) ∧ Below w.heap.size w w' := by
  have RI : Hid (Row w a1 n1 c1 I) := h1
  have RF : Hid (Row w a2 n2 c2 F) := h2
  have RE : Hid (Row w a3 n3 c3 E) := h3
  clear h1 h2 h3
  have hk' : (decide (k < 0) = true) ∨ (decide (k < 0) = false ∧ decide ((n2 : Int) < k) = true) := by simp; omega
  clear hk
  go_enter Try.func8, Try.ntmps8
  go_wp2_with fail
  refine (zz30 g a1 n1 c1 a2 n2 c2 a3 n3 c3 _ _ hn).mono ?_
  rintro e w0 ⟨rfl, rfl⟩
  go_wp2_with fail
  refine (allDigits_any a1 n1 c1 I _ RI.out).mono ?_
  rintro e w0 ⟨rfl, rfl⟩
  cases hT1 : Qdec.allDig I with
  | false =>
    go_wp2
    go_ret
    exact ⟨rfl, Below.refl _ _⟩
  | true =>
  clear hT1
  go_wp2_with fail
  refine (allDigits_any a2 n2 c2 F _ RF.out).mono ?_
  rintro e w0 ⟨rfl, rfl⟩
  cases hT2 : Qdec.allDig F with
  | false =>
    go_wp2
    go_ret
    exact ⟨rfl, Below.refl _ _⟩
  | true =>
  clear hT2
  go_wp2_with fail
  refine (isExpText_any a3 n3 c3 E _ RE.out).mono ?_
  rintro e w0 ⟨rfl, rfl⟩
  cases hT3 : Qdec.isExpT E with
  | false =>
    go_wp2
    go_ret
    exact ⟨rfl, Below.refl _ _⟩
  | true =>
  clear hT3
  rcases hk' with hd | ⟨hd, hd2⟩
  all_goals
    go_wp2
    go_ret
    exact ⟨rfl, Below.refl _ _⟩

end Go.Proofs.Qxb6619243a
