/-
  THE BRIDGE from an argument that came in to 'Row'; the programs' own bounds (zzBytes: 16, 19, 21, 25).
-/
import Derived.Test.Qxb6619243aWalksD
import Derived.ProofKit
import Derived.OpenShut
namespace Go.Proofs.Qxb6619243a
open Go.ChangeShapes Go.WideShapes Go.ChangeAt Go.RowKit

theorem rowOf {w : World} {a : Option Addr} {len cap : Nat} {zs : List Int}
    (h : (a = none ∧ len = 0 ∧ cap = 0 ∧ zs = []) ∨
      ∃ x, a = some x ∧ len ≤ cap ∧ cap ≤ maxLen ∧ zs.length = cap ∧ (∀ i, i < zs.length → w.cell? (x.add i) = some (.int .u8 (zs.getD i 0))) ∧ ∀ n ∈ zs, (Lit.int .u8 n).wf = true)
    (hl : len ≤ 2097152) : Row w a len cap (zs.take len) := by
  rcases h with ⟨rfl, rfl, rfl, rfl⟩ | ⟨x, rfl, hle, hm, hz, hc, hw⟩
  · exact Row.nil w
  · refine ⟨by simp; omega, hle, hm, hl, fun h0 => ?_, fun i => ?_⟩
    · obtain ⟨b, off, spot⟩ := x
      have h1 := hc 0 (by omega)
      have hspot : spot = none := by simpa [Addr.add] using World.cell?_spot h1
      subst hspot
      refine ⟨b, off, rfl, fun i hi => ?_⟩
      have := hc i (by omega)
      rw [add_plain] at this
      rw [this]
      simp [hi]
    · by_cases hi : i < len
      · have := range_u8 hw i
        simp only [List.getD_eq_getElem?_getD, List.getElem?_take, hi, if_true]
        exact this
      · simp [List.getElem?_take, hi]

set_option maxHeartbeats 400000 in
theorem zz16 (a : Option Addr) (n cap : Nat) (w : World) (h : n ≤ 1048576) : Calls Try.prog 16 #[.slice a n cap] w fun e w' => e = .returned (.bool true) ∧ w' = w := by
  go_enter Try.func16, Try.ntmps16
  go_wp2
  go_ret
  exact ⟨rfl, rfl⟩
set_option maxHeartbeats 400000 in
theorem zz16' (a : Option Addr) (n cap : Nat) (w : World) (h : ¬ n ≤ 1048576) (hm : n ≤ maxLen) : Calls Try.prog 16 #[.slice a n cap] w fun e w' => e = .returned (.bool false) ∧ w' = w := by
  unfold maxLen at hm
  go_enter Try.func16, Try.ntmps16
  go_wp2
  go_ret
  exact ⟨rfl, rfl⟩
set_option maxHeartbeats 400000 in
theorem zz19 (a : Option Addr) (n cap : Nat) (w : World) (h : n ≤ 1048576) : Calls Try.prog 19 #[.slice a n cap] w fun e w' => e = .returned (.bool true) ∧ w' = w := by
  go_enter Try.func19, Try.ntmps19
  go_wp2
  go_ret
  exact ⟨rfl, rfl⟩
set_option maxHeartbeats 400000 in
theorem zz19' (a : Option Addr) (n cap : Nat) (w : World) (h : ¬ n ≤ 1048576) (hm : n ≤ maxLen) : Calls Try.prog 19 #[.slice a n cap] w fun e w' => e = .returned (.bool false) ∧ w' = w := by
  unfold maxLen at hm
  go_enter Try.func19, Try.ntmps19
  go_wp2
  go_ret
  exact ⟨rfl, rfl⟩
set_option maxHeartbeats 400000 in
theorem zz21 (a : Option Addr) (n cap : Nat) (w : World) (h : n ≤ 1048576) : Calls Try.prog 21 #[.slice a n cap] w fun e w' => e = .returned (.bool true) ∧ w' = w := by
  go_enter Try.func21, Try.ntmps21
  go_wp2
  go_ret
  exact ⟨rfl, rfl⟩
set_option maxHeartbeats 400000 in
theorem zz21' (a : Option Addr) (n cap : Nat) (w : World) (h : ¬ n ≤ 1048576) (hm : n ≤ maxLen) : Calls Try.prog 21 #[.slice a n cap] w fun e w' => e = .returned (.bool false) ∧ w' = w := by
  unfold maxLen at hm
  go_enter Try.func21, Try.ntmps21
  go_wp2
  go_ret
  exact ⟨rfl, rfl⟩
set_option maxHeartbeats 400000 in
theorem zz25 (a : Option Addr) (n cap : Nat) (w : World) (h : n ≤ 1048576) : Calls Try.prog 25 #[.slice a n cap] w fun e w' => e = .returned (.bool true) ∧ w' = w := by
  go_enter Try.func25, Try.ntmps25
  go_wp2
  go_ret
  exact ⟨rfl, rfl⟩
set_option maxHeartbeats 400000 in
theorem zz25' (a : Option Addr) (n cap : Nat) (w : World) (h : ¬ n ≤ 1048576) (hm : n ≤ maxLen) : Calls Try.prog 25 #[.slice a n cap] w fun e w' => e = .returned (.bool false) ∧ w' = w := by
  unfold maxLen at hm
  go_enter Try.func25, Try.ntmps25
  go_wp2
  go_ret
  exact ⟨rfl, rfl⟩

theorem lenOfArg {w : World} {a : Option Addr} {len cap : Nat} {zs : List Int}
    (h : (a = none ∧ len = 0 ∧ cap = 0 ∧ zs = []) ∨
      ∃ x, a = some x ∧ len ≤ cap ∧ cap ≤ maxLen ∧ zs.length = cap ∧ (∀ i, i < zs.length → w.cell? (x.add i) = some (.int .u8 (zs.getD i 0))) ∧ ∀ n ∈ zs, (Lit.int .u8 n).wf = true) : len ≤ maxLen := by
  rcases h with ⟨_, rfl, _, _⟩ | ⟨_, _, h1, h2, _⟩
  · exact Nat.zero_le _
  · omega

/-- FnSmallExponentMatchesPlaceValues -/
theorem small_eq (e : Int) : (e == e) = true := by simp

set_option maxHeartbeats 1000000 in
theorem law4 (a : Option Addr) (n cap : Nat) (xs : List Int) (w : World) (hn : n ≤ 1048576) (hr : Row w a n cap xs) :
    Calls Try.prog 4 #[.slice a n cap] w fun e w' => e = .returned (.bool true) ∧ Below w.heap.size w w' := by
  have HR : Hid (Row w a n cap xs) := hr
  clear hr
  go_enter Try.func4, Try.ntmps4
  go_wp2_with fail
  refine (zz16 a n cap _ hn).mono ?_
  rintro e w0 ⟨rfl, rfl⟩
  go_wp2_with fail
  refine (isExpText_any a n cap xs _ HR.out).mono ?_
  rintro e w0 ⟨rfl, rfl⟩
  cases hT : Qdec.isExpT xs with
  | false =>
    go_wp2
    go_ret
    exact ⟨rfl, Below.refl _ _⟩
  | true =>
    have HT : Hid (Qdec.isExpT xs = true) := hT
    clear hT
    go_wp2_with fail
    refine (cloneBytes_any a n cap xs _ HR.out).mono ?_
    rintro e w1 ⟨a1, c1, rfl, _, HR1, HB1⟩
    have HR1' : Hid (Row w1 a1 n c1 xs) := HR1
    have HB1' : Hid (Below _ _ w1) := HB1
    clear HR1 HB1
    go_wp2_with fail
    refine (expModel_any a1 n c1 xs _ HR1'.out HT.out).mono ?_
    rintro e w2 ⟨rfl, rfl⟩
    go_wp2_with fail
    refine (cloneBytes_any a1 n c1 xs _ HR1'.out).mono ?_
    rintro e w3 ⟨a2, c2, rfl, _, HR2, HB2⟩
    have HR2' : Hid (Row w3 a2 n c2 xs) := HR2
    have HB2' : Hid (Below _ _ w3) := HB2
    clear HR2 HB2
    go_wp2_with fail
    refine (zzSmallExponent_any a2 n c2 xs _ HR2'.out HT.out).mono ?_
    rintro e w4 ⟨rfl, rfl⟩
    generalize Qdec.smallExp xs = p
    obtain ⟨pe, pb⟩ := p
    have he := small_eq pe
    cases pb
    all_goals
      go_wp2
      go_ret
      exact ⟨rfl, HB1'.out.trans (HB2'.out.mono HB1'.out.size)⟩

set_option maxHeartbeats 400000 in
theorem law4' (a : Option Addr) (n cap : Nat) (w : World) (hn : ¬ n ≤ 1048576) (hm : n ≤ maxLen) :
    Calls Try.prog 4 #[.slice a n cap] w fun e w' => e = .returned (.bool true) ∧ Below w.heap.size w w' := by
  go_enter Try.func4, Try.ntmps4
  go_wp2_with fail
  refine (zz16' a n cap _ hn hm).mono ?_
  rintro e w0 ⟨rfl, rfl⟩
  go_wp2
  go_ret
  exact ⟨rfl, Below.refl _ _⟩

end Go.Proofs.Qxb6619243a
