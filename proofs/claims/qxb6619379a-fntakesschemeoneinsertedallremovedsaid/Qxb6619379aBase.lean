/-
  WHAT THE WALKS SAY OF A SLICE OF STRINGS IN MEMORY: 'RowS w a n cap ss'; takesScheme (16), ZZTakesScheme (13).
-/
import Derived.Test.Qxb6619379aProg
import Derived.WalkKit
import Derived.WalkSpells
import Derived.WalkLawsBesides
import Derived.Below
import Derived.Deep.DeepCutAuto
import Derived.Deep.CutBlock
import Derived.Laws.CopyOwn
namespace Go.Proofs.Qxb6619379a
open Go.RowKit

theorem ret_bool {a b : Bool} (h : a = b) : Ending.returned (.bool a) = .returned (.bool b) := by rw [h]

/-- The slice value '.slice a n cap' reads, in the world w, as the strings ss. Where it is empty nothing is known of its address. -/
structure RowS (w : World) (a : Option Addr) (n cap : Nat) (ss : List ByteArray) : Prop where
  len : ss.length = n
  le : n ≤ cap
  cm : cap ≤ maxLen
  bd : n ≤ 2097152
  cells : 0 < n → ∃ b off, a = some ⟨b, off, none⟩ ∧ ∀ i, i < n → w.cell? ⟨b, off + i, none⟩ = some (.string (ss.getD i ByteArray.empty))

theorem RowS.nil (w : World) : RowS w none 0 0 [] :=
  ⟨rfl, Nat.le_refl _, by unfold maxLen; omega, by omega, fun h => by omega⟩

theorem cell_lt {w : World} {p : Addr} {v : Value} (h : w.cell? p = some v) : p.block < w.heap.size := by
  by_cases hp : p.block < w.heap.size
  · exact hp
  · exfalso
    have : w.heap[p.block]? = none := by simp; omega
    simp [World.cell?, this] at h

theorem RowS.below {w w' : World} {a : Option Addr} {n cap : Nat} {ss : List ByteArray} {B : Nat} (h : RowS w a n cap ss) (hb : Below B w w') (hB : w.heap.size ≤ B) : RowS w' a n cap ss := by
  refine ⟨h.len, h.le, h.cm, h.bd, fun h0 => ?_⟩
  obtain ⟨b, off, ha, hc⟩ := h.cells h0
  refine ⟨b, off, ha, fun i hi => ?_⟩
  have hl := cell_lt (hc i hi)
  rw [hb.cell (p := ⟨b, off + i, none⟩) (by simp at hl ⊢; omega)]
  exact hc i hi
theorem RowS.cut {w : World} {a : Option Addr} {n cap : Nat} {ss : List ByteArray} (h : RowS w a n cap ss) (l r : Nat) (hl : l ≤ r) (hr : r ≤ n) :
    RowS w (if cap = l then a else a.map (·.add l)) (r - l) (cap - l) ((ss.drop l).take (r - l)) := by
  have := h.len; have := h.le; have := h.cm; have := h.bd
  refine ⟨by simp; omega, by omega, by omega, by omega, fun h0 => ?_⟩
  obtain ⟨b, off, ha, hc⟩ := h.cells (by omega)
  refine ⟨b, off + l, ?_, fun i hi => ?_⟩
  · rw [if_neg (by omega), ha]; simp [Addr.add]
  · rw [Nat.add_assoc, hc (l + i) (by omega)]
    simp [hi]
theorem RowS.pre {w : World} {a : Option Addr} {n c : Nat} {ss : List ByteArray} (h : RowS w a n c ss) (m : Nat) (hm : m ≤ n) : RowS w a m c (ss.take m) := by
  have := h.len; have := h.le; have := h.cm; have := h.bd
  refine ⟨by simp; omega, by omega, by omega, by omega, fun h0 => ?_⟩
  obtain ⟨b, off, ha, hc⟩ := h.cells (by omega)
  refine ⟨b, off, ha, fun i hi => ?_⟩
  rw [hc i (by omega)]
  simp [hi]
/-- the two cuts of a slice whose capacity is its length -/
theorem two_cuts {w : World} {a : Option Addr} {n : Nat} {xs : List ByteArray} (h : RowS w a n n xs) (k : Nat) (hk : k ≤ n) :
    (n = 0 ∧ k = 0 ∧ Hid (RowS w a 0 0 (xs.take k)) ∧ Hid (RowS w a 0 0 (xs.drop k))) ∨
    (∃ b off, a = some ⟨b, off, none⟩ ∧ ¬ n = 0 ∧ n = k ∧ Hid (RowS w (some ⟨b, off, none⟩) k n (xs.take k)) ∧ Hid (RowS w (some ⟨b, off, none⟩) 0 0 (xs.drop k))) ∨
    (∃ b off, a = some ⟨b, off, none⟩ ∧ ¬ n = 0 ∧ ¬ n = k ∧ Hid (RowS w (some ⟨b, off, none⟩) k n (xs.take k)) ∧ Hid (RowS w (some ⟨b, off + k, none⟩) (n - k) (n - k) (xs.drop k))) := by
  have hlen := h.len
  by_cases h0 : n = 0
  · left
    subst h0
    obtain rfl : k = 0 := by omega
    have hx : xs = [] := by simpa using hlen
    subst hx
    exact ⟨rfl, rfl, h, h⟩
  · right
    obtain ⟨b, off, rfl, _⟩ := h.cells (by omega)
    have h1 := h.pre k hk
    have h2 := h.cut k n hk (Nat.le_refl _)
    have e : (xs.drop k).take (n - k) = xs.drop k := List.take_of_length_le (by simp; omega)
    rw [e] at h2
    by_cases hkn : n = k
    · left
      rw [if_pos hkn, show n - k = 0 by omega] at h2
      exact ⟨b, off, rfl, h0, hkn, h1, h2⟩
    · right
      rw [if_neg hkn, Option.map_some, Go.WideShapes.add_plain] at h2
      exact ⟨b, off, rfl, h0, hkn, h1, h2⟩

/-! ### takesScheme -/
def takesB (ss : List ByteArray) (sc : ByteArray) : Bool := ss.any (fun c => c.toList == sc.toList)
theorem takesB_at {ss : List ByteArray} {sc : ByteArray} (k : Nat) (hk : k < ss.length) (h : ((ss.getD k ByteArray.empty).toList == sc.toList) = true) : takesB ss sc = true := by
  unfold takesB
  rw [List.any_eq_true]
  have e : ss.getD k ByteArray.empty = ss[k] := by simp [hk]
  rw [e] at h
  exact ⟨ss[k], List.getElem_mem hk, h⟩
theorem takesB_none {ss : List ByteArray} {sc : ByteArray} (k : Nat) (hk : ss.length = k) (h : ∀ i, i < k → ((ss.getD i ByteArray.empty).toList == sc.toList) = false) : takesB ss sc = false := by
  unfold takesB
  rw [List.any_eq_false]
  intro x hx
  obtain ⟨i, hi, rfl⟩ := List.mem_iff_getElem.1 hx
  have := h i (by omega)
  have e : ss.getD i ByteArray.empty = ss[i] := by simp [hi]
  rw [e] at this
  simp [this]
set_option maxHeartbeats 1000000 in
theorem takes_any (a : Option Addr) (n cap : Nat) (ss : List ByteArray) (q : Bool) (sh sc : ByteArray) (w : World) (hr : RowS w a n cap ss) :
    Calls Try.prog 16 #[.agg #[.slice a n cap, .bool q, .string sh], .string sc] w fun e w' => e = .returned (.bool (takesB ss sc)) ∧ Below w.heap.size w w' := by
  have hbd := hr.bd
  have hlen := hr.len
  by_cases h0 : n = 0
  · subst h0
    have hx : ss = [] := by simpa using hlen
    subst hx
    clear hr hlen hbd
    go_enter Try.func16, Try.ntmps16
    go_wp2
    refine wp_loop_rounds 1 ?_
    rw [rounds_succ]
    go_wp2
    go_ret
    exact ⟨rfl, (Below.refl _ _).alloc (Nat.le_refl _) _⟩
  · obtain ⟨b, off, rfl, hc⟩ := hr.cells (by omega)
    have HL : Hid (ss.length = n) := hlen
    have HC : Hid (∀ i, i < n → w.cell? ⟨b, off + i, none⟩ = some (.string (ss.getD i ByteArray.empty))) := hc
    have hbl : b < w.heap.size := cell_lt (hc 0 (by omega))
    clear hlen hr hc
    go_enter Try.func16, Try.ntmps16
    go_wp2
    go_loop [10] (fun i => ∃ k : Nat, k ≤ n ∧ i = .int .i64 k ∧ Hid (∀ i, i < k → ((ss.getD i ByteArray.empty).toList == sc.toList) = false)) (fun i => n - (intOf i).toNat)
    case atStart => exact ⟨0, Nat.zero_le _, rfl, fun i hi => by omega⟩
    case round =>
      obtain ⟨k, hk, rfl, hall⟩ := hrel
      by_cases hlt : k < n
      · have hck := HC.out k hlt
        generalize hg : ss.getD k ByteArray.empty = c at hck
        have HG : Hid (ss.getD k ByteArray.empty = c) := hg
        clear hg
        cases hd : (c.toList == sc.toList) with
        | true =>
          have hfin : Hid (takesB ss sc = true) := takesB_at k (by rw [HL.out]; exact hlt) (by rw [HG.out]; exact hd)
          go_wp2
          go_ret
          exact ⟨ret_bool hfin.out.symm, (Below.refl _ _).alloc (Nat.le_refl _) _⟩
        | false =>
          have HD : Hid ((c.toList == sc.toList) = false) := hd
          go_wp2
          go_round
          case rel =>
            refine ⟨k + 1, by omega, by go_num, fun i hi => ?_⟩
            by_cases e : i = k
            · subst e; rw [HG.out]; exact HD.out
            · exact hall.out i (by omega)
          case measure => simp [intOf]; omega
      · have hfin : Hid (takesB ss sc = false) := takesB_none k (by have := HL.out; omega) hall.out
        go_wp2
        go_ret
        exact ⟨ret_bool hfin.out.symm, (Below.refl _ _).alloc (Nat.le_refl _) _⟩

set_option maxHeartbeats 1000000 in
theorem zzTakes_any (a : Option Addr) (n cap : Nat) (ss : List ByteArray) (q : Bool) (sh sc : ByteArray) (w : World) (hr : RowS w a n cap ss) :
    Calls Try.prog 13 #[.slice a n cap, .bool q, .string sh, .string sc] w fun e w' => e = .returned (.bool (takesB ss sc)) ∧ Below w.heap.size w w' := by
  have HR : Hid (RowS w a n cap ss) := hr
  clear hr
  go_enter Try.func13, Try.ntmps13
  go_wp2_with fail
  refine (takes_any a n cap ss q sh sc _ HR.out).mono ?_
  rintro e w1 ⟨rfl, hB⟩
  have HB : Hid _ := hB
  clear hB
  go_wp2
  go_ret
  exact ⟨rfl, HB.out⟩

end Go.Proofs.Qxb6619379a
