/-
  WHAT THE WALKS SAY OF A SLICE OF BYTES IN MEMORY: 'Row w a n cap xs'.
-/
import Derived.Test.Qxb6619243aProg
import Derived.Test.Qxb6619243aPlain
import Derived.WalkKit
import Derived.WalkSpells
import Derived.WalkLawsBesides
import Derived.Below
namespace Go.Proofs.Qxb6619243a
open Go.RowKit

/-- The slice value '.slice a n cap' reads, in the world w, as the bytes xs. Where it is empty nothing is known of its address. -/
structure Row (w : World) (a : Option Addr) (n cap : Nat) (xs : List Int) : Prop where
  len : xs.length = n
  le : n ≤ cap
  cm : cap ≤ maxLen
  bd : n ≤ 2097152
  cells : 0 < n → ∃ b off, a = some ⟨b, off, none⟩ ∧ ∀ i, i < n → w.cell? ⟨b, off + i, none⟩ = some (.int .u8 (xs.getD i 0))
  byte : ∀ i, 0 ≤ xs.getD i 0 ∧ xs.getD i 0 ≤ 255

theorem Row.nil (w : World) : Row w none 0 0 [] :=
  ⟨rfl, Nat.le_refl _, by unfold maxLen; omega, by omega, fun h => by omega, fun i => by simp⟩

theorem cell_lt {w : World} {p : Addr} {v : Value} (h : w.cell? p = some v) : p.block < w.heap.size := by
  by_cases hp : p.block < w.heap.size
  · exact hp
  · exfalso
    have : w.heap[p.block]? = none := by simp; omega
    simp [World.cell?, this] at h

theorem Row.below {w w' : World} {a : Option Addr} {n cap : Nat} {xs : List Int} {B : Nat} (h : Row w a n cap xs) (hb : Below B w w') (hB : w.heap.size ≤ B) : Row w' a n cap xs := by
  refine ⟨h.len, h.le, h.cm, h.bd, fun h0 => ?_, h.byte⟩
  obtain ⟨b, off, ha, hc⟩ := h.cells h0
  refine ⟨b, off, ha, fun i hi => ?_⟩
  have hl := cell_lt (hc i hi)
  rw [hb.cell (p := ⟨b, off + i, none⟩) (by simp at hl ⊢; omega)]
  exact hc i hi

/-- 'x[l:h]' -/
theorem Row.cut {w : World} {a : Option Addr} {n cap : Nat} {xs : List Int} (h : Row w a n cap xs) (l r : Nat) (hl : l ≤ r) (hr : r ≤ n) :
    Row w (if cap = l then a else a.map (·.add l)) (r - l) (cap - l) ((xs.drop l).take (r - l)) := by
  have := h.len; have := h.le; have := h.cm; have := h.bd
  refine ⟨by simp; omega, by omega, by omega, by omega, fun h0 => ?_, fun i => ?_⟩
  · obtain ⟨b, off, ha, hc⟩ := h.cells (by omega)
    refine ⟨b, off + l, ?_, fun i hi => ?_⟩
    · rw [if_neg (by omega), ha]; simp [Addr.add]
    · rw [Nat.add_assoc, hc (l + i) (by omega)]
      simp [hi]
  · by_cases hi : i < r - l
    · have := h.byte (l + i)
      simpa [List.getElem?_take, hi] using this
    · simp [List.getElem?_take, hi]

end Go.Proofs.Qxb6619243a
