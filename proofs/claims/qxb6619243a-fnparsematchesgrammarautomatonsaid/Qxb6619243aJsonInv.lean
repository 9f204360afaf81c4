/-
  THE AUTOMATON's MEMORY: what a round of jsonNumberModel leaves; the steps, way by way.
-/
import Derived.Test.Qxb6619243aJsonPlain
namespace Go.Proofs.Qxb6619243a
open Go.RowKit

def bytesOK (xs : List Int) : Prop := ∀ x ∈ xs, 0 ≤ x ∧ x ≤ 255
theorem bytesOK_getD {xs : List Int} (h : bytesOK xs) (i : Nat) : 0 ≤ xs.getD i 0 ∧ xs.getD i 0 ≤ 255 := by
  by_cases hi : i < xs.length
  · have := h xs[i] (List.getElem_mem hi)
    simpa [hi] using this
  · rw [List.getD_eq_getElem?_getD, List.getElem?_eq_none (by omega)]; simp
theorem bytesOK_snoc {xs : List Int} {c : Int} (h : bytesOK xs) (hc : 0 ≤ c ∧ c ≤ 255) : bytesOK (xs ++ [c]) := by
  intro x hx
  rcases List.mem_append.1 hx with hx | hx
  · exact h x hx
  · simp at hx; subst hx; exact hc
theorem one_u8 (c : Int) : ∀ u ∈ [Value.int .u8 c], u.oneCell' = true := by
  intro u hu
  simp at hu
  subst hu
  rfl

/-- an owned row, read -/
theorem own_row {w : World} {B : Nat} {v : Value} {xs : List Int} (h : w.ownsRow B 5 1 v xs.length (xs.map (Value.int .u8))) (hb : xs.length ≤ 2097152) (hy : bytesOK xs) : ∃ a c, v = .slice a xs.length c ∧ Row w a xs.length c xs := by
  have h0 := h
  rcases h.2 with ⟨rfl, hx⟩ | ⟨g, cap, cur, rfl, _, _, hnc, hcm, _⟩
  · have : xs = [] := by simpa using hx
    subst this
    exact ⟨none, 0, rfl, Row.nil w⟩
  · refine ⟨_, cap, rfl, rfl, hnc, hcm, hb, fun _ => ⟨g, 0, rfl, fun i hi => ?_⟩, bytesOK_getD hy⟩
    rw [Nat.zero_add, h0.cellAt i (by omega)]
    simp [hi]

def Inv (w : World) (s : Nat) (m ex : List Int) (vM vE : Value) (wr : World) : Prop :=
  Below w.heap.size w wr ∧ bytesOK m ∧ bytesOK ex ∧
  ((s ≤ 5 ∧ ex = [] ∧ vE = .slice none 0 0 ∧ wr.ownsRow w.heap.size 5 1 vM m.length (m.map (Value.int .u8))) ∨
   (6 ≤ s ∧ ∃ w6 : World, w.heap.size ≤ w6.heap.size ∧ Below w6.heap.size w6 wr ∧ (∃ aM cM, vM = .slice aM m.length cM ∧ Row w6 aM m.length cM m) ∧ wr.ownsRow w6.heap.size 5 1 vE ex.length (ex.map (Value.int .u8))))

theorem Inv.low {w : World} {s : Nat} {m ex : List Int} {vM vE : Value} {wr : World} (h : Inv w s m ex vM vE wr) (hs : s ≤ 5) : ex = [] ∧ vE = .slice none 0 0 ∧ wr.ownsRow w.heap.size 5 1 vM m.length (m.map (Value.int .u8)) := by
  rcases h.2.2.2 with ⟨_, h⟩ | ⟨h, _⟩
  · exact h
  · omega
theorem Inv.high {w : World} {s : Nat} {m ex : List Int} {vM vE : Value} {wr : World} (h : Inv w s m ex vM vE wr) (hs : 6 ≤ s) :
    ∃ w6 : World, w.heap.size ≤ w6.heap.size ∧ Below w6.heap.size w6 wr ∧ (∃ aM cM, vM = .slice aM m.length cM ∧ Row w6 aM m.length cM m) ∧ wr.ownsRow w6.heap.size 5 1 vE ex.length (ex.map (Value.int .u8)) := by
  rcases h.2.2.2 with ⟨h, _⟩ | ⟨_, h⟩
  · omega
  · exact h
theorem Inv.start (w : World) : Inv w 0 [] [] (.slice none 0 0) (.slice none 0 0) w :=
  ⟨Below.refl _ _, fun x hx => by simp at hx, fun x hx => by simp at hx, .inl ⟨by omega, rfl, rfl, World.ownsRow_nil _ _ _ _⟩⟩
/-- a step that appends nothing -/
theorem Inv.go {w : World} {s s' : Nat} {m ex : List Int} {vM vE : Value} {wr : World} (h : Inv w s m ex vM vE wr) (hs : s ≤ 5) (hs' : s' ≤ 5) : Inv w s' m ex vM vE wr :=
  ⟨h.1, h.2.1, h.2.2.1, .inl ⟨hs', h.low hs⟩⟩
theorem Inv.to6 {w : World} {s : Nat} {m ex : List Int} {vM vE : Value} {wr : World} (h : Inv w s m ex vM vE wr) (hs : s ≤ 5) (hm : m.length ≤ 2097152) : Inv w 6 m ex vM vE wr := by
  obtain ⟨rfl, rfl, h3⟩ := h.low hs
  obtain ⟨a, c, rfl, hr⟩ := own_row h3 hm h.2.1
  exact ⟨h.1, h.2.1, h.2.2.1, .inr ⟨by omega, wr, h.1.size, Below.refl _ _, ⟨a, c, rfl, hr⟩, World.ownsRow_nil _ _ _ _⟩⟩
/-- a digit of the mantissa -/
theorem Inv.mant {w : World} {s s' : Nat} {m ex : List Int} {vM vE v' : Value} {wr w1 : World} {c : Int} {o : Obj} (h : Inv w s m ex vM vE wr) (hs : s ≤ 5) (hs' : s' ≤ 5) (hc : 0 ≤ c ∧ c ≤ 255)
    (hown : w1.ownsRow w.heap.size 5 1 v' (m.length + 1) (m.map (Value.int .u8) ++ [Value.int .u8 c])) (hg : (wr.alloc o).grownBy w1 vM.ownBlock) : Inv w s' (m ++ [c]) ex v' vE w1 := by
  obtain ⟨rfl, rfl, h3⟩ := h.low hs
  have hsz := h.1.size
  refine ⟨(h.1.alloc hsz o).grown hg (by simp; omega) (fun k hk => (h3.lt k hk).1), bytesOK_snoc h.2.1 hc, h.2.2.1, .inl ⟨hs', rfl, rfl, ?_⟩⟩
  simpa using hown
/-- a byte of the exponent -/
theorem Inv.expo {w w6 : World} {s s' : Nat} {m ex : List Int} {vM vE v' : Value} {wr w1 : World} {c : Int} {o : Obj} (h : Inv w s m ex vM vE wr) (hs' : 6 ≤ s') (hc : 0 ≤ c ∧ c ≤ 255)
    (h6 : w.heap.size ≤ w6.heap.size) (hb : Below w6.heap.size w6 wr) (hM : ∃ aM cM, vM = .slice aM m.length cM ∧ Row w6 aM m.length cM m) (hE : wr.ownsRow w6.heap.size 5 1 vE ex.length (ex.map (Value.int .u8)))
    (hown : w1.ownsRow w6.heap.size 5 1 v' (ex.length + 1) (ex.map (Value.int .u8) ++ [Value.int .u8 c])) (hg : (wr.alloc o).grownBy w1 vE.ownBlock) : Inv w s' m (ex ++ [c]) vM v' w1 := by
  have hsz := h.1.size
  have hsz6 := hb.size
  refine ⟨(h.1.alloc hsz o).grown hg (by simp; omega) (fun k hk => by have := (hE.lt k hk).1; omega), h.2.1, bytesOK_snoc h.2.2.1 hc, .inr ⟨hs', w6, h6, ?_, hM, ?_⟩⟩
  · exact (hb.alloc hsz6 o).grown hg (by simp; omega) (fun k hk => (hE.lt k hk).1)
  · simpa using hown
/-- what is handed back -/
theorem Inv.out {w : World} {s : Nat} {m ex : List Int} {vM vE : Value} {wr : World} (h : Inv w s m ex vM vE wr) (hm : m.length ≤ 2097152) (he : ex.length ≤ 2097152) :
    (∃ a c, vM = .slice a m.length c ∧ Row wr a m.length c m) ∧ (∃ a c, vE = .slice a ex.length c ∧ Row wr a ex.length c ex) := by
  rcases h.2.2.2 with ⟨_, rfl, rfl, h3⟩ | ⟨_, w6, h6, hb, ⟨a, c, hv, hr⟩, hE⟩
  · exact ⟨own_row h3 hm h.2.1, ⟨none, 0, rfl, Row.nil _⟩⟩
  · exact ⟨⟨a, c, hv, hr.below hb (Nat.le_refl _)⟩, own_row hE he h.2.2.1⟩

/-! ### the steps, way by way, in the walk's own forms -/
theorem notdig (c : Int) (h : ¬ (48 ≤ c ∧ c ≤ 57)) : decide ((48 : Int) ≤ c) = false ∨ (48 ≤ c ∧ decide (c ≤ (57 : Int)) = false) := by simp; omega
theorem st0 (g : Bool) (m : List Int) (il : Nat) (ex : List Int) (c : Int) :
    (c = 45 ∧ stepJ 0 g m il ex c = some (1, true, m, il, ex)) ∨
    (c = 48 ∧ stepJ 0 g m il ex c = some (2, g, m ++ [c], il + 1, ex)) ∨
    ((c == 45) = false ∧ (c == 48) = false ∧ 49 ≤ c ∧ c ≤ 57 ∧ stepJ 0 g m il ex c = some (3, g, m ++ [c], il + 1, ex)) ∨
    ((c == 45) = false ∧ (c == 48) = false ∧ decide ((49 : Int) ≤ c) = false ∧ stepJ 0 g m il ex c = none) ∨
    ((c == 45) = false ∧ (c == 48) = false ∧ 49 ≤ c ∧ decide (c ≤ (57 : Int)) = false ∧ stepJ 0 g m il ex c = none) := by
  by_cases h1 : c = 45
  · left; exact ⟨h1, by simp [stepJ, h1]⟩
  · right
    by_cases h2 : c = 48
    · left; exact ⟨h2, by simp [stepJ, h2]⟩
    · right
      by_cases h3 : 49 ≤ c ∧ c ≤ 57
      · left; exact ⟨by simpa using h1, by simpa using h2, h3.1, h3.2, by simp [stepJ, h1, h2, h3]⟩
      · right
        have e : stepJ 0 g m il ex c = none := by simp [stepJ, h1, h2, h3]
        by_cases h4 : 49 ≤ c
        · right; exact ⟨by simpa using h1, by simpa using h2, h4, by simp; omega, e⟩
        · left; exact ⟨by simpa using h1, by simpa using h2, by simpa using h4, e⟩
theorem st1 (g : Bool) (m : List Int) (il : Nat) (ex : List Int) (c : Int) :
    (c = 48 ∧ stepJ 1 g m il ex c = some (2, g, m ++ [c], il + 1, ex)) ∨
    ((c == 48) = false ∧ 49 ≤ c ∧ c ≤ 57 ∧ stepJ 1 g m il ex c = some (3, g, m ++ [c], il + 1, ex)) ∨
    ((c == 48) = false ∧ decide ((49 : Int) ≤ c) = false ∧ stepJ 1 g m il ex c = none) ∨
    ((c == 48) = false ∧ 49 ≤ c ∧ decide (c ≤ (57 : Int)) = false ∧ stepJ 1 g m il ex c = none) := by
  by_cases h2 : c = 48
  · left; exact ⟨h2, by simp [stepJ, h2]⟩
  · right
    by_cases h3 : 49 ≤ c ∧ c ≤ 57
    · left; exact ⟨by simpa using h2, h3.1, h3.2, by simp [stepJ, h2, h3]⟩
    · right
      have e : stepJ 1 g m il ex c = none := by simp [stepJ, h2, h3]
      by_cases h4 : 49 ≤ c
      · right; exact ⟨by simpa using h2, h4, by simp; omega, e⟩
      · left; exact ⟨by simpa using h2, by simpa using h4, e⟩
theorem st2 (g : Bool) (m : List Int) (il : Nat) (ex : List Int) (c : Int) :
    (c = 46 ∧ stepJ 2 g m il ex c = some (4, g, m, il, ex)) ∨
    (c = 101 ∧ stepJ 2 g m il ex c = some (6, g, m, il, ex)) ∨
    (c = 69 ∧ stepJ 2 g m il ex c = some (6, g, m, il, ex)) ∨
    ((c == 46) = false ∧ (c == 101) = false ∧ (c == 69) = false ∧ stepJ 2 g m il ex c = none) := by
  by_cases h1 : c = 46
  · left; exact ⟨h1, by simp [stepJ, h1]⟩
  · right
    by_cases h2 : c = 101
    · left; exact ⟨h2, by simp [stepJ, h2]⟩
    · right
      by_cases h3 : c = 69
      · left; exact ⟨h3, by simp [stepJ, h3]⟩
      · right; exact ⟨by simpa using h1, by simpa using h2, by simpa using h3, by simp [stepJ, h1, h2, h3]⟩
theorem st3 (g : Bool) (m : List Int) (il : Nat) (ex : List Int) (c : Int) :
    (48 ≤ c ∧ c ≤ 57 ∧ stepJ 3 g m il ex c = some (3, g, m ++ [c], il + 1, ex)) ∨
    (c = 46 ∧ stepJ 3 g m il ex c = some (4, g, m, il, ex)) ∨
    (c = 101 ∧ stepJ 3 g m il ex c = some (6, g, m, il, ex)) ∨
    (c = 69 ∧ stepJ 3 g m il ex c = some (6, g, m, il, ex)) ∨
    (decide ((48 : Int) ≤ c) = false ∧ (c == 46) = false ∧ (c == 101) = false ∧ (c == 69) = false ∧ stepJ 3 g m il ex c = none) ∨
    (48 ≤ c ∧ decide (c ≤ (57 : Int)) = false ∧ (c == 46) = false ∧ (c == 101) = false ∧ (c == 69) = false ∧ stepJ 3 g m il ex c = none) := by
  by_cases h0 : 48 ≤ c ∧ c ≤ 57
  · left; exact ⟨h0.1, h0.2, by simp [stepJ, h0]⟩
  · right
    by_cases h1 : c = 46
    · left; exact ⟨h1, by simp [stepJ, h1]⟩
    · right
      by_cases h2 : c = 101
      · left; exact ⟨h2, by simp [stepJ, h2]⟩
      · right
        by_cases h3 : c = 69
        · left; exact ⟨h3, by simp [stepJ, h3]⟩
        · right
          have e : stepJ 3 g m il ex c = none := by simp [stepJ, h0, h1, h2, h3]
          rcases notdig c h0 with h | ⟨h, h'⟩
          · left; exact ⟨h, by simpa using h1, by simpa using h2, by simpa using h3, e⟩
          · right; exact ⟨h, h', by simpa using h1, by simpa using h2, by simpa using h3, e⟩
theorem st4 (g : Bool) (m : List Int) (il : Nat) (ex : List Int) (c : Int) :
    (48 ≤ c ∧ c ≤ 57 ∧ stepJ 4 g m il ex c = some (5, g, m ++ [c], il, ex)) ∨
    (decide ((48 : Int) ≤ c) = false ∧ stepJ 4 g m il ex c = none) ∨
    (48 ≤ c ∧ decide (c ≤ (57 : Int)) = false ∧ stepJ 4 g m il ex c = none) := by
  by_cases h0 : 48 ≤ c ∧ c ≤ 57
  · left; exact ⟨h0.1, h0.2, by simp [stepJ, h0]⟩
  · right
    have e : stepJ 4 g m il ex c = none := by simp [stepJ, h0]
    rcases notdig c h0 with h | ⟨h, h'⟩
    · left; exact ⟨h, e⟩
    · right; exact ⟨h, h', e⟩
theorem st5 (g : Bool) (m : List Int) (il : Nat) (ex : List Int) (c : Int) :
    (48 ≤ c ∧ c ≤ 57 ∧ stepJ 5 g m il ex c = some (5, g, m ++ [c], il, ex)) ∨
    (c = 101 ∧ stepJ 5 g m il ex c = some (6, g, m, il, ex)) ∨
    (c = 69 ∧ stepJ 5 g m il ex c = some (6, g, m, il, ex)) ∨
    (decide ((48 : Int) ≤ c) = false ∧ (c == 101) = false ∧ (c == 69) = false ∧ stepJ 5 g m il ex c = none) ∨
    (48 ≤ c ∧ decide (c ≤ (57 : Int)) = false ∧ (c == 101) = false ∧ (c == 69) = false ∧ stepJ 5 g m il ex c = none) := by
  by_cases h0 : 48 ≤ c ∧ c ≤ 57
  · left; exact ⟨h0.1, h0.2, by simp [stepJ, h0]⟩
  · right
    by_cases h2 : c = 101
    · left; exact ⟨h2, by simp [stepJ, h2]⟩
    · right
      by_cases h3 : c = 69
      · left; exact ⟨h3, by simp [stepJ, h3]⟩
      · right
        have e : stepJ 5 g m il ex c = none := by simp [stepJ, h0, h2, h3]
        rcases notdig c h0 with h | ⟨h, h'⟩
        · left; exact ⟨h, by simpa using h2, by simpa using h3, e⟩
        · right; exact ⟨h, h', by simpa using h2, by simpa using h3, e⟩
theorem st6 (g : Bool) (m : List Int) (il : Nat) (ex : List Int) (c : Int) :
    (c = 43 ∧ stepJ 6 g m il ex c = some (7, g, m, il, ex ++ [c])) ∨
    (c = 45 ∧ stepJ 6 g m il ex c = some (7, g, m, il, ex ++ [c])) ∨
    ((c == 43) = false ∧ (c == 45) = false ∧ 48 ≤ c ∧ c ≤ 57 ∧ stepJ 6 g m il ex c = some (8, g, m, il, ex ++ [c])) ∨
    ((c == 43) = false ∧ (c == 45) = false ∧ decide ((48 : Int) ≤ c) = false ∧ stepJ 6 g m il ex c = none) ∨
    ((c == 43) = false ∧ (c == 45) = false ∧ 48 ≤ c ∧ decide (c ≤ (57 : Int)) = false ∧ stepJ 6 g m il ex c = none) := by
  by_cases h1 : c = 43
  · left; exact ⟨h1, by simp [stepJ, h1]⟩
  · right
    by_cases h2 : c = 45
    · left; exact ⟨h2, by simp [stepJ, h2]⟩
    · right
      by_cases h0 : 48 ≤ c ∧ c ≤ 57
      · left; exact ⟨by simpa using h1, by simpa using h2, h0.1, h0.2, by simp [stepJ, h0, h1, h2]⟩
      · right
        have e : stepJ 6 g m il ex c = none := by simp [stepJ, h0, h1, h2]
        rcases notdig c h0 with h | ⟨h, h'⟩
        · left; exact ⟨by simpa using h1, by simpa using h2, h, e⟩
        · right; exact ⟨by simpa using h1, by simpa using h2, h, h', e⟩
theorem st78 (s : Nat) (hs : s = 7 ∨ s = 8) (g : Bool) (m : List Int) (il : Nat) (ex : List Int) (c : Int) :
    (48 ≤ c ∧ c ≤ 57 ∧ stepJ s g m il ex c = some (8, g, m, il, ex ++ [c])) ∨
    (decide ((48 : Int) ≤ c) = false ∧ stepJ s g m il ex c = none) ∨
    (48 ≤ c ∧ decide (c ≤ (57 : Int)) = false ∧ stepJ s g m il ex c = none) := by
  by_cases h0 : 48 ≤ c ∧ c ≤ 57
  · left; exact ⟨h0.1, h0.2, by rcases hs with rfl | rfl <;> simp [stepJ, h0]⟩
  · right
    have e : stepJ s g m il ex c = none := by rcases hs with rfl | rfl <;> simp [stepJ, h0]
    rcases notdig c h0 with h | ⟨h, h'⟩
    · left; exact ⟨h, e⟩
    · right; exact ⟨h, h', e⟩

end Go.Proofs.Qxb6619243a
