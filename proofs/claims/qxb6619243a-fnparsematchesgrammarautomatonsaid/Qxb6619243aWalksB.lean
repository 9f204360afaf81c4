/-
  WALKS: firstNonzero (20), lastNonzero (27), cloneBytes (12), sameBytes (29).
-/
import Derived.Test.Qxb6619243aWalksA
import Derived.Deep.QuietTactic
import Derived.BigQuiet
namespace Go.Proofs.Qxb6619243a
open Go.RowKit

/-! ### firstNonzero -/
def fnz (xs : List Int) : Int := if Qdec.lead xs = xs.length then -1 else Qdec.lead xs
def lnz (xs : List Int) : Int := (xs.length : Int) - 1 - Qdec.lead xs.reverse

set_option maxHeartbeats 400000 in
theorem firstNonzero_any (a : Option Addr) (n cap : Nat) (xs : List Int) (w : World) (hr : Row w a n cap xs) :
    Calls Try.prog 20 #[.slice a n cap] w fun e w' => e = .returned (.int .i64 (fnz xs)) ∧ w' = w := by
  have hlen := hr.len
  have hbd := hr.bd
  by_cases h0 : n = 0
  · subst h0
    have hx : xs = [] := by simpa using hlen
    subst hx
    clear hr hlen hbd
    go_enter Try.func20, Try.ntmps20
    go_wp2
    refine wp_loop_rounds 1 ?_
    rw [rounds_succ]
    go_wp2
    go_ret
    exact ⟨rfl, rfl⟩
  · obtain ⟨b, off, rfl, hc⟩ := hr.cells (by omega)
    have hby := hr.byte
    have HL : Hid (xs.length = n) := hlen
    clear hlen hr
    go_enter Try.func20, Try.ntmps20
    go_wp2
    go_loop [3] (fun i => ∃ k : Nat, k ≤ n ∧ i = .int .i64 k ∧ Hid (∀ i, i < k → xs.getD i 0 = 48)) (fun i => n - (intOf i).toNat)
    case atStart => exact ⟨0, Nat.zero_le _, rfl, fun i hi => by omega⟩
    case round =>
      obtain ⟨k, hk, rfl, hall⟩ := hrel
      by_cases hlt : k < n
      · have hck := hc k hlt
        have hbk := hby k
        clear hc hby
        generalize hg : xs.getD k 0 = c at hck hbk
        have HG : Hid (xs.getD k 0 = c) := hg
        clear hg
        by_cases hd : c = 48
        · subst hd
          go_wp2
          go_round
          case rel =>
            refine ⟨k + 1, by omega, by go_num, fun i hi => ?_⟩
            by_cases e : i = k
            · subst e; exact HG.out
            · exact hall.out i (by omega)
          case measure => simp [intOf]; omega
        · have hfin : Hid (fnz xs = (k : Int)) := by
            have hl : Qdec.lead xs = k := Qdec.lead_eq xs k hall.out (by rw [HL.out]; exact hk) (fun _ => by rw [HG.out]; exact hd)
            have := HL.out
            unfold Hid fnz
            rw [hl, if_neg (by omega)]
          have hne : (c != 48) = true := by simpa using hd
          clear hd
          go_wp2
          go_ret
          exact ⟨ret_int hfin.out.symm, rfl⟩
      · clear hc hby
        have hfin : Hid (fnz xs = -1) := by
          have hl : Qdec.lead xs = k := Qdec.lead_eq xs k hall.out (by rw [HL.out]; exact hk) (fun h => by rw [HL.out] at h; omega)
          have := HL.out
          unfold Hid fnz
          rw [hl, if_pos (by omega)]
        go_wp2
        go_ret
        exact ⟨ret_int hfin.out.symm, rfl⟩

/-! ### lastNonzero -/
theorem lead_rev (xs : List Int) (n k : Nat) (hn : xs.length = n) (hk : k ≤ n) (h1 : ∀ i, k ≤ i → i < n → xs.getD i 0 = 48) (h2 : 0 < k → xs.getD (k - 1) 0 ≠ 48) : Qdec.lead xs.reverse = n - k := by
  refine Qdec.lead_eq _ _ (fun i hi => ?_) (by simp; omega) (fun h => ?_)
  · have := h1 (n - 1 - i) (by omega) (by omega)
    rw [List.getD_eq_getElem?_getD, List.getElem?_reverse (by omega), hn]
    simpa using this
  · simp at h
    have := h2 (by omega)
    have e : n - 1 - (n - k) = k - 1 := by omega
    rw [List.getD_eq_getElem?_getD, List.getElem?_reverse (by omega), hn, e]
    simpa using this

set_option maxHeartbeats 400000 in
theorem lastNonzero_any (a : Option Addr) (n cap : Nat) (xs : List Int) (w : World) (hr : Row w a n cap xs) :
    Calls Try.prog 27 #[.slice a n cap] w fun e w' => e = .returned (.int .i64 (lnz xs)) ∧ w' = w := by
  have hlen := hr.len
  have hbd := hr.bd
  by_cases h0 : n = 0
  · subst h0
    have hx : xs = [] := by simpa using hlen
    subst hx
    clear hr hlen hbd
    go_enter Try.func27, Try.ntmps27
    go_wp2
    refine wp_loop_rounds 1 ?_
    rw [rounds_succ]
    go_wp2
    go_ret
    exact ⟨rfl, rfl⟩
  · obtain ⟨b, off, rfl, hc⟩ := hr.cells (by omega)
    have hby := hr.byte
    have HL : Hid (xs.length = n) := hlen
    clear hlen hr
    go_enter Try.func27, Try.ntmps27
    go_wp2
    go_loop [3] (fun i => ∃ k : Nat, k ≤ n ∧ i = .int .i64 ((k : Int) - 1) ∧ Hid (∀ i, k ≤ i → i < n → xs.getD i 0 = 48)) (fun i => (intOf i + 1).toNat)
    case atStart => exact ⟨n, Nat.le_refl _, rfl, fun i hi => by omega⟩
    case round =>
      obtain ⟨k, hk, rfl, hall⟩ := hrel
      by_cases hlt : 0 < k
      · obtain ⟨j, rfl⟩ : ∃ j, k = j + 1 := ⟨k - 1, by omega⟩
        have ej : (((j + 1 : Nat) : Int) - 1) = (j : Int) := by omega
        rw [ej]
        clear ej
        have hck := hc j (by omega)
        have hbk := hby j
        clear hc hby
        generalize hg : xs.getD j 0 = c at hck hbk
        have HG : Hid (xs.getD j 0 = c) := hg
        clear hg
        by_cases hd : c = 48
        · subst hd
          go_wp2
          go_round
          case rel =>
            refine ⟨j, by omega, by go_num, fun i hi1 hi => ?_⟩
            by_cases e : i = j
            · subst e; exact HG.out
            · exact hall.out i (by omega) hi
          case measure => simp [intOf]
        · have hfin : Hid (lnz xs = (j : Int)) := by
            have hl := lead_rev xs n (j + 1) HL.out hk hall.out (fun _ => by simpa using (by rw [HG.out]; exact hd : xs.getD j 0 ≠ 48))
            have := HL.out
            unfold Hid lnz
            rw [hl]; omega
          have hne : (c != 48) = true := by simpa using hd
          clear hd
          go_wp2
          go_ret
          exact ⟨ret_int hfin.out.symm, rfl⟩
      · clear hc hby
        have hk0 : k = 0 := by omega
        subst hk0
        have hfin : Hid (lnz xs = -1) := by
          have hl := lead_rev xs n 0 HL.out hk hall.out (fun h => by omega)
          have := HL.out
          unfold Hid lnz
          rw [hl]; omega
        go_wp2
        go_ret
        exact ⟨ret_int hfin.out.symm, rfl⟩

/-! ### cloneBytes -/
theorem info5 : (Try.prog.info? 5).map (fun i => (i.zero, i.size, i.bytes)) = some (some (.int .u8 0), 1, 1) := by kernel_rfl

/-- an owned row of n one-cell elements, the first k of which are the bytes xs -/
structure Filled (w : World) (B g n : Nat) (xs : List Int) (k : Nat) : Prop where
  own : ∃ L : List Value, w.ownsRow B 5 1 (.slice (some ⟨g, 0, none⟩) n n) n L ∧ ∀ i, i < k → L[i]? = some (.int .u8 (xs.getD i 0))

theorem Filled.cell {w : World} {B g n k : Nat} {xs : List Int} (h : Filled w B g n xs k) (j : Nat) (hj : j < n) : ∃ v, w.cell? ⟨g, j, none⟩ = some v := by
  obtain ⟨L, h1, _⟩ := h.own
  rw [h1.cellAt j (by omega)]
  have := h1.1
  exact ⟨L[j]'(by omega), by simp⟩
theorem Filled.free {w : World} {B g n k : Nat} {xs : List Int} (h : Filled w B g n xs k) (j : Nat) : w.frozen? ⟨g, j, none⟩ = false := by
  obtain ⟨L, h1, _⟩ := h.own
  exact h1.frozenAt j
theorem Filled.set {w : World} {B g n k : Nat} {xs : List Int} (h : Filled w B g n xs k) (hk : k < n) : Filled (w.setCell ⟨g, k, none⟩ (.int .u8 (xs.getD k 0))) B g n xs (k + 1) := by
  obtain ⟨L, h1, h2⟩ := h.own
  refine ⟨L.set k (.int .u8 (xs.getD k 0)), (h1.stored k _).1, fun i hi => ?_⟩
  have := h1.1
  rw [List.getElem?_set]
  by_cases e : k = i
  · subst e; rw [if_pos rfl, if_pos (by omega)]
  · rw [if_neg e]; exact h2 i (by omega)
theorem Filled.lt {w : World} {B g n k : Nat} {xs : List Int} (h : Filled w B g n xs k) : B ≤ g ∧ g < w.heap.size := by
  obtain ⟨L, h1, _⟩ := h.own
  exact h1.lt g rfl
theorem Filled.row {w : World} {B g n : Nat} {xs : List Int} (h : Filled w B g n xs n) (hn : xs.length = n) (hbd : n ≤ 2097152) (hby : ∀ i, 0 ≤ xs.getD i 0 ∧ xs.getD i 0 ≤ 255) : Row w (some ⟨g, 0, none⟩) n n xs := by
  obtain ⟨L, h1, h2⟩ := h.own
  refine ⟨hn, Nat.le_refl _, by unfold maxLen; omega, hbd, fun _ => ⟨g, 0, rfl, fun i hi => ?_⟩, hby⟩
  rw [Nat.zero_add, h1.cellAt i (by omega), h2 i hi]

set_option maxHeartbeats 400000 in
theorem cloneBytes_any (a : Option Addr) (n cap : Nat) (xs : List Int) (w : World) (hr : Row w a n cap xs) :
    Calls Try.prog 12 #[.slice a n cap] w fun e w' => ∃ a' c', e = .returned (.slice a' n c') ∧ a'.isNone = a.isNone ∧ Row w' a' n c' xs ∧ Below w.heap.size w w' := by
  have hnil := fun (w : World) (a : Option Addr) (n c : Nat) => Lib.run_eql_slice_nil (P := Try.prog) w 22 5 a n c 0 0 Try.underlying22
  cases a with
  | none =>
    have hn : n = 0 := by
      by_cases h : 0 < n
      · obtain ⟨_, _, h, _⟩ := hr.cells h; simp at h
      · omega
    subst hn
    have hx : xs = [] := by simpa using hr.len
    subst hx
    clear hr
    go_enter Try.func12, Try.ntmps12
    go_wp2
    go_ret
    exact ⟨none, 0, rfl, rfl, Row.nil _, Below.refl _ _⟩
  | some x =>
    have hbd := hr.bd
    have HR : Hid (Row w (some x) n cap xs) := hr
    obtain ⟨i0, hi, hz0, hz1, hz2⟩ := info_parts info5
    clear hr
    go_enter Try.func12, Try.ntmps12
    go_wp2_with (at_make; refine wpList_make_full _ rfl _ _ 22 rfl w.heap.size 5 i0 (.int .u8 0) 1 Try.underlying22 hi hz0 hz1 _ _ _ _ n rfl rfl rfl rfl ?c1 ?c2 ?c3 ?_)
    case c1 => rw [hz2]; omega
    case c2 => unfold maxLen; omega
    case c3 => exact Nat.le_refl _
    intro w1 hown hgrow
    have hF : Filled w1 w.heap.size w.heap.size n xs 0 := ⟨_, hown, fun i hi => by omega⟩
    have hB : Below w.heap.size w w1 := (Below.refl _ _).grown hgrow (Nat.le_refl _) (fun k hk => by simp at hk)
    clear hown hgrow hi hz0 hz1 hz2
    go_wp2
    go_loopw [4] (fun i wr => ∃ k : Nat, k ≤ n ∧ i = .int .i64 k ∧ Filled wr w.heap.size w.heap.size n xs k ∧ Below w.heap.size w wr) (fun i _ => n - (intOf i).toNat)
    case atStart => exact ⟨0, Nat.zero_le _, rfl, hF, hB⟩
    case round =>
      obtain ⟨k, hk, rfl, hFr, hBr⟩ := hrel
      clear hF hB
      by_cases hlt : k < n
      · obtain ⟨b, off, hx, hc⟩ := HR.out.cells (by omega)
        simp only [Option.some.injEq] at hx
        subst hx
        have hck := hc k hlt
        have hblt := cell_lt hck
        rw [← hBr.cell hblt] at hck
        clear hc hblt
        obtain ⟨v0, hv0⟩ := hFr.cell k hlt
        have hfz := hFr.free k
        have R := hFr.set hlt
        have RB := hBr.setCell (p := ⟨w.heap.size, k, none⟩) (Nat.le_refl _) (.int .u8 (xs.getD k 0))
        generalize xs.getD k 0 = c at hck R RB
        clear hFr hBr
        go_wp2
        go_roundw
        case rel => exact ⟨k + 1, by omega, by go_num, R, RB⟩
        case measure => simp [intOf]; omega
      · have hkn : k = n := by omega
        subst hkn
        go_wp2
        go_ret
        exact ⟨_, _, rfl, rfl, hFr.row HR.out.len hbd HR.out.byte, hBr⟩

/-! ### sameBytes -/
set_option maxHeartbeats 400000 in
theorem sameBytes_any (a : Option Addr) (n cap : Nat) (xs : List Int) (a' : Option Addr) (n' cap' : Nat) (ys : List Int) (w : World) (hr : Row w a n cap xs) (hr' : Row w a' n' cap' ys) :
    Calls Try.prog 29 #[.slice a n cap, .slice a' n' cap'] w fun e w' => e = .returned (.bool (decide (xs = ys))) ∧ Below w.heap.size w w' := by
  have hbd := hr.bd
  by_cases hnn : n = n'
  · subst hnn
    have hne : ((n : Int) != (n : Int)) = false := by simp
    by_cases h0 : n = 0
    · subst h0
      have hx : xs = [] := by simpa using hr.len
      have hy : ys = [] := by simpa using hr'.len
      subst hx
      subst hy
      clear hr hr' hbd
      go_enter Try.func29, Try.ntmps29
      go_wp2
      refine wp_loop_rounds 1 ?_
      rw [rounds_succ]
      go_wp2
      go_ret
      exact ⟨rfl, Below.refl _ _⟩
    · obtain ⟨b, off, rfl, hc⟩ := hr.cells (by omega)
      obtain ⟨b', off', rfl, hc'⟩ := hr'.cells (by omega)
      have HL : Hid (xs.length = n) := hr.len
      have HL' : Hid (ys.length = n) := hr'.len
      clear hr hr'
      go_enter Try.func29, Try.ntmps29
      go_wp2
      go_loopw [5] (fun i wr => ∃ k : Nat, k ≤ n ∧ i = .int .i64 k ∧ Hid (∀ i, i < k → xs.getD i 0 = ys.getD i 0) ∧ Below w.heap.size w wr) (fun i _ => n - (intOf i).toNat)
      case atStart => exact ⟨0, Nat.zero_le _, rfl, fun i hi => by omega, Below.refl _ _⟩
      case round =>
        obtain ⟨k, hk, rfl, hall, hBr⟩ := hrel
        by_cases hlt : k < n
        · have hck := hc k hlt
          have hck' := hc' k hlt
          have hblt := cell_lt hck
          have hblt' := cell_lt hck'
          rw [← hBr.cell hblt] at hck
          rw [← hBr.cell hblt'] at hck'
          clear hc hc' hblt hblt'
          have hli : (k : Int) < (n : Int) := by omega
          generalize hg : xs.getD k 0 = c at hck
          generalize hg' : ys.getD k 0 = c' at hck'
          have HG : Hid (xs.getD k 0 = c) := hg
          have HG' : Hid (ys.getD k 0 = c') := hg'
          clear hg hg'
          by_cases hd : c = c'
          · subst hd
            have hnc : (c != c) = false := by simp
            go_wp2
            go_quiet (fail)
            go_wp2
            go_roundw
            case rel =>
              refine ⟨k + 1, by omega, by go_num, fun i hi => ?_, below_drewN hBr _⟩
              by_cases e : i = k
              · subst e; rw [HG.out, HG'.out]
              · exact hall.out i (by omega)
            case measure => simp [intOf]; omega
          · have hnc : (c != c') = true := by simpa using hd
            have hfin : Hid (decide (xs = ys) = false) := by
              rw [Hid, decide_eq_false_iff_not]
              intro e
              apply hd
              rw [← HG.out, ← HG'.out, e]
            clear hd
            go_wp2
            go_quiet (fail)
            go_wp2
            go_ret
            exact ⟨ret_bool hfin.out.symm, below_drewN hBr _⟩
        · clear hc hc'
          have hfin : Hid (decide (xs = ys) = true) := by
            rw [Hid, decide_eq_true_iff]
            have h1 := HL.out
            have h2 := HL'.out
            apply List.ext_getElem (by omega)
            intro i hi1 hi2
            have := hall.out i (by omega)
            simpa [hi1, hi2] using this
          go_wp2
          go_ret
          exact ⟨ret_bool hfin.out.symm, hBr⟩
  · have hne : ((n : Int) != (n' : Int)) = true := by simp; omega
    have hfin : Hid (decide (xs = ys) = false) := by
      rw [Hid, decide_eq_false_iff_not]
      intro e
      apply hnn
      rw [← hr.len, ← hr'.len, e]
    clear hnn hr hr'
    go_enter Try.func29, Try.ntmps29
    go_wp2
    go_ret
    exact ⟨ret_bool hfin.out.symm, Below.refl _ _⟩

end Go.Proofs.Qxb6619243a
