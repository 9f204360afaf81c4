/-
  digitsEnd (36), Parse (23): the plain function and the walks.
-/
import Derived.Test.Qxb6619243aSig2
import Derived.Laws.ResultCell
namespace Go.Proofs.Qxb6619243a
open Go.RowKit

/-- how many digits lead -/
def dl : List Int → Nat
  | [] => 0
  | c :: r => if Qdec.isDig c then dl r + 1 else 0
def dEnd (xs : List Int) (i : Nat) : Nat := i + dl (xs.drop i)
def seg (xs : List Int) (l r : Nat) : List Int := (xs.drop l).take (r - l)

theorem dl_le (xs : List Int) : dl xs ≤ xs.length := by
  induction xs with
  | nil => simp [dl]
  | cons c r ih => simp only [dl]; split <;> simp <;> omega
theorem dl_eq (xs : List Int) (k : Nat) (h1 : ∀ i, i < k → Qdec.isDig (xs.getD i 0) = true) (hk : k ≤ xs.length) (h2 : k < xs.length → Qdec.isDig (xs.getD k 0) = false) : dl xs = k := by
  induction xs generalizing k with
  | nil => simp at hk; subst hk; rfl
  | cons c r ih =>
    cases k with
    | zero =>
      have := h2 (by simp)
      simp at this
      simp [dl, this]
    | succ k =>
      have hc := h1 0 (by omega)
      simp at hc
      simp only [dl, hc, if_true]
      rw [ih k (fun i hi => by have := h1 (i + 1) (by omega); simpa using this) (by simp at hk; omega) (fun h => by have := h2 (by simp; omega); simpa using this)]
theorem dEnd_eq (xs : List Int) (i k : Nat) (hik : i ≤ k) (hk : k ≤ xs.length) (h1 : ∀ j, i ≤ j → j < k → Qdec.isDig (xs.getD j 0) = true) (h2 : k < xs.length → Qdec.isDig (xs.getD k 0) = false) : dEnd xs i = k := by
  unfold dEnd
  rw [dl_eq (xs.drop i) (k - i)]
  · omega
  · intro j hj
    have := h1 (i + j) (by omega) (by omega)
    simpa using this
  · simp; omega
  · intro h
    have e : i + (k - i) = k := by omega
    have := h2 (by simp at h; omega)
    simpa [e] using this
theorem dEnd_bd (xs : List Int) (i : Nat) (h : i ≤ xs.length) : i ≤ dEnd xs i ∧ dEnd xs i ≤ xs.length := by
  unfold dEnd
  have := dl_le (xs.drop i)
  simp at this
  omega

set_option maxHeartbeats 1000000 in
theorem digitsEnd_any (a : Option Addr) (n cap : Nat) (xs : List Int) (i : Nat) (w : World) (hr : Row w a n cap xs) (hi : i ≤ n) :
    Calls Try.prog 36 #[.slice a n cap, .int .i64 i] w fun e w' => e = .returned (.int .i64 (dEnd xs i)) ∧ w' = w := by
  have hlen := hr.len
  have hbd := hr.bd
  by_cases h0 : n = 0
  · subst h0
    have hx : xs = [] := by simpa using hlen
    subst hx
    obtain rfl : i = 0 := by omega
    clear hr hlen hbd hi
    have hd : decide ((0 : Int) < ((0 : Nat) : Int)) = false := by simp
    go_enter Try.func36, Try.ntmps36
    go_wp2
    refine wp_loop_rounds 1 ?_
    rw [rounds_succ]
    go_wp2
    go_ret
    exact ⟨rfl, rfl⟩
  · obtain ⟨b, off, rfl, hc⟩ := hr.cells (by omega)
    have hby := hr.byte
    have HL : Hid (xs.length = n) := hlen
    clear hlen hr
    go_enter Try.func36, Try.ntmps36
    go_wp2
    go_loop [1] (fun t => ∃ k : Nat, Hid (i ≤ k) ∧ k ≤ n ∧ t = .int .i64 k ∧ Hid (∀ j, i ≤ j → j < k → Qdec.isDig (xs.getD j 0) = true)) (fun t => n - (intOf t).toNat)
    case atStart => exact ⟨i, Nat.le_refl _, hi, rfl, fun j h1 h2 => by omega⟩
    case round =>
      obtain ⟨k, HK, hk, rfl, hall⟩ := hrel
      by_cases hlt : k < n
      · have hck := hc k hlt
        have hbk := hby k
        clear hc hby
        have hli : (k : Int) < (n : Int) := by omega
        generalize hg : xs.getD k 0 = c at hck hbk
        have HG : Hid (xs.getD k 0 = c) := hg
        clear hg
        by_cases hd : 48 ≤ c ∧ c ≤ 57
        · obtain ⟨hd1, hd2⟩ := hd
          go_wp2
          go_round
          case rel =>
            refine ⟨k + 1, by have := HK.out; unfold Hid; omega, by omega, by go_num, fun j hj1 hj => ?_⟩
            by_cases e : j = k
            · subst e; rw [HG.out]; exact Qdec.isDig_iff.2 ⟨hd1, hd2⟩
            · exact hall.out j hj1 (by omega)
          case measure => simp [intOf]; omega
        · have hfin : Hid (dEnd xs i = k) := dEnd_eq xs i k HK.out (by rw [HL.out]; exact hk) hall.out (fun _ => by rw [HG.out]; exact Qdec.isDig_not.2 hd)
          by_cases hd1 : 48 ≤ c
          · have hd2 : ¬ c ≤ 57 := by omega
            clear hd
            go_wp2
            go_ret
            exact ⟨ret_int (by rw [hfin.out]), rfl⟩
          · have hd2 : decide ((48 : Int) ≤ c) = false := by simpa using hd1
            clear hd hd1
            go_wp2
            go_ret
            exact ⟨ret_int (by rw [hfin.out]), rfl⟩
      · clear hc hby
        have hfin : Hid (dEnd xs i = k) := dEnd_eq xs i k HK.out (by rw [HL.out]; exact hk) hall.out (fun h => by rw [HL.out] at h; omega)
        have hd : decide ((k : Int) < (n : Int)) = false := by simp; omega
        go_wp2
        go_ret
        exact ⟨ret_int (by rw [hfin.out]), rfl⟩

/-! ### Parse -/
def parseD (xs : List Int) (neg : Bool) (I F E : List Int) (i : Nat) : Option Num := if i = xs.length then some (sigOf neg I F E) else none
def expAt (xs : List Int) (i : Nat) : Nat := if xs.getD i 0 = 43 ∨ xs.getD i 0 = 45 then i + 1 else i
def parseC (xs : List Int) (neg : Bool) (I F : List Int) (i : Nat) : Option Num :=
  if xs.getD i 0 = 101 ∨ xs.getD i 0 = 69 then
    (if dEnd xs (expAt xs (i + 1)) = expAt xs (i + 1) then none else parseD xs neg I F (seg xs (i + 1) (dEnd xs (expAt xs (i + 1)))) (dEnd xs (expAt xs (i + 1))))
  else parseD xs neg I F [] i
def parseB (xs : List Int) (neg : Bool) (I : List Int) (i : Nat) : Option Num :=
  if xs.getD i 0 = 46 then (if dEnd xs (i + 1) = i + 1 then none else parseC xs neg I (seg xs (i + 1) (dEnd xs (i + 1))) (dEnd xs (i + 1)))
  else parseC xs neg I [] i
def parseA (xs : List Int) (neg : Bool) (i : Nat) : Option Num :=
  if xs.getD i 0 = 48 then parseB xs neg (seg xs i (i + 1)) (i + 1)
  else if 49 ≤ xs.getD i 0 ∧ xs.getD i 0 ≤ 57 then parseB xs neg (seg xs i (dEnd xs i)) (dEnd xs i) else none
def parse (xs : List Int) : Option Num := if xs.getD 0 0 = 45 then parseA xs true 1 else parseA xs false 0

theorem Row.seg {w : World} {b off n cap : Nat} {xs : List Int} (h : Row w (some ⟨b, off, none⟩) n cap xs) (l r : Nat) (hl : l < r) (hr : r ≤ n) : Row w (some ⟨b, off + l, none⟩) (r - l) (cap - l) (seg xs l r) := by
  have h1 := h.cut l r (by omega) hr
  have := h.le
  rw [if_neg (by omega), Option.map_some, Go.WideShapes.add_plain] at h1
  exact h1
theorem dl_dig (xs : List Int) : ∀ i, i < dl xs → Qdec.isDig (xs.getD i 0) = true := by
  induction xs with
  | nil => intro i h; simp [dl] at h
  | cons c r ih =>
    intro i h
    simp only [dl] at h
    split at h
    · next hc =>
      cases i with
      | zero => simpa using hc
      | succ i => simpa using ih i (by omega)
    · omega
theorem dl_stop (xs : List Int) (h : dl xs < xs.length) : Qdec.isDig (xs.getD (dl xs) 0) = false := by
  induction xs with
  | nil => simp [dl] at h
  | cons c r ih =>
    cases hc : Qdec.isDig c with
    | true =>
      simp only [dl, hc, if_true] at h ⊢
      simpa using ih (by simpa using h)
    | false => simp [dl, hc]
theorem dEnd_dig (xs : List Int) (i : Nat) : ∀ j, i ≤ j → j < dEnd xs i → Qdec.isDig (xs.getD j 0) = true := by
  intro j h1 h2
  have := dl_dig (xs.drop i) (j - i) (by unfold dEnd at h2; omega)
  have e : i + (j - i) = j := by omega
  simpa [e] using this
theorem dEnd_pos (xs : List Int) (i : Nat) (hi : i < xs.length) (hd : Qdec.isDig (xs.getD i 0) = true) : i < dEnd xs i := by
  unfold dEnd
  have : 0 < dl (xs.drop i) := by
    rw [List.drop_eq_getElem_cons hi]
    have e : xs.getD i 0 = xs[i] := by simp [hi]
    rw [e] at hd
    simp [dl, hd]
  omega
theorem allDig_seg (xs : List Int) (i : Nat) : Qdec.allDig (seg xs i (dEnd xs i)) = true := by
  refine allDig_of _ rfl (fun j hj => ?_)
  have hl : j < dEnd xs i - i := by unfold seg at hj; simp at hj; omega
  have := dEnd_dig xs i (i + j) (by omega) (by omega)
  unfold seg
  simpa [hl] using this
theorem isExpT_seg (xs : List Int) (s : Nat) : Qdec.isExpT (seg xs s (dEnd xs (expAt xs s))) = true := by
  unfold Qdec.isExpT
  rw [unsign_eq]
  by_cases he : dEnd xs (expAt xs s) ≤ s
  · have : seg xs s (dEnd xs (expAt xs s)) = [] := by unfold seg; rw [show dEnd xs (expAt xs s) - s = 0 by omega]; simp
    rw [this]; rfl
  · have h0 : (seg xs s (dEnd xs (expAt xs s))).getD 0 0 = xs.getD s 0 := by
      unfold seg
      rw [getD_take_lt _ _ _ (by omega)]
      simp
    unfold sgn
    rw [h0]
    by_cases hs : xs.getD s 0 = 43 ∨ xs.getD s 0 = 45
    · rw [if_pos hs]
      have e : expAt xs s = s + 1 := by unfold expAt; rw [if_pos hs]
      have := allDig_seg xs (s + 1)
      rw [e]
      have e2 : (seg xs s (dEnd xs (s + 1))).drop 1 = seg xs (s + 1) (dEnd xs (s + 1)) := by
        unfold seg
        rw [List.drop_take, List.drop_drop]
        congr 1
      rw [e2]; exact this
    · rw [if_neg hs]
      have e : expAt xs s = s := by unfold expAt; rw [if_neg hs]
      rw [e]
      simpa using allDig_seg xs s

theorem below5 {B g : Nat} {w W : World} (hb : Below B w W) (hg : B ≤ g) (v0 v1 v2 v3 v4 : Value) :
    Below B w (((((W.setCell ⟨g, 0, none⟩ v0).setCell ⟨g, 1, none⟩ v1).setCell ⟨g, 2, none⟩ v2).setCell ⟨g, 3, none⟩ v3).setCell ⟨g, 4, none⟩ v4) :=
  ((((hb.setCell (p := ⟨g, 0, none⟩) hg _).setCell (p := ⟨g, 1, none⟩) hg _).setCell (p := ⟨g, 2, none⟩) hg _).setCell (p := ⟨g, 3, none⟩) hg _).setCell (p := ⟨g, 4, none⟩) hg _
theorem zeroNum (w : World) : IsNum w (.agg #[.bool false, .slice none 0 0, .slice none 0 0, .int .i64 0, .slice none 0 0]) Num.zero :=
  ⟨none, 0, 0, none, 0, 0, none, 0, 0, rfl, Row.nil _, Row.nil _, rfl, rfl, rfl⟩
theorem getD_past (xs : List Int) (n i : Nat) (h : xs.length = n) (hi : ¬ i < n) : xs.getD i 0 = 0 := by
  rw [List.getD_eq_getElem?_getD, List.getElem?_eq_none (by omega)]; rfl
/-- the five cells of a Number's block -/
def Cells5 (w : World) (g : Nat) (v0 v1 v2 v3 v4 : Value) : Prop :=
  w.cell? ⟨g, 0, none⟩ = some v0 ∧ w.cell? ⟨g, 1, none⟩ = some v1 ∧ w.cell? ⟨g, 2, none⟩ = some v2 ∧ w.cell? ⟨g, 3, none⟩ = some v3 ∧ w.cell? ⟨g, 4, none⟩ = some v4
theorem set5 {W : World} {g : Nat} {u0 u1 u2 u3 u4 : Value} (q : Cells5 W g u0 u1 u2 u3 u4) (v0 v1 v2 v3 v4 : Value) :
    Cells5 (((((W.setCell ⟨g, 0, none⟩ v0).setCell ⟨g, 1, none⟩ v1).setCell ⟨g, 2, none⟩ v2).setCell ⟨g, 3, none⟩ v3).setCell ⟨g, 4, none⟩ v4) g v0 v1 v2 v3 v4 := by
  obtain ⟨q0, q1, q2, q3, q4⟩ := q
  unfold Cells5
  simp [World.cell?_setCell_other, World.cell?_setCell_same', q0, q1, q2, q3, q4]
theorem parse_results {tmps : Array Value} {g : Nat} {b b0 : Bool} {a1 : Option Addr} {n1 c1 : Nat} {a2 : Option Addr} {n2 c2 : Nat} {pt : Int} {a3 : Option Addr} {n3 c3 : Nat} {w : World}
    (h2 : tmps.getD 2 undef = .pointer (some ⟨g, 0, none⟩)) (h3 : tmps.getD 3 undef = .bool b) (hc : Cells5 w g (.bool b0) (.slice a1 n1 c1) (.slice a2 n2 c2) (.int .i64 pt) (.slice a3 n3 c3)) :
    (results Try.f23 tmps).run Try.prog w = .ok (.tuple #[.agg #[.bool b0, .slice a1 n1 c1, .slice a2 n2 c2, .int .i64 pt, .slice a3 n3 c3], .bool b]) w := by
  obtain ⟨q0, q1, q2, q3, q4⟩ := hc
  rw [results_cell_tmp (p := 2) (u := 3) (ty := 28) Try.results23, h2, h3]
  simp [go_sem, q0, q1, q2, q3, q4]
/-- the ending of a refusal -/
theorem failEnd {xs : List Int} {w w' : World} (h : parse xs = none) (hb : Below w.heap.size w w') :
    ∃ v, Ending.returned (.tuple #[.agg #[.bool false, .slice none 0 0, .slice none 0 0, .int .i64 0, .slice none 0 0], .bool false]) = .returned (.tuple #[v, .bool (parse xs).isSome]) ∧ IsNum w v ((parse xs).getD Num.zero) ∧ Below w.heap.size w w' := by
  rw [h]
  exact ⟨_, rfl, zeroNum w, hb⟩

theorem okEnd {xs : List Int} {N : Num} {v : Value} {w w' : World} (h : parse xs = some N) (hN : IsNum w v N) (hb : Below w.heap.size w w') :
    ∃ v', Ending.returned (.tuple #[v, .bool true]) = .returned (.tuple #[v', .bool (parse xs).isSome]) ∧ IsNum w v' ((parse xs).getD Num.zero) ∧ Below w.heap.size w w' := by
  rw [h]
  exact ⟨_, rfl, hN, hb⟩

set_option maxHeartbeats 4000000 in
set_option maxRecDepth 100000 in
theorem parse_any (a : Option Addr) (n cap : Nat) (xs : List Int) (w : World) (hr : Row w a n cap xs) :
    Calls Try.prog 23 #[.slice a n cap] w fun e w' => ∃ v, e = .returned (.tuple #[v, .bool (parse xs).isSome]) ∧ IsNum w v ((parse xs).getD Num.zero) ∧ Below w.heap.size w w' := by
  have hbd := hr.bd
  have hle := hr.le
  by_cases hn0 : n = 0
  · subst hn0
    have hx : xs = [] := by simpa using hr.len
    subst hx
    clear hr hbd hle
    have hd : decide ((0 : Int) < ((0 : Nat) : Int)) = false := by simp
    go_enter Try.func23, Try.ntmps23
    go_wp2
    refine bodyPost_ret (v := .tuple #[.agg #[.bool false, .slice none 0 0, .slice none 0 0, .int .i64 0, .slice none 0 0], .bool false]) (by simp [results, Try.results23, go_sem]) rfl ?_
    exact failEnd rfl ((Below.refl _ _).alloc (Nat.le_refl _) _)
  obtain ⟨b, off, rfl, hc⟩ := hr.cells (by omega)
  obtain ⟨W, HW⟩ : ∃ W, Hid (W = w.alloc (.cells #[.bool false, .slice none 0 0, .slice none 0 0, .int .i64 0, .slice none 0 0] 28)) := ⟨_, rfl⟩
  have HBW : Hid (Below w.heap.size w W) := by rw [HW.out]; exact (Below.refl _ _).alloc (Nat.le_refl _) _
  have hq : (W.cell? ⟨w.heap.size, 0, none⟩ = some (.bool false) ∧ W.cell? ⟨w.heap.size, 1, none⟩ = some (.slice none 0 0) ∧ W.cell? ⟨w.heap.size, 2, none⟩ = some (.slice none 0 0) ∧ W.cell? ⟨w.heap.size, 3, none⟩ = some (.int .i64 0) ∧ W.cell? ⟨w.heap.size, 4, none⟩ = some (.slice none 0 0)) ∧
      (∀ j, W.frozen? ⟨w.heap.size, j, none⟩ = false) ∧ w.heap.size < W.heap.size := by
    rw [HW.out]; exact box5 (Below.refl _ _)
  have HQ : Hid _ := hq
  clear hq
  have HR : Hid (Row w (some ⟨b, off, none⟩) n cap xs) := hr
  have HRW : Hid (Row W (some ⟨b, off, none⟩) n cap xs) := hr.below HBW.out (Nat.le_refl _)
  have HL : Hid (xs.length = n) := hr.len
  have HC : Hid (∀ i, i < n → W.cell? ⟨b, off + i, none⟩ = some (.int .u8 (xs.getD i 0))) := by
    obtain ⟨b1, off1, e1, hc1⟩ := HRW.out.cells (by omega)
    simp only [Option.some.injEq, Addr.mk.injEq, and_true] at e1
    obtain ⟨rfl, rfl⟩ := e1
    exact hc1
  have HBY : Hid (∀ i, 0 ≤ xs.getD i 0 ∧ xs.getD i 0 ≤ 255) := hr.byte
  clear hc hr
  have hc0 := HC.out 0 (by omega)
  rw [Nat.add_zero] at hc0
  have hpos : (0 : Int) < (n : Int) := by omega
  generalize hg0 : xs.getD 0 0 = c0 at hc0
  have HG0 : Hid (xs.getD 0 0 = c0) := hg0
  clear hg0
  go_enter Try.func23, Try.ntmps23
  go_upto_region 1 with fail
  rw [← HW.out]
  go_upto_if 24 with fail
  go_cut [4, 5] (fun i g wc => ∃ (i0 : Nat) (neg : Bool), i = .int .i64 i0 ∧ g = .bool neg ∧ i0 ≤ n ∧ Hid (parse xs = parseA xs neg i0) ∧ W = wc)
  case first =>
    by_cases h45 : c0 = 45
    · have HP : Hid (parse xs = parseA xs true 1) := by unfold Hid parse; rw [HG0.out, if_pos h45]
      have hb : (c0 == 45) = true := by rw [h45]; rfl
      clear h45
      go_wp2
      go_meet
      case rel => exact ⟨1, true, rfl, by rw [hb], by omega, HP, rfl⟩
    · have HP : Hid (parse xs = parseA xs false 0) := by unfold Hid parse; rw [HG0.out, if_neg h45]
      have hb : (c0 == 45) = false := by simpa using h45
      clear h45
      go_wp2
      go_meet
      case rel => exact ⟨0, false, rfl, by rw [hb], by omega, HP, rfl⟩
  case rest =>
    obtain ⟨i0, neg, rfl, rfl, hi0, HP, rfl⟩ := hcut
    clear hc0 hpos
    obtain ⟨⟨q0, q1, q2, q3, q4⟩, qf, qs⟩ := HQ.out
    go_upto_block 0 with fail
    go_cut [4] (fun i wc => ∃ (i1 : Nat), i = .int .i64 i1 ∧ i0 < i1 ∧ i1 ≤ n ∧ Hid (parse xs = parseB xs neg (seg xs i0 i1) i1) ∧ W = wc)
    case first =>
      by_cases hlt : i0 < n
      · have hck := HC.out i0 hlt
        have hli : (i0 : Int) < (n : Int) := by omega
        have hby := HBY.out i0
        generalize hg : xs.getD i0 0 = c at hck hby
        have HG : Hid (xs.getD i0 0 = c) := hg
        clear hg
        by_cases h48 : c = 48
        · subst h48
          have HP1 : Hid (parse xs = parseB xs neg (seg xs i0 (i0 + 1)) (i0 + 1)) := by rw [Hid, HP.out]; unfold parseA; rw [if_pos HG.out]
          go_wp2
          go_meet
          case rel => exact ⟨i0 + 1, by go_num, by omega, by omega, HP1, rfl⟩
        · have hne : (c == 48) = false := by simpa using h48
          by_cases hd : 49 ≤ c ∧ c ≤ 57
          · have HP1 : Hid (parse xs = parseB xs neg (seg xs i0 (dEnd xs i0)) (dEnd xs i0)) := by rw [Hid, HP.out]; unfold parseA; rw [HG.out, if_neg h48, if_pos hd]
            have HD := dEnd_bd xs i0 (by rw [HL.out]; exact hi0)
            rw [HL.out] at HD
            have HD1 : i0 < dEnd xs i0 := dEnd_pos xs i0 (by rw [HL.out]; exact hlt) (by rw [HG.out]; exact Qdec.isDig_iff.2 ⟨by omega, hd.2⟩)
            obtain ⟨hd1, hd2⟩ := hd
            generalize hde : dEnd xs i0 = e1 at HP1 HD HD1
            have HDE : Hid (dEnd xs i0 = e1) := hde
            clear hde h48
            go_wp2_with fail
            refine (digitsEnd_any _ n cap xs i0 _ HRW.out hi0).mono ?_
            rintro e w2 ⟨rfl, rfl⟩
            rw [HDE.out]
            go_wp2
            go_meet
            case rel => exact ⟨e1, rfl, HD1, HD.2, HP1, rfl⟩
          · have HPn : Hid (parse xs = none) := by rw [Hid, HP.out]; unfold parseA; rw [HG.out, if_neg h48, if_neg hd]
            by_cases hd1 : 49 ≤ c
            · have hd2 : ¬ c ≤ 57 := by omega
              have hd3 : decide (c ≤ (57 : Int)) = false := by simpa using hd2
              clear hd h48
              go_wp2
              exact bodyPost_ret (parse_results rfl rfl (set5 HQ.out.1 _ _ _ _ _)) rfl (failEnd HPn.out (below5 HBW.out (Nat.le_refl _) _ _ _ _ _))
            · have hd3 : decide ((49 : Int) ≤ c) = false := by simpa using hd1
              clear hd h48 hd1
              go_wp2
              exact bodyPost_ret (parse_results rfl rfl (set5 HQ.out.1 _ _ _ _ _)) rfl (failEnd HPn.out (below5 HBW.out (Nat.le_refl _) _ _ _ _ _))
      · have HPn : Hid (parse xs = none) := by
          rw [Hid, HP.out]; unfold parseA; rw [getD_past xs n i0 HL.out hlt, if_neg (by omega), if_neg (by omega)]
        have hd : decide ((i0 : Int) < (n : Int)) = false := by simp; omega
        go_wp2
        exact bodyPost_ret (parse_results rfl rfl (set5 HQ.out.1 _ _ _ _ _)) rfl (failEnd HPn.out (below5 HBW.out (Nat.le_refl _) _ _ _ _ _))
    case rest =>
      obtain ⟨i1, rfl, hi01, hi1, HP1, rfl⟩ := hcut
      clear HP
      have hcap1 : ¬ cap = i0 := by omega
      have HI : Hid (Row w (some ⟨b, off + i0, none⟩) (i1 - i0) (cap - i0) (seg xs i0 i1)) := HR.out.seg i0 i1 hi01 hi1
      generalize seg xs i0 i1 = I at HP1 HI
      obtain ⟨dot, HDOT⟩ : ∃ d, Hid (decide (xs.getD i1 0 = 46) = d) := ⟨_, rfl⟩
      go_upto_region 13 with fail
      go_cut [79] (fun t wc => t = .bool dot ∧ W = wc)
      case first =>
        by_cases hlt : i1 < n
        · have hck := HC.out i1 hlt
          have hli : (i1 : Int) < (n : Int) := by omega
          generalize hg : xs.getD i1 0 = c at hck
          have HG : Hid (xs.getD i1 0 = c) := hg
          clear hg
          have hb : (c == 46) = dot := by rw [← HDOT.out, HG.out]; by_cases h : c = 46 <;> simp [h]
          go_wp2
          go_meet
          case rel => exact ⟨rfl, rfl⟩
        · have hd : decide ((i1 : Int) < (n : Int)) = false := by simp; omega
          have hdot : Hid (dot = false) := by rw [Hid, ← HDOT.out, getD_past xs n i1 HL.out hlt]; rfl
          go_wp2
          go_meet
          case rel => exact ⟨by rw [hdot.out], rfl⟩
      case rest =>
        obtain ⟨rfl, rfl⟩ := hcut
        go_upto_if 79 with fail
        go_cut [4, 8] (fun i f wc => ∃ (i2 : Nat) (F : List Int) (aF : Option Addr) (nF cF : Nat), i = .int .i64 i2 ∧ i2 ≤ n ∧ f = .slice aF nF cF ∧ Hid (Row w aF nF cF F) ∧ Hid (parse xs = parseC xs neg I F i2) ∧ W = wc)
        case first =>
          cases dot with
          | false =>
            have HP2 : Hid (parse xs = parseC xs neg I [] i1) := by
              have h := HDOT.out
              rw [decide_eq_false_iff_not] at h
              rw [Hid, HP1.out]; unfold parseB; rw [if_neg h]
            go_wp2
            go_meet
            case rel => exact ⟨i1, [], none, 0, 0, rfl, hi1, rfl, Row.nil w, HP2, rfl⟩
          | true =>
            have HD46 : Hid (xs.getD i1 0 = 46) := by
              have h := HDOT.out
              rwa [decide_eq_true_iff] at h
            have hlt : i1 + 1 ≤ n := by
              by_cases h : i1 < n
              · omega
              · have := getD_past xs n i1 HL.out h
                rw [HD46.out] at this
                omega
            have hPB : parse xs = if dEnd xs (i1 + 1) = i1 + 1 then none else parseC xs neg I (seg xs (i1 + 1) (dEnd xs (i1 + 1))) (dEnd xs (i1 + 1)) := by
              rw [HP1.out]; unfold parseB; rw [if_pos HD46.out]
            have HD := dEnd_bd xs (i1 + 1) (by rw [HL.out]; exact hlt)
            rw [HL.out] at HD
            generalize hde : dEnd xs (i1 + 1) = e1 at hPB HD
            have HDE : Hid (dEnd xs (i1 + 1) = e1) := hde
            have HPB : Hid _ := hPB
            clear hde hPB
            obtain ⟨hD1, hD2⟩ := HD
            go_wp2_with fail
            rw [show ((i1 : Int) + 1) = ((i1 + 1 : Nat) : Int) by omega]
            refine (digitsEnd_any _ n cap xs (i1 + 1) _ HRW.out hlt).mono ?_
            rintro e w2 ⟨rfl, rfl⟩
            rw [HDE.out]
            by_cases heq : e1 = i1 + 1
            · have HPn : Hid (parse xs = none) := by rw [Hid, HPB.out, if_pos heq]
              have hb : ((e1 : Int) == ((i1 + 1 : Nat) : Int)) = true := by simp; omega
              clear heq
              go_wp2
              exact bodyPost_ret (parse_results rfl rfl (set5 HQ.out.1 _ _ _ _ _)) rfl (failEnd HPn.out (below5 HBW.out (Nat.le_refl _) _ _ _ _ _))
            · have HP2 : Hid (parse xs = parseC xs neg I (seg xs (i1 + 1) e1) e1) := by rw [Hid, HPB.out, if_neg heq]
              have HF : Hid (Row w (some ⟨b, off + (i1 + 1), none⟩) (e1 - (i1 + 1)) (cap - (i1 + 1)) (seg xs (i1 + 1) e1)) := HR.out.seg (i1 + 1) e1 (by omega) hD2
              have hb : ((e1 : Int) == ((i1 + 1 : Nat) : Int)) = false := by simp; omega
              have hcap2 : ¬ cap = i1 + 1 := by omega
              go_wp2
              go_meet
              case rel => exact ⟨e1, _, _, _, _, rfl, hD2, rfl, HF, HP2, rfl⟩
        case rest =>
          obtain ⟨i2, F, aF, nF, cF, rfl, hi2, rfl, HF, HP2, rfl⟩ := hcut
          clear HP1 HDOT
          obtain ⟨ex, HEX⟩ : ∃ d, Hid (decide (xs.getD i2 0 = 101 ∨ xs.getD i2 0 = 69) = d) := ⟨_, rfl⟩
          go_upto_region 20 with fail
          go_cut [110] (fun t wc => t = .bool ex ∧ W = wc)
          case first =>
            by_cases hlt : i2 < n
            · have hck := HC.out i2 hlt
              have hli : (i2 : Int) < (n : Int) := by omega
              generalize hg : xs.getD i2 0 = c at hck
              have HG : Hid (xs.getD i2 0 = c) := hg
              clear hg
              by_cases h1 : c = 101
              · have hb : (c == 101) = true := by simpa using h1
                have hex : Hid (ex = true) := by rw [Hid, ← HEX.out, HG.out]; simp [h1]
                clear h1
                go_wp2
                go_meet
                case rel => exact ⟨by rw [hex.out], rfl⟩
              · have hb : (c == 101) = false := by simpa using h1
                have hb2 : (c == 69) = ex := by rw [← HEX.out, HG.out]; by_cases h : c = 69 <;> simp [h, h1]
                clear h1
                go_wp2
                go_meet
                case rel => exact ⟨rfl, rfl⟩
            · have hd : decide ((i2 : Int) < (n : Int)) = false := by simp; omega
              have hex : Hid (ex = false) := by rw [Hid, ← HEX.out, getD_past xs n i2 HL.out hlt]; rfl
              go_wp2
              go_meet
              case rel => exact ⟨by rw [hex.out], rfl⟩
          case rest =>
            obtain ⟨rfl, rfl⟩ := hcut
            go_upto_if 110 with fail
            go_cut [4, 10] (fun i f wc => ∃ (i3 : Nat) (E : List Int) (aE : Option Addr) (nE cE : Nat), i = .int .i64 i3 ∧ i3 ≤ n ∧ f = .slice aE nE cE ∧ Hid (Row w aE nE cE E) ∧ Hid (Qdec.isExpT E = true) ∧ Hid (parse xs = parseD xs neg I F E i3) ∧ W = wc)
            case first =>
              cases ex with
              | false =>
                have HP3 : Hid (parse xs = parseD xs neg I F [] i2) := by
                  have h := HEX.out
                  rw [decide_eq_false_iff_not] at h
                  rw [Hid, HP2.out]; unfold parseC; rw [if_neg h]
                go_wp2
                go_meet
                case rel => exact ⟨i2, [], none, 0, 0, rfl, hi2, rfl, Row.nil w, rfl, HP3, rfl⟩
              | true =>
                have HE1 : Hid (xs.getD i2 0 = 101 ∨ xs.getD i2 0 = 69) := by
                  have h := HEX.out
                  rwa [decide_eq_true_iff] at h
                have hlt : i2 + 1 ≤ n := by
                  by_cases h : i2 < n
                  · omega
                  · have h1 := getD_past xs n i2 HL.out h
                    have h2 := HE1.out
                    rw [h1] at h2
                    omega
                have hPC : parse xs = if dEnd xs (expAt xs (i2 + 1)) = expAt xs (i2 + 1) then none else parseD xs neg I F (seg xs (i2 + 1) (dEnd xs (expAt xs (i2 + 1)))) (dEnd xs (expAt xs (i2 + 1))) := by
                  rw [HP2.out]; unfold parseC; rw [if_pos HE1.out]
                have HT0 : Hid (Qdec.isExpT (seg xs (i2 + 1) (dEnd xs (expAt xs (i2 + 1)))) = true) := isExpT_seg xs (i2 + 1)
                have hes : i2 + 1 ≤ expAt xs (i2 + 1) ∧ expAt xs (i2 + 1) ≤ n := by
                  unfold expAt
                  by_cases h : i2 + 1 < n
                  · split <;> omega
                  · rw [getD_past xs n (i2 + 1) HL.out h, if_neg (by omega)]; omega
                have HES : Hid (expAt xs (i2 + 1) = if xs.getD (i2 + 1) 0 = 43 ∨ xs.getD (i2 + 1) 0 = 45 then i2 + 1 + 1 else i2 + 1) := rfl
                generalize hea : expAt xs (i2 + 1) = ds at hPC HT0 hes HES
                clear hea
                have HD := dEnd_bd xs ds (by rw [HL.out]; exact hes.2)
                rw [HL.out] at HD
                generalize hde : dEnd xs ds = e1 at hPC HD HT0
                have HDE : Hid (dEnd xs ds = e1) := hde
                have HPC : Hid _ := hPC
                clear hde hPC
                obtain ⟨hD1, hD2⟩ := HD
                obtain ⟨hes1, hes2⟩ := hes
                obtain ⟨sg, HSG⟩ : ∃ d, Hid (decide (xs.getD (i2 + 1) 0 = 43 ∨ xs.getD (i2 + 1) 0 = 45) = d) := ⟨_, rfl⟩
                go_upto_region 23 with fail
                go_cut [131] (fun t wc => t = .bool sg ∧ W = wc)
                case first =>
                  by_cases hlt2 : i2 + 1 < n
                  · have hck := HC.out (i2 + 1) hlt2
                    have hli : (i2 : Int) + 1 < (n : Int) := by omega
                    generalize hg : xs.getD (i2 + 1) 0 = c at hck
                    have HG : Hid (xs.getD (i2 + 1) 0 = c) := hg
                    clear hg
                    by_cases h1 : c = 43
                    · have hb : (c == 43) = true := by simpa using h1
                      have hex : Hid (sg = true) := by rw [Hid, ← HSG.out, HG.out]; simp [h1]
                      clear h1
                      go_wp2
                      go_meet
                      case rel => exact ⟨by rw [hex.out], rfl⟩
                    · have hb : (c == 43) = false := by simpa using h1
                      have hb2 : (c == 45) = sg := by rw [← HSG.out, HG.out]; by_cases h : c = 45 <;> simp [h, h1]
                      clear h1
                      go_wp2
                      go_meet
                      case rel => exact ⟨rfl, rfl⟩
                  · have hd : decide ((i2 : Int) + 1 < (n : Int)) = false := by simp; omega
                    have hex : Hid (sg = false) := by rw [Hid, ← HSG.out, getD_past xs n (i2 + 1) HL.out hlt2]; rfl
                    go_wp2
                    go_meet
                    case rel => exact ⟨by rw [hex.out], rfl⟩
                case rest =>
                  obtain ⟨rfl, rfl⟩ := hcut
                  go_upto_if 131 with fail
                  go_cut [4] (fun i wc => i = .int .i64 (ds : Nat) ∧ W = wc)
                  case first =>
                    cases sg with
                    | false =>
                      have h := HSG.out
                      rw [decide_eq_false_iff_not] at h
                      have HE2 : Hid (ds = i2 + 1) := by rw [Hid, HES.out, if_neg h]
                      clear h
                      go_wp2
                      go_meet
                      case rel => exact ⟨by rw [HE2.out]; go_num, rfl⟩
                    | true =>
                      have h := HSG.out
                      rw [decide_eq_true_iff] at h
                      have HE2 : Hid (ds = i2 + 1 + 1) := by rw [Hid, HES.out, if_pos h]
                      clear h
                      go_wp2
                      go_meet
                      case rel => exact ⟨by rw [HE2.out]; go_num, rfl⟩
                  case rest =>
                    obtain ⟨rfl, rfl⟩ := hcut
                    go_wp2_with fail
                    refine (digitsEnd_any _ n cap xs ds _ HRW.out hes2).mono ?_
                    rintro e w2 ⟨rfl, rfl⟩
                    rw [HDE.out]
                    by_cases heq : e1 = ds
                    · have HPn : Hid (parse xs = none) := by rw [Hid, HPC.out, if_pos heq]
                      have hb : ((e1 : Int) == (ds : Int)) = true := by simp; omega
                      clear heq
                      go_wp2
                      exact bodyPost_ret (parse_results rfl rfl (set5 HQ.out.1 _ _ _ _ _)) rfl (failEnd HPn.out (below5 HBW.out (Nat.le_refl _) _ _ _ _ _))
                    · have HP3 : Hid (parse xs = parseD xs neg I F (seg xs (i2 + 1) e1) e1) := by rw [Hid, HPC.out, if_neg heq]
                      have HE : Hid (Row w (some ⟨b, off + (i2 + 1), none⟩) (e1 - (i2 + 1)) (cap - (i2 + 1)) (seg xs (i2 + 1) e1)) := HR.out.seg (i2 + 1) e1 (by omega) hD2
                      have hb : ((e1 : Int) == (ds : Int)) = false := by simp; omega
                      have hcap3 : ¬ cap = i2 + 1 := by omega
                      have hle3 : i2 + 1 ≤ e1 := by omega
                      go_wp2
                      go_meet
                      case rel => exact ⟨e1, _, _, _, _, rfl, hD2, rfl, HE, HT0, HP3, rfl⟩
            case rest =>
              obtain ⟨i3, E, aE, nE, cE, rfl, hi3, rfl, HE, HT, HP3, rfl⟩ := hcut
              clear HP2 HEX
              by_cases hend : i3 = n
              · subst hend
                have HPs : Hid (parse xs = some (sigOf neg I F E)) := by rw [Hid, HP3.out]; unfold parseD; rw [if_pos HL.out.symm]
                have hb : ((i3 : Int) != (i3 : Int)) = false := by simp
                go_wp2_with fail
                refine (significant_any neg _ _ _ I _ _ _ F _ _ _ E w _ HBW.out HI.out HF.out HE.out HT.out).mono ?_
                rintro e w1 ⟨v, rfl, ⟨a1, n1, c1, a2, n2, c2, a3, n3, c3, rfl, h1, h2, h3⟩, hB⟩
                have hB' : Below (w.heap.size + 1) (w.alloc (.cells #[.bool false, .slice none 0 0, .slice none 0 0, .int .i64 0, .slice none 0 0] 28)) w1 := by rw [HW.out] at hB; simpa using hB
                obtain ⟨⟨r0, r1, r2, r3, r4⟩, rf, rs⟩ := box5 hB'
                have HN : Hid (Row w a1 n1 c1 _ ∧ Row w a2 n2 c2 _ ∧ IsBig w a3 n3 c3 _) := ⟨h1, h2, h3⟩
                have HB : Hid (Below w.heap.size w w1) := ((Below.refl w.heap.size w).alloc (Nat.le_refl _) _).trans (hB'.mono (by omega))
                clear h1 h2 h3 hB hB' q0 q1 q2 q3 q4 qf qs
                go_wp2
                refine bodyPost_ret (v := .tuple #[.agg #[.bool (sigOf neg I F E).neg, .slice a1 n1 c1, .slice a2 n2 c2, .int .i64 (sigOf neg I F E).point, .slice a3 n3 c3], .bool true]) (parse_results rfl rfl (set5 ⟨r0, r1, r2, r3, r4⟩ _ _ _ _ _)) rfl (okEnd HPs.out ⟨a1, n1, c1, a2, n2, c2, a3, n3, c3, rfl, HN.out.1, HN.out.2.1, HN.out.2.2⟩ ?_)
                exact below5 HB.out (Nat.le_refl _) _ _ _ _ _
              · have HPn : Hid (parse xs = none) := by rw [Hid, HP3.out]; unfold parseD; rw [if_neg (by rw [HL.out]; exact hend)]
                have hb : ((i3 : Int) != (n : Int)) = true := by simp; omega
                go_wp2
                exact bodyPost_ret (parse_results rfl rfl (set5 HQ.out.1 _ _ _ _ _)) rfl (failEnd HPn.out (below5 HBW.out (Nat.le_refl _) _ _ _ _ _))

end Go.Proofs.Qxb6619243a
