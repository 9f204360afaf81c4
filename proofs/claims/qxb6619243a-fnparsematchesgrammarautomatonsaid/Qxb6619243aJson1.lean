/-
  jsonNumberModel (22): the walk.
-/
import Derived.Test.Qxb6619243aJsonInv
namespace Go.Proofs.Qxb6619243a
open Go.RowKit

/-- what is handed back, against the automaton -/
def JOut (w : World) (ok g : Bool) (il : Int) (vM vE : Value) (r : Option (Bool × List Int × Nat × List Int)) : Prop :=
  match r with
  | none => ok = false
  | some (g', m, il', ex) => ok = true ∧ g = g' ∧ il = (il' : Int) ∧ (∃ a c, vM = .slice a m.length c ∧ Row w a m.length c m) ∧ (∃ a c, vE = .slice a ex.length c ∧ Row w a ex.length c ex)

def JPost (w : World) (xs : List Int) (e : Ending) (w' : World) : Prop :=
  ∃ (ok g : Bool) (il : Int) (vM vE : Value), e = .returned (.tuple #[.bool ok, .bool g, vM, .int .i64 il, vE]) ∧ Below w.heap.size w w' ∧ JOut w' ok g il vM vE (acc 0 false [] 0 [] xs)
theorem drop_getD (xs : List Int) (k : Nat) (h : k < xs.length) : xs.drop k = xs.getD k 0 :: xs.drop (k + 1) := by
  rw [List.drop_eq_getElem_cons h]
  simp [h]
def accNext (r : Option (Nat × Bool × List Int × Nat × List Int)) (ys : List Int) : Option (Bool × List Int × Nat × List Int) :=
  match r with
  | none => none
  | some (s', g', m', il', ex') => acc s' g' m' il' ex' ys
theorem acc_next (s : Nat) (g : Bool) (m : List Int) (il : Nat) (ex : List Int) (c : Int) (r : List Int) : acc s g m il ex (c :: r) = accNext (stepJ s g m il ex c) r := by
  rw [acc_cons]
  cases stepJ s g m il ex c <;> rfl
theorem failJ {w w' : World} {xs : List Int} (h : acc 0 false [] 0 [] xs = none) (hb : Below w.heap.size w w') :
    JPost w xs (Ending.returned (.tuple #[.bool false, .bool false, .slice none 0 0, .int .i64 0, .slice none 0 0])) w' :=
  ⟨false, false, 0, .slice none 0 0, .slice none 0 0, rfl, hb, by rw [h]; rfl⟩
theorem okJ {w w' : World} {xs m ex : List Int} {g : Bool} {il : Nat} {vM vE : Value} (h : acc 0 false [] 0 [] xs = some (g, m, il, ex)) (hb : Below w.heap.size w w')
    (ho : (∃ a c, vM = .slice a m.length c ∧ Row w' a m.length c m) ∧ (∃ a c, vE = .slice a ex.length c ∧ Row w' a ex.length c ex)) :
    JPost w xs (Ending.returned (.tuple #[.bool true, .bool g, vM, .int .i64 (il : Int), vE])) w' :=
  ⟨true, g, il, vM, vE, rfl, hb, by rw [h]; exact ⟨rfl, rfl, rfl, ho.1, ho.2⟩⟩
theorem json_results {tmps : Array Value} {v2 v3 v4 v5 v6 : Value} {w : World} (h2 : tmps.getD 2 undef = v2) (h3 : tmps.getD 3 undef = v3) (h4 : tmps.getD 4 undef = v4) (h5 : tmps.getD 5 undef = v5) (h6 : tmps.getD 6 undef = v6) :
    (results Try.f22 tmps).run Try.prog w = .ok (.tuple #[v2, v3, v4, v5, v6]) w := by
  subst h2 h3 h4 h5 h6
  simp [results, Try.results22, go_sem]

set_option maxHeartbeats 20000000 in
set_option maxRecDepth 100000 in
theorem json_any (a : Option Addr) (n cap : Nat) (xs : List Int) (w : World) (hn : n ≤ 1048576) (hr : Row w a n cap xs) :
    Calls Try.prog 22 #[.slice a n cap] w fun e w' => JPost w xs e w' := by
  have HR : Hid (Row w a n cap xs) := hr
  have HL : Hid (xs.length = n) := hr.len
  obtain ⟨i0, hi, hz0, hz1, hz2⟩ := info_parts info5
  clear hr
  go_enter Try.func22, Try.ntmps22
  go_wp2
  go_loopg [7, 8, 9, 10, 11, 12] n (fun gk st ng mt ln xe j wr => ∃ (k s il : Nat) (g : Bool) (m ex : List Int), k ≤ n ∧ gk = n - k ∧ j = .int .i64 k ∧ st = .int .i64 s ∧ ng = .bool g ∧ ln = .int .i64 il ∧ s ≤ 8 ∧ il ≤ k ∧ Hid (m.length + ex.length ≤ k) ∧ Hid (acc 0 false [] 0 [] xs = acc s g m il ex (xs.drop k)) ∧ Hid (Inv w s m ex mt xe wr))
  case atStart => exact ⟨0, 0, 0, false, [], [], Nat.zero_le _, rfl, rfl, rfl, rfl, rfl, by omega, by omega, by show _ ≤ _; simp, rfl, Inv.start w⟩
  case round =>
    obtain ⟨k, s, il, g, m, ex, hk, hgk, hj, hst, hng, hln, hs8, hil, HB, HA, HI⟩ := hrel
    subst hgk
    subst hj
    subst hst
    subst hng
    subst hln
    by_cases hlt : k < n
    · obtain ⟨b, off, rfl, hc⟩ := HR.out.cells (by omega)
      have hck := hc k hlt
      have hblt := cell_lt hck
      rw [← HI.out.1.cell hblt] at hck
      have hbc := HR.out.byte k
      have HD : Hid (xs.drop k = xs.getD k 0 :: xs.drop (k + 1)) := drop_getD xs k (by rw [HL.out]; exact hlt)
      clear hc hblt
      generalize hg : xs.getD k 0 = c at hck hbc HD
      clear hg
      have HA2 : Hid (acc 0 false [] 0 [] xs = accNext (stepJ s g m il ex c) (xs.drop (k + 1))) := by
        rw [Hid, HA.out, HD.out, acc_next]
      clear HA HD
      have hb63 : m.length + 1 ≤ maxLen := by have := HB.out; unfold maxLen; omega
      have hbby : (m.length + 1) * 1 ≤ 140737488355328 := by have := HB.out; omega
      have hbe63 : ex.length + 1 ≤ maxLen := by have := HB.out; unfold maxLen; omega
      have hbeby : (ex.length + 1) * 1 ≤ 140737488355328 := by have := HB.out; omega
      have hszr := HI.out.1.size
      have hbase : ∀ o : Obj, w.heap.size ≤ (wr.alloc o).heap.size := fun o => by simp; omega
      have hcl : (k : Int) < (n : Int) := by omega
      obtain ⟨hbc1, hbc2⟩ := hbc
      go_upto_block 2 with fail
      go_cut [8, 9, 10, 11, 14] (fun ng2 mt2 ln2 xe2 nx wc => (Hid (stepJ s g m il ex c = none) ∧ nx = .int .i64 (-1) ∧ Below w.heap.size w wc) ∨
        (∃ (s' : Nat) (g' : Bool) (m' : List Int) (il' : Nat) (ex' : List Int), Hid (stepJ s g m il ex c = some (s', g', m', il', ex')) ∧ nx = .int .i64 (s' : Int) ∧ ng2 = .bool g' ∧ ln2 = .int .i64 (il' : Int) ∧ s' ≤ 8 ∧ il' ≤ k + 1 ∧ Hid (m'.length + ex'.length ≤ k + 1) ∧ Hid (Inv w s' m' ex' mt2 xe2 wc)))
      case first =>
        obtain rfl | rfl | rfl | rfl | rfl | rfl | rfl | rfl | rfl : s = 0 ∨ s = 1 ∨ s = 2 ∨ s = 3 ∨ s = 4 ∨ s = 5 ∨ s = 6 ∨ s = 7 ∨ s = 8 := by omega
        · rcases st0 g m il ex c with ⟨rfl, hS⟩ | ⟨rfl, hS⟩ | ⟨q1, q2, q3, q4, hS⟩ | ⟨q1, q2, q3, hS⟩ | ⟨q1, q2, q3, q4, hS⟩
          · have HS : Hid _ := hS
            clear hS
            go_wp2_with go_in
            go_meet
            case rel => exact .inr ⟨1, true, m, il, ex, HS, rfl, rfl, rfl, by omega, by omega, by have := HB.out; unfold Hid; omega, HI.out.go (by omega) (by omega)⟩
          · have HS : Hid _ := hS
            clear hS
            have hown := (HI.out.low (by omega)).2.2
            go_wp2_with (first | (at_builtin; refine wpList_append_own _ rfl _ _ 22 rfl w.heap.size 5 i0 (.int .u8 0) 1 1 Try.underlying22 hi hz0 hz1 hz2 rfl (by decide) _ _ _ rfl (hown.alloc _) ⟨wr.heap.size, 0, none⟩ 1 1 [.int .u8 48] rfl rfl (cell_one_new _ _ _) (one_u8 _) hb63 hbby (by simp; omega) ?_) | go_in)
            intro v' w1 hown' hgrow _
            have HI' : Hid (Inv w 2 (m ++ [48]) ex v' _ w1) := HI.out.mant (by omega) (by omega) (by omega) hown' hgrow
            clear hown' hgrow hown
            go_wp2
            go_meet
            case rel => exact .inr ⟨2, g, m ++ [48], il + 1, ex, HS, rfl, rfl, by go_num, by omega, by omega, by have := HB.out; unfold Hid; simp; omega, HI'⟩
          · have HS : Hid _ := hS
            clear hS
            have hown := (HI.out.low (by omega)).2.2
            go_wp2_with (first | (at_builtin; refine wpList_append_own _ rfl _ _ 22 rfl w.heap.size 5 i0 (.int .u8 0) 1 1 Try.underlying22 hi hz0 hz1 hz2 rfl (by decide) _ _ _ rfl (hown.alloc _) ⟨wr.heap.size, 0, none⟩ 1 1 [.int .u8 c] rfl rfl (cell_one_new _ _ _) (one_u8 _) hb63 hbby (by simp; omega) ?_) | go_in)
            intro v' w1 hown' hgrow _
            have HI' : Hid (Inv w 3 (m ++ [c]) ex v' _ w1) := HI.out.mant (by omega) (by omega) (by omega) hown' hgrow
            clear hown' hgrow hown
            go_wp2
            go_meet
            case rel => exact .inr ⟨3, g, m ++ [c], il + 1, ex, HS, rfl, rfl, by go_num, by omega, by omega, by have := HB.out; unfold Hid; simp; omega, HI'⟩
          · have HS : Hid _ := hS
            clear hS
            go_wp2_with go_in
            go_meet
            case rel => exact .inl ⟨HS, rfl, HI.out.1⟩
          · have HS : Hid _ := hS
            clear hS
            go_wp2_with go_in
            go_meet
            case rel => exact .inl ⟨HS, rfl, HI.out.1⟩
        · rcases st1 g m il ex c with ⟨rfl, hS⟩ | ⟨q2, q3, q4, hS⟩ | ⟨q2, q3, hS⟩ | ⟨q2, q3, q4, hS⟩
          · have HS : Hid _ := hS
            clear hS
            have hown := (HI.out.low (by omega)).2.2
            go_wp2_with (first | (at_builtin; refine wpList_append_own _ rfl _ _ 22 rfl w.heap.size 5 i0 (.int .u8 0) 1 1 Try.underlying22 hi hz0 hz1 hz2 rfl (by decide) _ _ _ rfl (hown.alloc _) ⟨wr.heap.size, 0, none⟩ 1 1 [.int .u8 48] rfl rfl (cell_one_new _ _ _) (one_u8 _) hb63 hbby (by simp; omega) ?_) | go_in)
            intro v' w1 hown' hgrow _
            have HI' : Hid (Inv w 2 (m ++ [48]) ex v' _ w1) := HI.out.mant (by omega) (by omega) (by omega) hown' hgrow
            clear hown' hgrow hown
            go_wp2
            go_meet
            case rel => exact .inr ⟨2, g, m ++ [48], il + 1, ex, HS, rfl, rfl, by go_num, by omega, by omega, by have := HB.out; unfold Hid; simp; omega, HI'⟩
          · have HS : Hid _ := hS
            clear hS
            have hown := (HI.out.low (by omega)).2.2
            go_wp2_with (first | (at_builtin; refine wpList_append_own _ rfl _ _ 22 rfl w.heap.size 5 i0 (.int .u8 0) 1 1 Try.underlying22 hi hz0 hz1 hz2 rfl (by decide) _ _ _ rfl (hown.alloc _) ⟨wr.heap.size, 0, none⟩ 1 1 [.int .u8 c] rfl rfl (cell_one_new _ _ _) (one_u8 _) hb63 hbby (by simp; omega) ?_) | go_in)
            intro v' w1 hown' hgrow _
            have HI' : Hid (Inv w 3 (m ++ [c]) ex v' _ w1) := HI.out.mant (by omega) (by omega) (by omega) hown' hgrow
            clear hown' hgrow hown
            go_wp2
            go_meet
            case rel => exact .inr ⟨3, g, m ++ [c], il + 1, ex, HS, rfl, rfl, by go_num, by omega, by omega, by have := HB.out; unfold Hid; simp; omega, HI'⟩
          · have HS : Hid _ := hS
            clear hS
            go_wp2_with go_in
            go_meet
            case rel => exact .inl ⟨HS, rfl, HI.out.1⟩
          · have HS : Hid _ := hS
            clear hS
            go_wp2_with go_in
            go_meet
            case rel => exact .inl ⟨HS, rfl, HI.out.1⟩
        · rcases st2 g m il ex c with ⟨rfl, hS⟩ | ⟨rfl, hS⟩ | ⟨rfl, hS⟩ | ⟨q1, q2, q3, hS⟩
          · have HS : Hid _ := hS
            clear hS
            go_wp2_with go_in
            go_meet
            case rel => exact .inr ⟨4, g, m, il, ex, HS, rfl, rfl, rfl, by omega, by omega, by have := HB.out; unfold Hid; omega, HI.out.go (by omega) (by omega)⟩
          · have HS : Hid _ := hS
            clear hS
            go_wp2_with go_in
            go_meet
            case rel => exact .inr ⟨6, g, m, il, ex, HS, rfl, rfl, rfl, by omega, by omega, by have := HB.out; unfold Hid; omega, HI.out.to6 (by omega) (by have := HB.out; omega)⟩
          · have HS : Hid _ := hS
            clear hS
            go_wp2_with go_in
            go_meet
            case rel => exact .inr ⟨6, g, m, il, ex, HS, rfl, rfl, rfl, by omega, by omega, by have := HB.out; unfold Hid; omega, HI.out.to6 (by omega) (by have := HB.out; omega)⟩
          · have HS : Hid _ := hS
            clear hS
            go_wp2_with go_in
            go_meet
            case rel => exact .inl ⟨HS, rfl, HI.out.1⟩
        · rcases st3 g m il ex c with ⟨q1, q2, hS⟩ | ⟨rfl, hS⟩ | ⟨rfl, hS⟩ | ⟨rfl, hS⟩ | ⟨q1, q2, q3, q4, hS⟩ | ⟨q0, q1, q2, q3, q4, hS⟩
          · have HS : Hid _ := hS
            clear hS
            have hown := (HI.out.low (by omega)).2.2
            go_wp2_with (first | (at_builtin; refine wpList_append_own _ rfl _ _ 22 rfl w.heap.size 5 i0 (.int .u8 0) 1 1 Try.underlying22 hi hz0 hz1 hz2 rfl (by decide) _ _ _ rfl (hown.alloc _) ⟨wr.heap.size, 0, none⟩ 1 1 [.int .u8 c] rfl rfl (cell_one_new _ _ _) (one_u8 _) hb63 hbby (by simp; omega) ?_) | go_in)
            intro v' w1 hown' hgrow _
            have HI' : Hid (Inv w 3 (m ++ [c]) ex v' _ w1) := HI.out.mant (by omega) (by omega) (by omega) hown' hgrow
            clear hown' hgrow hown
            go_wp2
            go_meet
            case rel => exact .inr ⟨3, g, m ++ [c], il + 1, ex, HS, rfl, rfl, by go_num, by omega, by omega, by have := HB.out; unfold Hid; simp; omega, HI'⟩
          · have HS : Hid _ := hS
            clear hS
            go_wp2_with go_in
            go_meet
            case rel => exact .inr ⟨4, g, m, il, ex, HS, rfl, rfl, rfl, by omega, by omega, by have := HB.out; unfold Hid; omega, HI.out.go (by omega) (by omega)⟩
          · have HS : Hid _ := hS
            clear hS
            go_wp2_with go_in
            go_meet
            case rel => exact .inr ⟨6, g, m, il, ex, HS, rfl, rfl, rfl, by omega, by omega, by have := HB.out; unfold Hid; omega, HI.out.to6 (by omega) (by have := HB.out; omega)⟩
          · have HS : Hid _ := hS
            clear hS
            go_wp2_with go_in
            go_meet
            case rel => exact .inr ⟨6, g, m, il, ex, HS, rfl, rfl, rfl, by omega, by omega, by have := HB.out; unfold Hid; omega, HI.out.to6 (by omega) (by have := HB.out; omega)⟩
          · have HS : Hid _ := hS
            clear hS
            go_wp2_with go_in
            go_meet
            case rel => exact .inl ⟨HS, rfl, HI.out.1⟩
          · have HS : Hid _ := hS
            clear hS
            go_wp2_with go_in
            go_meet
            case rel => exact .inl ⟨HS, rfl, HI.out.1⟩
        · rcases st4 g m il ex c with ⟨q1, q2, hS⟩ | ⟨q1, hS⟩ | ⟨q1, q2, hS⟩
          · have HS : Hid _ := hS
            clear hS
            have hown := (HI.out.low (by omega)).2.2
            go_wp2_with (first | (at_builtin; refine wpList_append_own _ rfl _ _ 22 rfl w.heap.size 5 i0 (.int .u8 0) 1 1 Try.underlying22 hi hz0 hz1 hz2 rfl (by decide) _ _ _ rfl (hown.alloc _) ⟨wr.heap.size, 0, none⟩ 1 1 [.int .u8 c] rfl rfl (cell_one_new _ _ _) (one_u8 _) hb63 hbby (by simp; omega) ?_) | go_in)
            intro v' w1 hown' hgrow _
            have HI' : Hid (Inv w 5 (m ++ [c]) ex v' _ w1) := HI.out.mant (by omega) (by omega) (by omega) hown' hgrow
            clear hown' hgrow hown
            go_wp2
            go_meet
            case rel => exact .inr ⟨5, g, m ++ [c], il, ex, HS, rfl, rfl, rfl, by omega, by omega, by have := HB.out; unfold Hid; simp; omega, HI'⟩
          · have HS : Hid _ := hS
            clear hS
            go_wp2_with go_in
            go_meet
            case rel => exact .inl ⟨HS, rfl, HI.out.1⟩
          · have HS : Hid _ := hS
            clear hS
            go_wp2_with go_in
            go_meet
            case rel => exact .inl ⟨HS, rfl, HI.out.1⟩
        · rcases st5 g m il ex c with ⟨q1, q2, hS⟩ | ⟨rfl, hS⟩ | ⟨rfl, hS⟩ | ⟨q1, q2, q3, hS⟩ | ⟨q0, q1, q2, q3, hS⟩
          · have HS : Hid _ := hS
            clear hS
            have hown := (HI.out.low (by omega)).2.2
            go_wp2_with (first | (at_builtin; refine wpList_append_own _ rfl _ _ 22 rfl w.heap.size 5 i0 (.int .u8 0) 1 1 Try.underlying22 hi hz0 hz1 hz2 rfl (by decide) _ _ _ rfl (hown.alloc _) ⟨wr.heap.size, 0, none⟩ 1 1 [.int .u8 c] rfl rfl (cell_one_new _ _ _) (one_u8 _) hb63 hbby (by simp; omega) ?_) | go_in)
            intro v' w1 hown' hgrow _
            have HI' : Hid (Inv w 5 (m ++ [c]) ex v' _ w1) := HI.out.mant (by omega) (by omega) (by omega) hown' hgrow
            clear hown' hgrow hown
            go_wp2
            go_meet
            case rel => exact .inr ⟨5, g, m ++ [c], il, ex, HS, rfl, rfl, rfl, by omega, by omega, by have := HB.out; unfold Hid; simp; omega, HI'⟩
          · have HS : Hid _ := hS
            clear hS
            go_wp2_with go_in
            go_meet
            case rel => exact .inr ⟨6, g, m, il, ex, HS, rfl, rfl, rfl, by omega, by omega, by have := HB.out; unfold Hid; omega, HI.out.to6 (by omega) (by have := HB.out; omega)⟩
          · have HS : Hid _ := hS
            clear hS
            go_wp2_with go_in
            go_meet
            case rel => exact .inr ⟨6, g, m, il, ex, HS, rfl, rfl, rfl, by omega, by omega, by have := HB.out; unfold Hid; omega, HI.out.to6 (by omega) (by have := HB.out; omega)⟩
          · have HS : Hid _ := hS
            clear hS
            go_wp2_with go_in
            go_meet
            case rel => exact .inl ⟨HS, rfl, HI.out.1⟩
          · have HS : Hid _ := hS
            clear hS
            go_wp2_with go_in
            go_meet
            case rel => exact .inl ⟨HS, rfl, HI.out.1⟩
        · rcases st6 g m il ex c with ⟨rfl, hS⟩ | ⟨rfl, hS⟩ | ⟨q1, q2, q3, q4, hS⟩ | ⟨q1, q2, q3, hS⟩ | ⟨q1, q2, q3, q4, hS⟩
          · have HS : Hid _ := hS
            clear hS
            obtain ⟨w6, h6, hb6, hM6, hown⟩ := HI.out.high (by omega)
            have hbase6 : w6.heap.size ≤ wr.heap.size := hb6.size
            have HX : Hid _ := And.intro h6 (And.intro hb6 hM6)
            clear h6 hb6 hM6
            go_wp2_with (first | (at_builtin; refine wpList_append_own _ rfl _ _ 22 rfl w6.heap.size 5 i0 (.int .u8 0) 1 1 Try.underlying22 hi hz0 hz1 hz2 rfl (by decide) _ _ _ rfl (hown.alloc _) ⟨wr.heap.size, 0, none⟩ 1 1 [.int .u8 43] rfl rfl (cell_one_new _ _ _) (one_u8 _) hbe63 hbeby (by simp; omega) ?_) | go_in)
            intro v' w1 hown' hgrow _
            have HI' : Hid (Inv w 7 m (ex ++ [43]) _ v' w1) := HI.out.expo (by omega) (by omega) HX.out.1 HX.out.2.1 HX.out.2.2 hown hown' hgrow
            clear hown' hgrow hown
            go_wp2
            go_meet
            case rel => exact .inr ⟨7, g, m, il, ex ++ [43], HS, rfl, rfl, rfl, by omega, by omega, by have := HB.out; unfold Hid; simp; omega, HI'⟩
          · have HS : Hid _ := hS
            clear hS
            obtain ⟨w6, h6, hb6, hM6, hown⟩ := HI.out.high (by omega)
            have hbase6 : w6.heap.size ≤ wr.heap.size := hb6.size
            have HX : Hid _ := And.intro h6 (And.intro hb6 hM6)
            clear h6 hb6 hM6
            go_wp2_with (first | (at_builtin; refine wpList_append_own _ rfl _ _ 22 rfl w6.heap.size 5 i0 (.int .u8 0) 1 1 Try.underlying22 hi hz0 hz1 hz2 rfl (by decide) _ _ _ rfl (hown.alloc _) ⟨wr.heap.size, 0, none⟩ 1 1 [.int .u8 45] rfl rfl (cell_one_new _ _ _) (one_u8 _) hbe63 hbeby (by simp; omega) ?_) | go_in)
            intro v' w1 hown' hgrow _
            have HI' : Hid (Inv w 7 m (ex ++ [45]) _ v' w1) := HI.out.expo (by omega) (by omega) HX.out.1 HX.out.2.1 HX.out.2.2 hown hown' hgrow
            clear hown' hgrow hown
            go_wp2
            go_meet
            case rel => exact .inr ⟨7, g, m, il, ex ++ [45], HS, rfl, rfl, rfl, by omega, by omega, by have := HB.out; unfold Hid; simp; omega, HI'⟩
          · have HS : Hid _ := hS
            clear hS
            obtain ⟨w6, h6, hb6, hM6, hown⟩ := HI.out.high (by omega)
            have hbase6 : w6.heap.size ≤ wr.heap.size := hb6.size
            have HX : Hid _ := And.intro h6 (And.intro hb6 hM6)
            clear h6 hb6 hM6
            go_wp2_with (first | (at_builtin; refine wpList_append_own _ rfl _ _ 22 rfl w6.heap.size 5 i0 (.int .u8 0) 1 1 Try.underlying22 hi hz0 hz1 hz2 rfl (by decide) _ _ _ rfl (hown.alloc _) ⟨wr.heap.size, 0, none⟩ 1 1 [.int .u8 c] rfl rfl (cell_one_new _ _ _) (one_u8 _) hbe63 hbeby (by simp; omega) ?_) | go_in)
            intro v' w1 hown' hgrow _
            have HI' : Hid (Inv w 8 m (ex ++ [c]) _ v' w1) := HI.out.expo (by omega) (by omega) HX.out.1 HX.out.2.1 HX.out.2.2 hown hown' hgrow
            clear hown' hgrow hown
            go_wp2
            go_meet
            case rel => exact .inr ⟨8, g, m, il, ex ++ [c], HS, rfl, rfl, rfl, by omega, by omega, by have := HB.out; unfold Hid; simp; omega, HI'⟩
          · have HS : Hid _ := hS
            clear hS
            go_wp2_with go_in
            go_meet
            case rel => exact .inl ⟨HS, rfl, HI.out.1⟩
          · have HS : Hid _ := hS
            clear hS
            go_wp2_with go_in
            go_meet
            case rel => exact .inl ⟨HS, rfl, HI.out.1⟩
        · rcases st78 7 (.inl rfl) g m il ex c with ⟨q1, q2, hS⟩ | ⟨q1, hS⟩ | ⟨q1, q2, hS⟩
          · have HS : Hid _ := hS
            clear hS
            obtain ⟨w6, h6, hb6, hM6, hown⟩ := HI.out.high (by omega)
            have hbase6 : w6.heap.size ≤ wr.heap.size := hb6.size
            have HX : Hid _ := And.intro h6 (And.intro hb6 hM6)
            clear h6 hb6 hM6
            go_wp2_with (first | (at_builtin; refine wpList_append_own _ rfl _ _ 22 rfl w6.heap.size 5 i0 (.int .u8 0) 1 1 Try.underlying22 hi hz0 hz1 hz2 rfl (by decide) _ _ _ rfl (hown.alloc _) ⟨wr.heap.size, 0, none⟩ 1 1 [.int .u8 c] rfl rfl (cell_one_new _ _ _) (one_u8 _) hbe63 hbeby (by simp; omega) ?_) | go_in)
            intro v' w1 hown' hgrow _
            have HI' : Hid (Inv w 8 m (ex ++ [c]) _ v' w1) := HI.out.expo (by omega) (by omega) HX.out.1 HX.out.2.1 HX.out.2.2 hown hown' hgrow
            clear hown' hgrow hown
            go_wp2
            go_meet
            case rel => exact .inr ⟨8, g, m, il, ex ++ [c], HS, rfl, rfl, rfl, by omega, by omega, by have := HB.out; unfold Hid; simp; omega, HI'⟩
          · have HS : Hid _ := hS
            clear hS
            go_wp2_with go_in
            go_meet
            case rel => exact .inl ⟨HS, rfl, HI.out.1⟩
          · have HS : Hid _ := hS
            clear hS
            go_wp2_with go_in
            go_meet
            case rel => exact .inl ⟨HS, rfl, HI.out.1⟩
        · rcases st78 8 (.inr rfl) g m il ex c with ⟨q1, q2, hS⟩ | ⟨q1, hS⟩ | ⟨q1, q2, hS⟩
          · have HS : Hid _ := hS
            clear hS
            obtain ⟨w6, h6, hb6, hM6, hown⟩ := HI.out.high (by omega)
            have hbase6 : w6.heap.size ≤ wr.heap.size := hb6.size
            have HX : Hid _ := And.intro h6 (And.intro hb6 hM6)
            clear h6 hb6 hM6
            go_wp2_with (first | (at_builtin; refine wpList_append_own _ rfl _ _ 22 rfl w6.heap.size 5 i0 (.int .u8 0) 1 1 Try.underlying22 hi hz0 hz1 hz2 rfl (by decide) _ _ _ rfl (hown.alloc _) ⟨wr.heap.size, 0, none⟩ 1 1 [.int .u8 c] rfl rfl (cell_one_new _ _ _) (one_u8 _) hbe63 hbeby (by simp; omega) ?_) | go_in)
            intro v' w1 hown' hgrow _
            have HI' : Hid (Inv w 8 m (ex ++ [c]) _ v' w1) := HI.out.expo (by omega) (by omega) HX.out.1 HX.out.2.1 HX.out.2.2 hown hown' hgrow
            clear hown' hgrow hown
            go_wp2
            go_meet
            case rel => exact .inr ⟨8, g, m, il, ex ++ [c], HS, rfl, rfl, rfl, by omega, by omega, by have := HB.out; unfold Hid; simp; omega, HI'⟩
          · have HS : Hid _ := hS
            clear hS
            go_wp2_with go_in
            go_meet
            case rel => exact .inl ⟨HS, rfl, HI.out.1⟩
          · have HS : Hid _ := hS
            clear hS
            go_wp2_with go_in
            go_meet
            case rel => exact .inl ⟨HS, rfl, HI.out.1⟩
      case rest => 
        rcases hcut with ⟨HS, rfl, hB⟩ | ⟨s', g', m', il', ex', HS, rfl, rfl, rfl, hs', hil', HB', HI'⟩
        · have HF : Hid (acc 0 false [] 0 [] xs = none) := by rw [Hid, HA2.out, HS.out]; rfl
          have HBw : Hid _ := hB
          clear hB
          go_wp2
          exact bodyPost_ret (json_results rfl rfl rfl rfl rfl) rfl (failJ HF.out HBw.out)
        · have HA' : Hid (acc 0 false [] 0 [] xs = acc s' g' m' il' ex' (xs.drop (k + 1))) := by rw [Hid, HA2.out, HS.out]; rfl
          have hns : ¬ (s' : Int) < 0 := by omega
          clear HS HA2 HI HB
          go_wp2
          go_roundg (n - (k + 1))
          case measure => omega
          case rel => exact ⟨k + 1, s', il', g', m', ex', by omega, rfl, by go_num, rfl, rfl, rfl, hs', hil', HB', HA', HI'⟩

    · have hkn : k = n := by omega
      have HE : Hid (xs.drop k = []) := by rw [Hid, List.drop_of_length_le (by rw [HL.out]; omega)]
      have hcl : ¬ (k : Int) < (n : Int) := by omega
      have hml : m.length ≤ 2097152 ∧ ex.length ≤ 2097152 := by have := HB.out; omega
      obtain ⟨hml1, hml2⟩ := hml
      clear hkn hlt
      obtain rfl | rfl | rfl | rfl | rfl | rfl | rfl | rfl | rfl : s = 0 ∨ s = 1 ∨ s = 2 ∨ s = 3 ∨ s = 4 ∨ s = 5 ∨ s = 6 ∨ s = 7 ∨ s = 8 := by omega
      case inr.inr.inl =>
        have HF : Hid (acc 0 false [] 0 [] xs = some (g, m, il, ex)) := by rw [Hid, HA.out, HE.out]; rfl
        go_wp2
        exact bodyPost_ret (json_results rfl rfl rfl rfl rfl) rfl (okJ HF.out HI.out.1 (HI.out.out hml1 hml2))
      case inr.inr.inr.inl =>
        have HF : Hid (acc 0 false [] 0 [] xs = some (g, m, il, ex)) := by rw [Hid, HA.out, HE.out]; rfl
        go_wp2
        exact bodyPost_ret (json_results rfl rfl rfl rfl rfl) rfl (okJ HF.out HI.out.1 (HI.out.out hml1 hml2))
      case inr.inr.inr.inr.inr.inl =>
        have HF : Hid (acc 0 false [] 0 [] xs = some (g, m, il, ex)) := by rw [Hid, HA.out, HE.out]; rfl
        go_wp2
        exact bodyPost_ret (json_results rfl rfl rfl rfl rfl) rfl (okJ HF.out HI.out.1 (HI.out.out hml1 hml2))
      case inr.inr.inr.inr.inr.inr.inr.inr =>
        have HF : Hid (acc 0 false [] 0 [] xs = some (g, m, il, ex)) := by rw [Hid, HA.out, HE.out]; rfl
        go_wp2
        exact bodyPost_ret (json_results rfl rfl rfl rfl rfl) rfl (okJ HF.out HI.out.1 (HI.out.out hml1 hml2))
      all_goals
        have HF : Hid (acc 0 false [] 0 [] xs = none) := by rw [Hid, HA.out, HE.out]; rfl
        go_wp2
        exact bodyPost_ret (json_results rfl rfl rfl rfl rfl) rfl (failJ HF.out HI.out.1)

end Go.Proofs.Qxb6619243a
