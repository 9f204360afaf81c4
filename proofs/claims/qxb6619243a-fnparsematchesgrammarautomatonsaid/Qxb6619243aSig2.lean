/-
  WALKS: ZZParts (28), ZZSignificant (14), joinBytes (13).
-/
import Derived.Test.Qxb6619243aSig1
namespace Go.Proofs.Qxb6619243a
open Go.RowKit

/-! ### ZZParts -/
set_option maxHeartbeats 1000000 in
theorem zzParts_any (g : Bool) (a1 : Option Addr) (n1 c1 : Nat) (a2 : Option Addr) (n2 c2 : Nat) (p : Int) (a3 : Option Addr) (n3 c3 : Nat) (w : World) :
    Calls Try.prog 28 #[.agg #[.bool g, .slice a1 n1 c1, .slice a2 n2 c2, .int .i64 p, .slice a3 n3 c3]] w fun e w' =>
      e = .returned (.tuple #[.bool g, .slice a1 n1 c1, .slice a2 n2 c2, .int .i64 p, .slice a3 n3 c3]) ∧ Below w.heap.size w w' := by
  go_enter Try.func28, Try.ntmps28
  go_wp2
  go_quiet (fail)
  go_wp2
  refine bodyPost_ret (v := .tuple #[.bool g, .slice a1 n1 c1, .slice a2 n2 c2, .int .i64 p, .slice a3 n3 c3]) (by simp [results, Try.results28, go_sem]) rfl ⟨rfl, ?_⟩
  exact below_drewN ((Below.refl _ _).alloc (Nat.le_refl _) _) _

/-! ### ZZSignificant -/
theorem box5 {w w1 : World} {v0 v1 v2 v3 v4 : Value} {t : TypeId} (hb : Below (w.heap.size + 1) (w.alloc (.cells #[v0, v1, v2, v3, v4] t)) w1) :
    (w1.cell? ⟨w.heap.size, 0, none⟩ = some v0 ∧ w1.cell? ⟨w.heap.size, 1, none⟩ = some v1 ∧ w1.cell? ⟨w.heap.size, 2, none⟩ = some v2 ∧ w1.cell? ⟨w.heap.size, 3, none⟩ = some v3 ∧ w1.cell? ⟨w.heap.size, 4, none⟩ = some v4) ∧
    (∀ j, w1.frozen? ⟨w.heap.size, j, none⟩ = false) ∧ w.heap.size < w1.heap.size := by
  refine ⟨⟨?_, ?_, ?_, ?_, ?_⟩, fun j => ?_, ?_⟩
  · rw [hb.cell (p := ⟨w.heap.size, 0, none⟩) (by simp)]; simp
  · rw [hb.cell (p := ⟨w.heap.size, 1, none⟩) (by simp)]; simp
  · rw [hb.cell (p := ⟨w.heap.size, 2, none⟩) (by simp)]; simp
  · rw [hb.cell (p := ⟨w.heap.size, 3, none⟩) (by simp)]; simp
  · rw [hb.cell (p := ⟨w.heap.size, 4, none⟩) (by simp)]; simp
  · rw [hb.frozen (p := ⟨w.heap.size, j, none⟩) (by simp)]; simp
  · have := hb.size; simp at this; omega

set_option maxHeartbeats 1000000 in
theorem zzSignificant_any (neg : Bool) (aI : Option Addr) (nI cI : Nat) (I : List Int) (aF : Option Addr) (nF cF : Nat) (F : List Int) (aE : Option Addr) (nE cE : Nat) (E : List Int) (w : World)
    (hI : Row w aI nI cI I) (hF : Row w aF nF cF F) (hE : Row w aE nE cE E) (hT : Qdec.isExpT E = true) :
    Calls Try.prog 14 #[.bool neg, .slice aI nI cI, .slice aF nF cF, .slice aE nE cE] w fun e w' => ∃ v, e = .returned v ∧ IsNum w v (sigOf neg I F E) ∧ Below w.heap.size w w' := by
  have HI : Hid (Row w aI nI cI I) := hI
  have HF : Hid (Row w aF nF cF F) := hF
  have HE : Hid (Row w aE nE cE E) := hE
  have HT : Hid (Qdec.isExpT E = true) := hT
  clear hI hF hE hT
  go_enter Try.func14, Try.ntmps14
  go_wp2_with fail
  refine (significant_any neg aI nI cI I aF nF cF F aE nE cE E w _ ((Below.refl _ _).alloc (Nat.le_refl _) _) HI.out HF.out HE.out HT.out).mono ?_
  rintro e w1 ⟨v, rfl, ⟨a1, n1, c1, a2, n2, c2, a3, n3, c3, rfl, h1, h2, h3⟩, hB⟩
  have hB' : Below (w.heap.size + 1) (w.alloc (.cells #[.bool false, .slice none 0 0, .slice none 0 0, .int .i64 0, .slice none 0 0] 28)) w1 := by simpa using hB
  obtain ⟨⟨q0, q1, q2, q3, q4⟩, qf, qs⟩ := box5 hB'
  have HN : Hid (Row w a1 n1 c1 _ ∧ Row w a2 n2 c2 _ ∧ IsBig w a3 n3 c3 _) := ⟨h1, h2, h3⟩
  have HB : Hid (Below w.heap.size w w1) := ((Below.refl w.heap.size w).alloc (Nat.le_refl _) _).trans (hB'.mono (by omega))
  clear h1 h2 h3 hB hB'
  go_wp2
  refine bodyPost_ret (v := .agg #[.bool (sigOf neg I F E).neg, .slice a1 n1 c1, .slice a2 n2 c2, .int .i64 (sigOf neg I F E).point, .slice a3 n3 c3]) (by simp [results, Try.results14, go_sem, q0, q1, q2, q3, q4]) rfl ⟨_, rfl, ⟨a1, n1, c1, a2, n2, c2, a3, n3, c3, rfl, HN.out.1, HN.out.2.1, HN.out.2.2⟩, ?_⟩
  exact ((((HB.out.setCell (p := ⟨w.heap.size, 0, none⟩) (Nat.le_refl _) _).setCell (p := ⟨w.heap.size, 1, none⟩) (Nat.le_refl _) _).setCell (p := ⟨w.heap.size, 2, none⟩) (Nat.le_refl _) _).setCell (p := ⟨w.heap.size, 3, none⟩) (Nat.le_refl _) _).setCell (p := ⟨w.heap.size, 4, none⟩) (Nat.le_refl _) _

/-! ### joinBytes -/
theorem getD_append_lt (xs ys : List Int) (k : Nat) (h : k < xs.length) : (xs ++ ys).getD k 0 = xs.getD k 0 := by
  simp [List.getElem?_append_left h]
theorem getD_append_ge (xs ys : List Int) (k : Nat) : (xs ++ ys).getD (xs.length + k) 0 = ys.getD k 0 := by
  rw [List.getD_eq_getElem?_getD, List.getElem?_append_right (by omega), Nat.add_sub_cancel_left]
  rfl
theorem append_byte {xs ys : List Int} (h : ∀ i, 0 ≤ xs.getD i 0 ∧ xs.getD i 0 ≤ 255) (h' : ∀ i, 0 ≤ ys.getD i 0 ∧ ys.getD i 0 ≤ 255) : ∀ i, 0 ≤ (xs ++ ys).getD i 0 ∧ (xs ++ ys).getD i 0 ≤ 255 := by
  intro i
  by_cases hi : i < xs.length
  · rw [getD_append_lt _ _ _ hi]; exact h i
  · obtain ⟨j, rfl⟩ : ∃ j, i = xs.length + j := ⟨i - xs.length, by omega⟩
    rw [getD_append_ge]; exact h' j

set_option maxHeartbeats 1000000 in
theorem joinBytes_any (a : Option Addr) (n cap : Nat) (xs : List Int) (a' : Option Addr) (n' cap' : Nat) (ys : List Int) (w : World) (hr : Row w a n cap xs) (hr' : Row w a' n' cap' ys) (hs : n + n' ≤ 2097152) :
    Calls Try.prog 13 #[.slice a n cap, .slice a' n' cap'] w fun e w' => ∃ a2, e = .returned (.slice a2 (n + n') (n + n')) ∧ Row w' a2 (n + n') (n + n') (xs ++ ys) ∧ Below w.heap.size w w' := by
  have HR : Hid (Row w a n cap xs) := hr
  have HR' : Hid (Row w a' n' cap' ys) := hr'
  obtain ⟨i0, hi, hz0, hz1, hz2⟩ := info_parts info5
  clear hr hr'
  go_enter Try.func13, Try.ntmps13
  go_wp2_with (at_make; refine wpList_make_full _ rfl _ _ 22 rfl w.heap.size 5 i0 (.int .u8 0) 1 Try.underlying22 hi hz0 hz1 _ _ _ _ (n + n') rfl rfl (by omega) (by omega) ?c1 ?c2 ?c3 ?_)
  case c1 => rw [hz2]; omega
  case c2 => unfold maxLen; omega
  case c3 => exact Nat.le_refl _
  intro w1 hown hgrow
  have hF : Hid (Filled w1 w.heap.size w.heap.size (n + n') (xs ++ ys) 0) := ⟨_, hown, fun i hi => by omega⟩
  have hB : Hid (Below w.heap.size w w1) := (Below.refl _ _).grown hgrow (Nat.le_refl _) (fun k hk => by simp at hk)
  clear hown hgrow hi hz0 hz1 hz2
  go_wp2
  go_loopw [6] (fun i wr => ∃ k : Nat, k ≤ n ∧ i = .int .i64 k ∧ Hid (Filled wr w.heap.size w.heap.size (n + n') (xs ++ ys) k) ∧ Hid (Below w.heap.size w wr)) (fun i _ => n - (intOf i).toNat)
  case atStart => exact ⟨0, Nat.zero_le _, rfl, hF, hB⟩
  case round =>
    obtain ⟨k, hk, rfl, hFr, hBr⟩ := hrel
    clear hF hB
    by_cases hlt : k < n
    · obtain ⟨b, off, rfl, hc⟩ := HR.out.cells (by omega)
      have hck := hc k hlt
      have hblt := cell_lt hck
      rw [← hBr.out.cell hblt] at hck
      clear hc hblt
      obtain ⟨v0, hv0⟩ := hFr.out.cell k (by omega)
      have hfz := hFr.out.free k
      have hnn : (k : Int) < (n : Int) + (n' : Int) := by omega
      have R : Hid (Filled (wr.setCell ⟨w.heap.size, k, none⟩ (.int .u8 (xs.getD k 0))) w.heap.size w.heap.size (n + n') (xs ++ ys) (k + 1)) := by
        have := hFr.out.set (by omega)
        rwa [getD_append_lt _ _ _ (by rw [HR.out.len]; exact hlt)] at this
      have RB : Hid (Below w.heap.size w (wr.setCell ⟨w.heap.size, k, none⟩ (.int .u8 (xs.getD k 0)))) := hBr.out.setCell (p := ⟨w.heap.size, k, none⟩) (Nat.le_refl _) _
      generalize xs.getD k 0 = c at hck R RB
      clear hFr hBr
      go_wp2
      go_roundw
      case rel => exact ⟨k + 1, by omega, by go_num, R, RB⟩
      case measure => simp [intOf]; omega
    · have hkn : k = n := by omega
      subst hkn
      clear hlt hk
      go_wp2
      go_loopw [7] (fun i wr => ∃ j : Nat, j ≤ n' ∧ i = .int .i64 j ∧ Hid (Filled wr w.heap.size w.heap.size (k + n') (xs ++ ys) (k + j)) ∧ Hid (Below w.heap.size w wr)) (fun i _ => n' - (intOf i).toNat)
      case atStart => exact ⟨0, Nat.zero_le _, rfl, hFr, hBr⟩
      case round =>
        obtain ⟨j, hj, rfl, hFq, hBq⟩ := hrel
        clear hFr hBr
        by_cases hlt : j < n'
        · obtain ⟨b, off, rfl, hc⟩ := HR'.out.cells (by omega)
          have hck := hc j hlt
          have hblt := cell_lt hck
          rw [← hBq.out.cell hblt] at hck
          clear hc hblt
          obtain ⟨v0, hv0⟩ := hFq.out.cell (k + j) (by omega)
          have hfz := hFq.out.free (k + j)
          have R : Hid (Filled (wr.setCell ⟨w.heap.size, k + j, none⟩ (.int .u8 (ys.getD j 0))) w.heap.size w.heap.size (k + n') (xs ++ ys) (k + (j + 1))) := by
            have := hFq.out.set (by omega)
            have e := getD_append_ge xs ys j
            rw [HR.out.len] at e
            rwa [e] at this
          have RB : Hid (Below w.heap.size w (wr.setCell ⟨w.heap.size, k + j, none⟩ (.int .u8 (ys.getD j 0)))) := hBq.out.setCell (p := ⟨w.heap.size, k + j, none⟩) (Nat.le_refl _) _
          generalize ys.getD j 0 = c at hck R RB
          clear hFq hBq
          go_wp2
          go_roundw
          case rel => exact ⟨j + 1, by omega, by go_num, R, RB⟩
          case measure => simp [intOf]; omega
        · have hjn : j = n' := by omega
          subst hjn
          go_wp2
          go_ret
          exact ⟨_, rfl, hFq.out.row (by have := HR.out.len; have := HR'.out.len; simp; omega) hs (append_byte HR.out.byte HR'.out.byte), hBq.out⟩

end Go.Proofs.Qxb6619243a
