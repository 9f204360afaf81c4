/-
  THE PROGRAM's OWN BOUNDS: zzBytes (11, 14), schemesTooBig (12).
-/
import Derived.Test.Qxb6619379aBase
namespace Go.Proofs.Qxb6619379a
open Go.RowKit

theorem ret_false {w : World} {P : Prop} : ∃ b, Ending.returned (.bool false) = .returned (.bool b) ∧ w = w ∧ (b = true → P) := ⟨false, rfl, rfl, fun h => by cases h⟩

/-! ### schemesTooBig -/
def TooPost (w : World) (n : Nat) (e : Ending) (w' : World) : Prop := ∃ b, e = .returned (.bool b) ∧ w' = w ∧ (b = false → n ≤ 65536)
theorem too_true (w : World) (n : Nat) : TooPost w n (.returned (.bool true)) w := ⟨true, rfl, rfl, fun h => by cases h⟩
theorem too_false (w : World) (n : Nat) (h : n ≤ 65536) : TooPost w n (.returned (.bool false)) w := ⟨false, rfl, rfl, fun _ => h⟩

set_option maxHeartbeats 1000000 in
theorem tooBig_any (a : Option Addr) (n cap : Nat) (ss : List ByteArray) (o : Int) (w : World) (hr : RowS w a n cap ss) (ho : 0 ≤ o ∧ o ≤ 1048576) (hs : ∀ i, (ss.getD i ByteArray.empty).size ≤ 1048576) :
    Calls Try.prog 12 #[.slice a n cap, .int .i64 o] w fun e w' => TooPost w n e w' := by
  have hbd := hr.bd
  have HR : Hid (RowS w a n cap ss) := hr
  have HS : Hid (∀ i, (ss.getD i ByteArray.empty).size ≤ 1048576) := hs
  obtain ⟨ho1, ho2⟩ := ho
  clear hr hs
  by_cases hn : n ≤ 65536
  · by_cases ht : o + 16 * (n : Int) ≤ 1048576
    · have hd1 : decide ((65536 : Int) < (n : Int)) = false := by simp; omega
      have hd2 : decide ((1048576 : Int) < o + 16 * (n : Int)) = false := by simp; omega
      go_enter Try.func12, Try.ntmps12
      go_wp2
      go_loop [5, 6] (fun t i => ∃ (k : Nat) (z : Int), k ≤ n ∧ 0 ≤ z ∧ z ≤ 1048576 ∧ i = .int .i64 k ∧ t = .int .i64 z) (fun _ i => n - (intOf i).toNat)
      case atStart => exact ⟨0, _, Nat.zero_le _, by omega, ht, rfl, rfl⟩
      case round =>
        obtain ⟨k, z, hk, hz1, hz2, rfl, rfl⟩ := hrel
        by_cases hlt : k < n
        · obtain ⟨b, off, rfl, hc⟩ := HR.out.cells (by omega)
          have hck := hc k hlt
          have hsk := HS.out k
          generalize ss.getD k ByteArray.empty = c at hck hsk
          clear hc
          by_cases hz : z + (c.size : Int) ≤ 1048576
          · go_wp2
            go_round
            case rel => exact ⟨k + 1, z + (c.size : Int), by omega, by omega, hz, by go_num, rfl⟩
            case measure => simp [intOf]; omega
          · go_wp2
            go_ret
            exact too_true _ _
        · go_wp2
          go_ret
          exact too_false _ _ hn
    · go_enter Try.func12, Try.ntmps12
      go_wp2
      go_ret
      exact too_true _ _
  · go_enter Try.func12, Try.ntmps12
    go_wp2
    go_ret
    exact too_true _ _

/-! ### zzBytes of the first law -/
def ZPost (w : World) (ss : List ByteArray) (ts : List ByteArray) (e : Ending) (w' : World) : Prop :=
  ∃ b, e = .returned (.bool b) ∧ w' = w ∧ (b = true → (∀ i, (ss.getD i ByteArray.empty).size ≤ 1048576) ∧ ∀ t ∈ ts, t.size ≤ 1048576)
theorem z_false (w : World) (ss ts : List ByteArray) : ZPost w ss ts (.returned (.bool false)) w := ⟨false, rfl, rfl, fun h => by cases h⟩
theorem z_true (w : World) (ss ts : List ByteArray) (n : Nat) (hn : ss.length = n) (h : ∀ i, i < n → (ss.getD i ByteArray.empty).size ≤ 1048576) (h2 : ∀ t ∈ ts, t.size ≤ 1048576) : ZPost w ss ts (.returned (.bool true)) w := by
  refine ⟨true, rfl, rfl, fun _ => ⟨fun i => ?_, h2⟩⟩
  by_cases hi : i < n
  · exact h i hi
  · rw [List.getD_eq_getElem?_getD, List.getElem?_eq_none (by omega)]
    simp

set_option maxHeartbeats 4000000 in
theorem zz11 (a : Option Addr) (n cap : Nat) (ss : List ByteArray) (q : Bool) (sh sc : ByteArray) (kk : Int) (w : World) (hn : n ≤ 1048576) (hr : RowS w a n cap ss) (hs : ∀ i, (ss.getD i ByteArray.empty).size ≤ maxLen) (hsh : sh.size ≤ maxLen) (hsc : sc.size ≤ maxLen) :
    Calls Try.prog 11 #[.slice a n cap, .bool q, .string sh, .string sc, .int .i64 kk] w fun e w' => ZPost w ss [sh, sc] e w' := by
  have HR : Hid (RowS w a n cap ss) := hr
  have HS : Hid (∀ i, (ss.getD i ByteArray.empty).size ≤ maxLen) := hs
  unfold maxLen at hsh hsc
  clear hr hs
  have hd1 : decide ((1048576 : Int) < (n : Int)) = false := by simp; omega
  go_enter Try.func11, Try.ntmps11
  go_wp2
  go_loop [11, 12] (fun t i => ∃ (k : Nat) (z : Int), k ≤ n ∧ 0 ≤ z ∧ z ≤ 1048576 ∧ i = .int .i64 k ∧ t = .int .i64 z ∧ Hid (∀ i, i < k → (ss.getD i ByteArray.empty).size ≤ 1048576)) (fun _ i => n - (intOf i).toNat)
  case atStart => exact ⟨0, _, Nat.zero_le _, by omega, by omega, rfl, rfl, fun i hi => by omega⟩
  case round =>
    obtain ⟨k, z, hk, hz1, hz2, rfl, rfl, hall⟩ := hrel
    by_cases hlt : k < n
    · obtain ⟨b, off, rfl, hc⟩ := HR.out.cells (by omega)
      have hck := hc k hlt
      have hsk := HS.out k
      unfold maxLen at hsk
      generalize hg : ss.getD k ByteArray.empty = c at hck hsk
      have HG : Hid (ss.getD k ByteArray.empty = c) := hg
      clear hc hg
      by_cases h1 : c.size ≤ 1048576
      · by_cases hz : z + (c.size : Int) ≤ 1048576
        · go_wp2
          go_round
          case rel =>
            refine ⟨k + 1, z + (c.size : Int), by omega, by omega, hz, by go_num, rfl, fun i hi => ?_⟩
            by_cases e : i = k
            · subst e; rw [HG.out]; exact h1
            · exact hall.out i (by omega)
          case measure => simp [intOf]; omega
        · go_wp2
          go_ret
          exact z_false _ _ _
      · go_wp2
        go_ret
        exact z_false _ _ _
    · by_cases h1 : sh.size ≤ 1048576
      · by_cases hz : z + (sh.size : Int) ≤ 1048576
        · by_cases h2 : sc.size ≤ 1048576
          · by_cases hz3 : z + (sh.size : Int) + (sc.size : Int) ≤ 1048576
            · go_wp2
              go_ret
              exact z_true _ _ _ k (by have := HR.out.len; omega) hall.out (by simp; exact ⟨h1, h2⟩)
            · go_wp2
              go_ret
              exact z_false _ _ _
          · go_wp2
            go_ret
            exact z_false _ _ _
        · go_wp2
          go_ret
          exact z_false _ _ _
      · go_wp2
        go_ret
        exact z_false _ _ _
set_option maxHeartbeats 1000000 in
theorem zz11' (a : Option Addr) (n cap : Nat) (q : Bool) (sh sc : ByteArray) (kk : Int) (w : World) (hn : ¬ n ≤ 1048576) (hm : n ≤ maxLen) :
    Calls Try.prog 11 #[.slice a n cap, .bool q, .string sh, .string sc, .int .i64 kk] w fun e w' => e = .returned (.bool false) ∧ w' = w := by
  unfold maxLen at hm
  go_enter Try.func11, Try.ntmps11
  go_wp2
  go_ret
  exact ⟨rfl, rfl⟩

set_option maxHeartbeats 8000000 in
set_option maxRecDepth 100000 in
theorem zz14 (a : Option Addr) (n cap : Nat) (ss : List ByteArray) (q : Bool) (sh sc el : ByteArray) (kk : Int) (q2 : Bool) (sh2 : ByteArray) (w : World) (hn : n ≤ 1048576) (hr : RowS w a n cap ss) (hs : ∀ i, (ss.getD i ByteArray.empty).size ≤ maxLen) (hsh : sh.size ≤ maxLen) (hsc : sc.size ≤ maxLen) (hel : el.size ≤ maxLen) (hsh2 : sh2.size ≤ maxLen) :
    Calls Try.prog 14 #[.slice a n cap, .bool q, .string sh, .string sc, .string el, .int .i64 kk, .bool q2, .string sh2] w fun e w' => ZPost w ss [sh, sc, el, sh2] e w' := by
  have HR : Hid (RowS w a n cap ss) := hr
  have HS : Hid (∀ i, (ss.getD i ByteArray.empty).size ≤ maxLen) := hs
  unfold maxLen at hsh hsc hel hsh2
  clear hr hs
  have hd1 : decide ((1048576 : Int) < (n : Int)) = false := by simp; omega
  go_enter Try.func14, Try.ntmps14
  go_wp2
  go_loop [17, 18] (fun t i => ∃ (k : Nat) (z : Int), k ≤ n ∧ 0 ≤ z ∧ z ≤ 1048576 ∧ i = .int .i64 k ∧ t = .int .i64 z ∧ Hid (∀ i, i < k → (ss.getD i ByteArray.empty).size ≤ 1048576)) (fun _ i => n - (intOf i).toNat)
  case atStart => exact ⟨0, _, Nat.zero_le _, by omega, by omega, rfl, rfl, fun i hi => by omega⟩
  case round =>
    obtain ⟨k, z, hk, hz1, hz2, rfl, rfl, hall⟩ := hrel
    by_cases hlt : k < n
    · obtain ⟨b, off, rfl, hc⟩ := HR.out.cells (by omega)
      have hck := hc k hlt
      have hsk := HS.out k
      unfold maxLen at hsk
      generalize hg : ss.getD k ByteArray.empty = c at hck hsk
      have HG : Hid (ss.getD k ByteArray.empty = c) := hg
      clear hc hg
      by_cases h1 : c.size ≤ 1048576
      · by_cases hz : z + (c.size : Int) ≤ 1048576
        · go_wp2
          go_round
          case rel =>
            refine ⟨k + 1, z + (c.size : Int), by omega, by omega, hz, by go_num, rfl, fun i hi => ?_⟩
            by_cases e : i = k
            · subst e; rw [HG.out]; exact h1
            · exact hall.out i (by omega)
          case measure => simp [intOf]; omega
        · go_wp2
          go_ret
          exact z_false _ _ _
      · go_wp2
        go_ret
        exact z_false _ _ _
    · by_cases h1 : sh.size ≤ 1048576
      case neg =>
        go_wp2
        go_ret
        exact z_false _ _ _
      by_cases hz : z + (sh.size : Int) ≤ 1048576
      case neg =>
        go_wp2
        go_ret
        exact z_false _ _ _
      by_cases h2 : sc.size ≤ 1048576
      case neg =>
        go_wp2
        go_ret
        exact z_false _ _ _
      by_cases hz3 : z + (sh.size : Int) + (sc.size : Int) ≤ 1048576
      case neg =>
        go_wp2
        go_ret
        exact z_false _ _ _
      by_cases h3 : el.size ≤ 1048576
      case neg =>
        go_wp2
        go_ret
        exact z_false _ _ _
      by_cases hz4 : z + (sh.size : Int) + (sc.size : Int) + (el.size : Int) ≤ 1048576
      case neg =>
        go_wp2
        go_ret
        exact z_false _ _ _
      by_cases h4 : sh2.size ≤ 1048576
      case neg =>
        go_wp2
        go_ret
        exact z_false _ _ _
      by_cases hz5 : z + (sh.size : Int) + (sc.size : Int) + (el.size : Int) + (sh2.size : Int) ≤ 1048576
      case neg =>
        go_wp2
        go_ret
        exact z_false _ _ _
      go_wp2
      go_ret
      exact z_true _ _ _ k (by have := HR.out.len; omega) hall.out (by simp; exact ⟨h1, h2, h3, h4⟩)
set_option maxHeartbeats 1000000 in
theorem zz14' (a : Option Addr) (n cap : Nat) (q : Bool) (sh sc el : ByteArray) (kk : Int) (q2 : Bool) (sh2 : ByteArray) (w : World) (hn : ¬ n ≤ 1048576) (hm : n ≤ maxLen) :
    Calls Try.prog 14 #[.slice a n cap, .bool q, .string sh, .string sc, .string el, .int .i64 kk, .bool q2, .string sh2] w fun e w' => e = .returned (.bool false) ∧ w' = w := by
  unfold maxLen at hm
  go_enter Try.func14, Try.ntmps14
  go_wp2
  go_ret
  exact ⟨rfl, rfl⟩

end Go.Proofs.Qxb6619379a
