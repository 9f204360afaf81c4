/-
  FnTakesSchemeCutAndInsert (4).
-/
import Derived.Test.Qxb6619379aBounds
namespace Go.Proofs.Qxb6619379a
open Go.RowKit

theorem info9 : (Try.prog.info? 9).map (fun i => (i.zero, i.size, i.bytes)) = some (some (.string ByteArray.empty), 1, 16) := by kernel_rfl
theorem size9 : (Try.prog.info? 9).map (·.size) = some 1 := by kernel_rfl

/-- an owned row of n strings, the first k of which are those of L -/
structure FilledS (w : World) (B g n : Nat) (L : List ByteArray) (k : Nat) : Prop where
  own : ∃ X : List Value, w.ownsRow B 9 1 (.slice (some ⟨g, 0, none⟩) n n) n X ∧ ∀ i, i < k → X[i]? = some (.string (L.getD i ByteArray.empty))
theorem FilledS.cell {w : World} {B g n k : Nat} {L : List ByteArray} (h : FilledS w B g n L k) (j : Nat) (hj : j < n) : ∃ v, w.cell? ⟨g, j, none⟩ = some v := by
  obtain ⟨X, h1, _⟩ := h.own
  rw [h1.cellAt j (by omega)]
  have := h1.1
  exact ⟨X[j]'(by omega), by simp⟩
theorem FilledS.free {w : World} {B g n k : Nat} {L : List ByteArray} (h : FilledS w B g n L k) (j : Nat) : w.frozen? ⟨g, j, none⟩ = false := by
  obtain ⟨X, h1, _⟩ := h.own
  exact h1.frozenAt j
theorem FilledS.set {w : World} {B g n k : Nat} {L : List ByteArray} (h : FilledS w B g n L k) (hk : k < n) : FilledS (w.setCell ⟨g, k, none⟩ (.string (L.getD k ByteArray.empty))) B g n L (k + 1) := by
  obtain ⟨X, h1, h2⟩ := h.own
  refine ⟨X.set k (.string (L.getD k ByteArray.empty)), (h1.stored k _).1, fun i hi => ?_⟩
  have := h1.1
  rw [List.getElem?_set]
  by_cases e : k = i
  · subst e; rw [if_pos rfl, if_pos (by omega)]
  · rw [if_neg e]; exact h2 i (by omega)
theorem FilledS.lt {w : World} {B g n k : Nat} {L : List ByteArray} (h : FilledS w B g n L k) : B ≤ g ∧ g < w.heap.size := by
  obtain ⟨X, h1, _⟩ := h.own
  exact h1.lt g rfl
theorem FilledS.row {w : World} {B g n : Nat} {L : List ByteArray} (h : FilledS w B g n L n) (hn : L.length = n) (hbd : n ≤ 2097152) : RowS w (some ⟨g, 0, none⟩) n n L := by
  obtain ⟨X, h1, h2⟩ := h.own
  refine ⟨hn, Nat.le_refl _, by unfold maxLen; omega, hbd, fun _ => ⟨g, 0, rfl, fun i hi => ?_⟩⟩
  rw [Nat.zero_add, h1.cellAt i (by omega), h2 i hi]
/-- the block of an owned full row -/
theorem own_block {w : World} {B g n : Nat} {X : List Value} (h : w.ownsRow B 9 1 (.slice (some ⟨g, 0, none⟩) n n) n X) : w.heap[g]? = some (.cells X.toArray 9 (0, 0)) := by
  rcases h.2 with ⟨h', _⟩ | ⟨g', cap', cur, h', _, hg, _, _, hsz, htake⟩
  · simp at h'
  · simp only [Value.slice.injEq, Option.some.injEq, Addr.mk.injEq, and_true, true_and] at h'
    obtain ⟨rfl, rfl⟩ := h'
    rw [hg]
    have e : cur.toList = X := by rw [← htake, List.take_of_length_le (by simp; omega)]
    rw [← e]
theorem rowS_block {w : World} {g n : Nat} {L : List ByteArray} (h : w.heap[g]? = some (.cells (L.map Value.string).toArray 9 (0, 0))) (hn : L.length = n) (hbd : n ≤ 2097152) : RowS w (some ⟨g, 0, none⟩) n n L := by
  refine ⟨hn, Nat.le_refl _, by unfold maxLen; omega, hbd, fun _ => ⟨g, 0, rfl, fun i hi => ?_⟩⟩
  have hi' : i < L.length := by omega
  simp [World.cell?, h, hi']

/-- what is put in at k -/
def insAt (ss : List ByteArray) (k : Nat) (e : ByteArray) : List ByteArray := ss.take k ++ e :: ss.drop k
theorem insAt_len (ss : List ByteArray) (k : Nat) (e : ByteArray) (hk : k ≤ ss.length) : (insAt ss k e).length = ss.length + 1 := by
  unfold insAt; simp; omega
theorem insAt_lt (ss : List ByteArray) (k : Nat) (e : ByteArray) (i : Nat) (hi : i < k) (hk : k ≤ ss.length) : (insAt ss k e).getD i ByteArray.empty = ss.getD i ByteArray.empty := by
  unfold insAt
  rw [List.getD_eq_getElem?_getD, List.getElem?_append_left (by simp; omega)]
  simp [hi]
theorem insAt_at (ss : List ByteArray) (k : Nat) (e : ByteArray) (hk : k ≤ ss.length) : (insAt ss k e).getD k ByteArray.empty = e := by
  unfold insAt
  rw [List.getD_eq_getElem?_getD, List.getElem?_append_right (by simp; omega)]
  have : k - (ss.take k).length = 0 := by simp; omega
  rw [this]; rfl
theorem insAt_gt (ss : List ByteArray) (k : Nat) (e : ByteArray) (i : Nat) (hi : k ≤ i) (hk : k ≤ ss.length) : (insAt ss k e).getD (i + 1) ByteArray.empty = ss.getD i ByteArray.empty := by
  unfold insAt
  rw [List.getD_eq_getElem?_getD, List.getElem?_append_right (by simp; omega)]
  have : i + 1 - (ss.take k).length = (i - k) + 1 := by simp; omega
  rw [this]
  simp
  congr 2
  omega
theorem takesB_split (ss : List ByteArray) (k : Nat) (sc : ByteArray) : takesB ss sc = (takesB (ss.take k) sc || takesB (ss.drop k) sc) := by
  unfold takesB
  rw [← List.any_append, List.take_append_drop]
theorem takesB_ins (ss : List ByteArray) (k : Nat) (e sc : ByteArray) : takesB (insAt ss k e) sc = ((e.toList == sc.toList) || takesB ss sc) := by
  rw [takesB_split ss k sc]
  unfold takesB insAt
  rw [List.any_append, List.any_cons]
  cases (ss.take k).any (fun c => c.toList == sc.toList) <;> cases (e.toList == sc.toList) <;> simp

set_option maxHeartbeats 4000000 in
set_option maxRecDepth 100000 in
theorem law4 (a : Option Addr) (n cap : Nat) (ss : List ByteArray) (q : Bool) (sh sc : ByteArray) (k : Nat) (w : World) (hn : n ≤ 1048576) (hk : k ≤ n) (hr : RowS w a n cap ss)
    (hnc : a = none → cap = 0) (hs : ∀ i, (ss.getD i ByteArray.empty).size ≤ maxLen) (hsh0 : sh.size ≤ maxLen) (hsc0 : sc.size ≤ maxLen) :
    Calls Try.prog 4 #[.slice a n cap, .bool q, .string sh, .string sc, .int .i64 k] w fun e w' => e = .returned (.bool true) ∧ Below w.heap.size w w' := by
  have hnnil := fun (w : World) (a : Option Addr) (n c : Nat) => run_neq_slice_nil_any (P := Try.prog) w 28 9 a n c 0 0 Try.underlying28
  have HR : Hid (RowS w a n cap ss) := hr
  have HL : Hid (ss.length = n) := hr.len
  have HS0 : Hid (∀ i, (ss.getD i ByteArray.empty).size ≤ maxLen) := hs
  have HX : Hid (sh.size ≤ maxLen ∧ sc.size ≤ maxLen) := ⟨hsh0, hsc0⟩
  have HNC : Hid (a = none → cap = 0) := hnc
  clear hr hs hsh0 hsc0 hnc
  obtain ⟨i0, hi, hz0, hz1, hz2⟩ := info_parts info9
  have hk0 : decide ((k : Int) < 0) = false := by simp
  have hk1 : decide ((n : Int) < (k : Int)) = false := by simp; omega
  go_enter Try.func4, Try.ntmps4
  go_wp2_with fail
  refine (zz11 a n cap ss q sh sc _ _ hn HR.out HS0.out HX.out.1 HX.out.2).mono ?_
  rintro e w0 ⟨b, rfl, rfl, hb⟩
  cases b with
  | false =>
    clear hb
    go_wp2
    go_ret
    exact ⟨rfl, Below.refl _ _⟩
  | true =>
  have HSM := hb rfl
  clear hb
  have HS : Hid (∀ i, (ss.getD i ByteArray.empty).size ≤ 1048576) := HSM.1
  have hsh1 : sh.size ≤ 1048576 := HSM.2 sh (by simp)
  have hsc1 : sc.size ≤ 1048576 := HSM.2 sc (by simp)
  clear HSM HS0 HX
  by_cases hsh : sh.size ≤ 262144
  case neg =>
    have hd1 : decide ((262144 : Int) < (sh.size : Int)) = true := by simp; omega
    go_wp2
    go_ret
    exact ⟨rfl, Below.refl _ _⟩
  by_cases hsc : sc.size ≤ 262144
  case neg =>
    have hd1 : decide ((262144 : Int) < (sh.size : Int)) = false := by simp; omega
    have hd2 : decide ((262144 : Int) < (sc.size : Int)) = true := by simp; omega
    go_wp2
    go_ret
    exact ⟨rfl, Below.refl _ _⟩
  have hd1 : decide ((262144 : Int) < (sh.size : Int)) = false := by simp; omega
  have hd2 : decide ((262144 : Int) < (sc.size : Int)) = false := by simp; omega
  go_wp2_with fail
  refine (tooBig_any a n cap ss _ _ HR.out ⟨by omega, by omega⟩ HS.out).mono ?_
  rintro e w0 ⟨b, rfl, rfl, hb⟩
  cases b with
  | true =>
    clear hb
    go_wp2
    go_ret
    exact ⟨rfl, Below.refl _ _⟩
  | false =>
  have hn2 : n ≤ 65536 := hb rfl
  clear hb HS
  go_upto_if 49 with fail
  go_cut [0] (fun t wc => ∃ a1, t = .slice a1 n n ∧ Hid (RowS wc a1 n n ss) ∧ Hid (Below w0.heap.size w0 wc))
  case first =>
    cases a with
    | none =>
      have hn0 : n = 0 := by
        by_cases h : 0 < n
        · obtain ⟨_, _, h, _⟩ := HR.out.cells h; simp at h
        · omega
      subst hn0
      have hc0 : cap = 0 := HNC.out rfl
      subst hc0
      go_wp2
      go_meet
      case rel => exact ⟨none, rfl, HR, Below.refl _ _⟩
    | some x =>
      go_wp2_with (at_make; refine wpList_make_full _ rfl _ _ 28 rfl w0.heap.size 9 i0 (.string ByteArray.empty) 1 Try.underlying28 hi hz0 hz1 _ _ _ _ n rfl rfl rfl rfl ?c1 ?c2 ?c3 ?_)
      case c1 => rw [hz2]; omega
      case c2 => unfold maxLen; omega
      case c3 => exact Nat.le_refl _
      intro w1 hown hgrow
      have hB : Hid (Below w0.heap.size w0 w1) := (Below.refl _ _).grown hgrow (Nat.le_refl _) (fun k hk => by simp at hk)
      obtain ⟨X, hown⟩ : ∃ X, w1.ownsRow w0.heap.size 9 1 (.slice (some ⟨w0.heap.size, 0, none⟩) n n) n X := ⟨_, hown⟩
      have hblk := own_block hown
      have hlX := hown.1
      clear hown hgrow
      have HBK : Hid (w1.heap[w0.heap.size]? = some (.cells X.toArray 9 (0, 0))) := hblk
      obtain ⟨CS, HCS⟩ : ∃ CS, Hid (CS = ss.map Value.string) := ⟨_, rfl⟩
      have hlc : CS.length = n := by rw [HCS.out, List.length_map]; exact HL.out
      have hmin : CS.length = Nat.min n n := by rw [hlc]; exact (Nat.min_self n).symm
      have hone : ∀ v ∈ CS, v.oneCell' = true := by
        intro v hv
        rw [HCS.out] at hv
        obtain ⟨s, _, rfl⟩ := List.mem_map.1 hv
        rfl
      have hpos : 0 < CS.length → (some (⟨w0.heap.size, 0, none⟩ : Addr)) = some ⟨w0.heap.size, 0, none⟩ ∧ ∃ ad, some x = some ad ∧ ∀ j v, CS[j]? = some v → w1.cell? (ad.add j) = some v := by
        intro h0
        refine ⟨rfl, x, rfl, fun j v hv => ?_⟩
        obtain ⟨b, off, hx, hc⟩ := HR.out.cells (by omega)
        simp only [Option.some.injEq] at hx
        subst hx
        have hj : j < n := by
          have := (List.getElem?_eq_some_iff.1 hv).1
          omega
        have hcj := hc j hj
        rw [Go.WideShapes.add_plain, hB.out.cell (p := ⟨b, off + j, none⟩) (cell_lt hcj), hcj]
        rw [HCS.out] at hv
        have hjs : j < ss.length := by rw [HL.out]; exact hj
        simp [hjs] at hv
        simp [hjs, hv]
      have HH : Hid _ := And.intro hlX (And.intro hmin (And.intro hone hpos))
      clear hblk hlX hmin hone hpos
      go_upto_region 11 with fail
      go_wp2_with (refine wpList_copy_splice rfl (.tmp 53) (.tmp 54) 28 28 rfl 9 Try.underlying28 size9 _ _ _ _ _ _ rfl rfl w0.heap.size 0 X 9 HBK.out CS HH.out.2.1 HH.out.2.2.2 (by have := HH.out.1; omega) HH.out.2.2.1 w0.heap.size w0 hB.out (Nat.le_refl _) ?_)
      intro w2 HG2 hB2
      have RS : Hid (RowS w2 (some ⟨w0.heap.size, 0, none⟩) n n ss) := by
        refine rowS_block ?_ HL.out (by omega)
        have e : splice X 0 CS = ss.map Value.string := by
          unfold splice
          rw [← HCS.out]
          have := HH.out.1
          rw [List.take_zero, List.nil_append, List.drop_of_length_le (by omega), List.append_nil]
        rw [← e]; exact HG2.out
      have HB2 : Hid _ := hB2
      clear HG2 hB2
      go_wp2
      go_meet
      case rel => exact ⟨_, rfl, RS, HB2⟩
  case rest =>
    obtain ⟨a1, rfl, R1, hB⟩ := hcut
    have HB1 : Hid (Below _ _ wc) := hB
    clear HR HNC hB
    go_wp2_with fail
    refine (zzTakes_any a1 n n ss q sh sc _ R1.out).mono ?_
    rintro e w2 ⟨rfl, hB⟩
    have R2 : Hid (RowS w2 a1 n n ss) := R1.out.below hB (Nat.le_refl _)
    have HB2 : Hid (Below _ _ w2) := HB1.out.trans (hB.mono HB1.out.size)
    clear hB R1 HB1
    go_upto_region 14 with fail
    go_cut [13] (fun t wc => t = .bool (takesB (ss.take k) sc) ∧ Hid (Below w2.heap.size w2 wc))
    case first =>
      rcases two_cuts R2.out k hk with ⟨e1, e2, T1, T2⟩ | ⟨b, off, rfl, e1, e2, T1, T2⟩ | ⟨b, off, rfl, e1, e2, T1, T2⟩
      · subst e1
        subst e2
        go_wp2_with fail
        refine (zzTakes_any a1 0 0 (ss.take 0) q sh sc _ T1.out).mono ?_
        rintro e w3 ⟨rfl, hB⟩
        have HB3 : Hid _ := hB
        clear hB
        go_wp2
        go_meet
        case rel => exact ⟨rfl, HB3⟩
      all_goals
        clear e2
        go_wp2_with fail
        refine (zzTakes_any _ k n (ss.take k) q sh sc _ T1.out).mono ?_
        rintro e w3 ⟨rfl, hB⟩
        have HB3 : Hid _ := hB
        clear hB
        go_wp2
        go_meet
        case rel => exact ⟨rfl, HB3⟩
    case rest =>
      obtain ⟨rfl, hB⟩ := hcut
      have R3 : Hid (RowS wc a1 n n ss) := R2.out.below hB.out (Nat.le_refl _)
      have HB3 : Hid (Below _ _ wc) := HB2.out.trans (hB.out.mono HB2.out.size)
      clear hB R2 HB2
      obtain ⟨w3, hw3⟩ : ∃ w3, w3 = wc := ⟨_, rfl⟩
      rw [← hw3] at R3 HB3 ⊢
      clear hw3 wc
      go_upto_region 15 with fail
      go_cut [14] (fun t wc => t = .bool (takesB (ss.drop k) sc) ∧ Hid (Below w3.heap.size w3 wc))
      case first =>
        rcases two_cuts R3.out k hk with ⟨e1, e2, T1, T2⟩ | ⟨b, off, rfl, e1, e2, T1, T2⟩ | ⟨b, off, rfl, e1, e2, T1, T2⟩
        · subst e1
          subst e2
          go_wp2_with fail
          refine (zzTakes_any a1 0 0 (ss.drop 0) q sh sc _ T2.out).mono ?_
          rintro e w4 ⟨rfl, hB⟩
          have HB4 : Hid _ := hB
          clear hB
          go_wp2
          go_meet
          case rel => exact ⟨rfl, HB4⟩
        · subst e2
          go_wp2_with fail
          refine (zzTakes_any _ 0 0 (ss.drop n) q sh sc _ T2.out).mono ?_
          rintro e w4 ⟨rfl, hB⟩
          have HB4 : Hid _ := hB
          clear hB
          go_wp2
          go_meet
          case rel => exact ⟨rfl, HB4⟩
        · go_wp2_with fail
          refine (zzTakes_any _ (n - k) (n - k) (ss.drop k) q sh sc _ T2.out).mono ?_
          rintro e w4 ⟨rfl, hB⟩
          have HB4 : Hid _ := hB
          clear hB
          go_wp2
          go_meet
          case rel => exact ⟨rfl, HB4⟩
      case rest =>
        obtain ⟨rfl, hB⟩ := hcut
        have R4 : Hid (RowS wc a1 n n ss) := R3.out.below hB.out (Nat.le_refl _)
        have HB4 : Hid (Below _ _ wc) := HB3.out.trans (hB.out.mono HB3.out.size)
        clear hB R3 HB3
        obtain ⟨w4, hw4⟩ : ∃ w4, w4 = wc := ⟨_, rfl⟩
        rw [← hw4] at R4 HB4 ⊢
        clear hw4 wc
        have hsp := takesB_split ss k sc
        have hne : (takesB ss sc != (takesB (ss.take k) sc || takesB (ss.drop k) sc)) = false := by rw [← hsp]; cases takesB ss sc <;> rfl
        have HIT : Hid (takesB (insAt ss k sc) sc = true) := by rw [Hid, takesB_ins]; simp
        clear hsp
        generalize takesB ss sc = tw at hne
        generalize takesB (ss.take k) sc = tl at hne
        generalize takesB (ss.drop k) sc = tr at hne
        have hcases : tl = true ∨ tl = false := by cases tl <;> simp
        rcases hcases with rfl | rfl
        case' inl =>
          have htw : tw = true := by cases tw <;> simp_all
          subst htw
        case' inr =>
          have htw : tw = tr := by cases tw <;> cases tr <;> simp_all
          subst htw
          have hbb : (tw != tw) = false := by cases tw <;> rfl
        all_goals
          clear hne
          go_wp2_with (at_make; refine wpList_make_full _ rfl _ _ 28 rfl w4.heap.size 9 i0 (.string ByteArray.empty) 1 Try.underlying28 hi hz0 hz1 _ _ _ _ (n + 1) rfl rfl (by omega) (by omega) (by rw [hz2]; omega) (by unfold maxLen; omega) (Nat.le_refl _) ?_)
          intro w5 hown hgrow
          have HF : Hid (FilledS w5 w4.heap.size w4.heap.size (n + 1) (insAt ss k sc) 0) := ⟨_, hown, fun i hi => by omega⟩
          have HB5 : Hid (Below w4.heap.size w4 w5) := (Below.refl _ _).grown hgrow (Nat.le_refl _) (fun k hk => by simp at hk)
          clear hown hgrow
          go_wp2
          go_loopw [16] (fun i wr => ∃ j : Nat, j ≤ k ∧ i = .int .i64 j ∧ Hid (FilledS wr w4.heap.size w4.heap.size (n + 1) (insAt ss k sc) j) ∧ Hid (Below w4.heap.size w4 wr)) (fun i _ => k - (intOf i).toNat)
          case atStart => exact ⟨0, Nat.zero_le _, rfl, HF, HB5⟩
          case round =>
            obtain ⟨j, hj, rfl, HFr, HBr⟩ := hrel
            clear HF HB5
            by_cases hlt : j < k
            · obtain ⟨b, off, rfl, hc⟩ := R4.out.cells (by omega)
              have hcj := hc j (by omega)
              have hblt := cell_lt hcj
              rw [← HBr.out.cell hblt] at hcj
              clear hc hblt
              obtain ⟨v0, hv0⟩ := HFr.out.cell j (by omega)
              have hfz := HFr.out.free j
              have hji : (j : Int) < (n : Int) := by omega
              have HF2 : Hid (FilledS (wr.setCell ⟨w4.heap.size, j, none⟩ (.string (ss.getD j ByteArray.empty))) w4.heap.size w4.heap.size (n + 1) (insAt ss k sc) (j + 1)) := by
                have := HFr.out.set (by omega)
                rwa [insAt_lt ss k sc j hlt (by rw [HL.out]; exact hk)] at this
              have HB6 : Hid (Below w4.heap.size w4 (wr.setCell ⟨w4.heap.size, j, none⟩ (.string (ss.getD j ByteArray.empty)))) := HBr.out.setCell (p := ⟨w4.heap.size, j, none⟩) (Nat.le_refl _) _
              generalize ss.getD j ByteArray.empty = c at hcj HF2 HB6
              clear HFr HBr
              go_wp2
              go_roundw
              case rel => exact ⟨j + 1, by omega, by go_num, HF2, HB6⟩
              case measure => simp [intOf]; omega
            · have hjk : j = k := by omega
              subst hjk
              obtain ⟨v0, hv0⟩ := HFr.out.cell j (by omega)
              have hfz := HFr.out.free j
              have hjn : (j : Int) < (n : Int) + 1 := by omega
              have HF2 : Hid (FilledS (wr.setCell ⟨w4.heap.size, j, none⟩ (.string sc)) w4.heap.size w4.heap.size (n + 1) (insAt ss j sc) (j + 1)) := by
                have := HFr.out.set (by omega)
                rwa [insAt_at ss j sc (by rw [HL.out]; exact hk)] at this
              have HB6 : Hid (Below w4.heap.size w4 (wr.setCell ⟨w4.heap.size, j, none⟩ (.string sc))) := HBr.out.setCell (p := ⟨w4.heap.size, j, none⟩) (Nat.le_refl _) _
              clear HFr HBr hlt hj
              go_wp2
              go_loopw [17] (fun i wr => ∃ l : Nat, j ≤ l ∧ l ≤ n ∧ i = .int .i64 l ∧ Hid (FilledS wr w4.heap.size w4.heap.size (n + 1) (insAt ss j sc) (l + 1)) ∧ Hid (Below w4.heap.size w4 wr)) (fun i _ => n - (intOf i).toNat)
              case atStart => exact ⟨j, Nat.le_refl _, hk, rfl, HF2, HB6⟩
              case round =>
                obtain ⟨l, hjl, hl, rfl, HFq, HBq⟩ := hrel
                clear HF2 HB6 hv0 hfz
                by_cases hlt : l < n
                · obtain ⟨b, off, rfl, hc⟩ := R4.out.cells (by omega)
                  have hcj := hc l (by omega)
                  have hblt := cell_lt hcj
                  rw [← HBq.out.cell hblt] at hcj
                  clear hc hblt
                  obtain ⟨v0, hv0⟩ := HFq.out.cell (l + 1) (by omega)
                  have hfz := HFq.out.free (l + 1)
                  have HF3 : Hid (FilledS (wr.setCell ⟨w4.heap.size, l + 1, none⟩ (.string (ss.getD l ByteArray.empty))) w4.heap.size w4.heap.size (n + 1) (insAt ss j sc) (l + 1 + 1)) := by
                    have := HFq.out.set (by omega)
                    rwa [insAt_gt ss j sc l hjl (by rw [HL.out]; exact hk)] at this
                  have HB7 : Hid (Below w4.heap.size w4 (wr.setCell ⟨w4.heap.size, l + 1, none⟩ (.string (ss.getD l ByteArray.empty)))) := HBq.out.setCell (p := ⟨w4.heap.size, l + 1, none⟩) (Nat.le_refl _) _
                  generalize ss.getD l ByteArray.empty = c at hcj HF3 HB7
                  clear HFq HBq
                  go_wp2
                  go_roundw
                  case rel => exact ⟨l + 1, by omega, by omega, by go_num, HF3, HB7⟩
                  case measure => simp [intOf]; omega
                · have hln : l = n := by omega
                  subst hln
                  have RI : Hid (RowS wr (some ⟨w4.heap.size, 0, none⟩) (l + 1) (l + 1) (insAt ss j sc)) := HFq.out.row (by rw [insAt_len ss j sc (by rw [HL.out]; exact hk), HL.out]) (by omega)
                  go_wp2_with fail
                  refine (zzTakes_any _ _ _ (insAt ss j sc) q sh sc _ RI.out).mono ?_
                  rintro e w9 ⟨rfl, hB⟩
                  have HB9 : Hid (Below w4.heap.size w4 w9) := HBq.out.trans (hB.mono HBq.out.size)
                  clear hB
                  rw [HIT.out]
                  go_wp2
                  go_ret
                  exact ⟨rfl, HB4.out.trans (HB9.out.mono HB4.out.size)⟩

/-! ### the early returns -/
set_option maxHeartbeats 1000000 in
set_option maxRecDepth 100000 in
theorem law4_long (a : Option Addr) (n cap : Nat) (q : Bool) (sh sc : ByteArray) (k : Int) (w : World) (hn : ¬ n ≤ 1048576) (hm : n ≤ maxLen) :
    Calls Try.prog 4 #[.slice a n cap, .bool q, .string sh, .string sc, .int .i64 k] w fun e w' => e = .returned (.bool true) ∧ Below w.heap.size w w' := by
  go_enter Try.func4, Try.ntmps4
  go_wp2_with fail
  refine (zz11' a n cap q sh sc k _ hn hm).mono ?_
  rintro e w0 ⟨rfl, rfl⟩
  go_wp2
  go_ret
  exact ⟨rfl, Below.refl _ _⟩

set_option maxHeartbeats 1000000 in
set_option maxRecDepth 100000 in
theorem law4_k (a : Option Addr) (n cap : Nat) (ss : List ByteArray) (q : Bool) (sh sc : ByteArray) (k : Int) (w : World) (hn : n ≤ 1048576) (hk : k < 0 ∨ (n : Int) < k) (hr : RowS w a n cap ss)
    (hs : ∀ i, (ss.getD i ByteArray.empty).size ≤ maxLen) (hsh0 : sh.size ≤ maxLen) (hsc0 : sc.size ≤ maxLen) :
    Calls Try.prog 4 #[.slice a n cap, .bool q, .string sh, .string sc, .int .i64 k] w fun e w' => e = .returned (.bool true) ∧ Below w.heap.size w w' := by
  have HR : Hid (RowS w a n cap ss) := hr
  have HS0 : Hid (∀ i, (ss.getD i ByteArray.empty).size ≤ maxLen) := hs
  have HX : Hid (sh.size ≤ maxLen ∧ sc.size ≤ maxLen) := ⟨hsh0, hsc0⟩
  have hk' : (decide (k < 0) = true) ∨ (decide (k < 0) = false ∧ decide ((n : Int) < k) = true) := by simp; omega
  clear hr hs hsh0 hsc0 hk
  go_enter Try.func4, Try.ntmps4
  go_wp2_with fail
  refine (zz11 a n cap ss q sh sc _ _ hn HR.out HS0.out HX.out.1 HX.out.2).mono ?_
  rintro e w0 ⟨b, rfl, rfl, hb⟩
  cases b with
  | false =>
    clear hb
    go_wp2
    go_ret
    exact ⟨rfl, Below.refl _ _⟩
  | true =>
  have HSM := hb rfl
  clear hb
  have HS : Hid (∀ i, (ss.getD i ByteArray.empty).size ≤ 1048576) := HSM.1
  have hsh1 : sh.size ≤ 1048576 := HSM.2 sh (by simp)
  have hsc1 : sc.size ≤ 1048576 := HSM.2 sc (by simp)
  clear HSM HS0 HX
  by_cases hsh : sh.size ≤ 262144
  case neg =>
    have hd1 : decide ((262144 : Int) < (sh.size : Int)) = true := by simp; omega
    go_wp2
    go_ret
    exact ⟨rfl, Below.refl _ _⟩
  by_cases hsc : sc.size ≤ 262144
  case neg =>
    have hd1 : decide ((262144 : Int) < (sh.size : Int)) = false := by simp; omega
    have hd2 : decide ((262144 : Int) < (sc.size : Int)) = true := by simp; omega
    go_wp2
    go_ret
    exact ⟨rfl, Below.refl _ _⟩
  have hd1 : decide ((262144 : Int) < (sh.size : Int)) = false := by simp; omega
  have hd2 : decide ((262144 : Int) < (sc.size : Int)) = false := by simp; omega
  go_wp2_with fail
  refine (tooBig_any a n cap ss _ _ HR.out ⟨by omega, by omega⟩ HS.out).mono ?_
  rintro e w0 ⟨b, rfl, rfl, hb⟩
  cases b with
  | true =>
    clear hb
    go_wp2
    go_ret
    exact ⟨rfl, Below.refl _ _⟩
  | false =>
  clear hb HS
  rcases hk' with hd | ⟨hd, hd3⟩
  all_goals
    go_wp2
    go_ret
    exact ⟨rfl, Below.refl _ _⟩

/-! ### the bridge from an argument that came in -/
def IsRowS (w : World) (a : Option Addr) (len cap : Nat) (zs : List ByteArray) : Prop :=
  (a = none ∧ len = 0 ∧ cap = 0 ∧ zs = []) ∨
  ∃ x, a = some x ∧ len ≤ cap ∧ cap ≤ maxLen ∧ zs.length = cap ∧ (∀ i, i < zs.length → w.cell? (x.add i) = some (.string (zs.getD i ByteArray.empty))) ∧ ∀ s ∈ zs, s.size ≤ maxLen
theorem IsRowS.row {w : World} {a : Option Addr} {len cap : Nat} {zs : List ByteArray} (h : IsRowS w a len cap zs) (hl : len ≤ 2097152) : RowS w a len cap (zs.take len) := by
  rcases h with ⟨rfl, rfl, rfl, rfl⟩ | ⟨x, rfl, hle, hm, hz, hc, hw⟩
  · exact RowS.nil w
  · refine ⟨by simp; omega, hle, hm, hl, fun h0 => ?_⟩
    obtain ⟨b, off, spot⟩ := x
    have h1 := hc 0 (by omega)
    have hspot : spot = none := by simpa [Addr.add] using World.cell?_spot h1
    subst hspot
    refine ⟨b, off, rfl, fun i hi => ?_⟩
    have := hc i (by omega)
    rw [Go.WideShapes.add_plain] at this
    rw [this]
    simp [hi]
theorem IsRowS.cap0 {w : World} {a : Option Addr} {len cap : Nat} {zs : List ByteArray} (h : IsRowS w a len cap zs) : a = none → cap = 0 := by
  intro ha
  rcases h with ⟨_, _, rfl, _⟩ | ⟨x, hx, _⟩
  · rfl
  · rw [ha] at hx; cases hx
theorem IsRowS.sizes {w : World} {a : Option Addr} {len cap : Nat} {zs : List ByteArray} (h : IsRowS w a len cap zs) : ∀ i, ((zs.take len).getD i ByteArray.empty).size ≤ maxLen := by
  intro i
  by_cases hi : i < (zs.take len).length
  · have e : (zs.take len).getD i ByteArray.empty = (zs.take len)[i] := by simp only [List.getD_eq_getElem?_getD, List.getElem?_eq_getElem hi, Option.getD_some]
    rw [e]
    have hm : (zs.take len)[i] ∈ zs := List.mem_of_mem_take (List.getElem_mem hi)
    rcases h with ⟨_, _, _, rfl⟩ | ⟨x, _, _, _, _, _, hw⟩
    · simp at hi
    · exact hw _ hm
  · rw [List.getD_eq_getElem?_getD, List.getElem?_eq_none (by omega)]
    simp
theorem IsRowS.lenOf {w : World} {a : Option Addr} {len cap : Nat} {zs : List ByteArray} (h : IsRowS w a len cap zs) : len ≤ maxLen := by
  rcases h with ⟨_, rfl, _, _⟩ | ⟨_, _, h1, h2, _⟩
  · exact Nat.zero_le _
  · omega

end Go.Proofs.Qxb6619379a
