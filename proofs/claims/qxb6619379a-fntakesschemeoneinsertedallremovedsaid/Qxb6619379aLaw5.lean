/-
  FnTakesSchemeOneInsertedAllRemoved (5).
-/
import Derived.Test.Qxb6619379aLaw4
namespace Go.Proofs.Qxb6619379a
open Go.RowKit

theorem cell_one_newS (w : World) (x : Value) (t : TypeId) : ∀ j u, [x][j]? = some u → (w.alloc (.cells #[x] t)).cell? ((⟨w.heap.size, 0, none⟩ : Addr).add j) = some u := cell_one_new w x t
theorem one_str (c : ByteArray) : ∀ u ∈ [Value.string c], u.oneCell' = true := by
  intro u hu
  simp at hu
  subst hu
  rfl
/-- an owned row of strings, read -/
theorem own_rowS {w : World} {B : Nat} {v : Value} {xs : List ByteArray} (h : w.ownsRow B 9 1 v xs.length (xs.map Value.string)) (hb : xs.length ≤ 2097152) : ∃ a c, v = .slice a xs.length c ∧ RowS w a xs.length c xs := by
  have h0 := h
  rcases h.2 with ⟨rfl, hx⟩ | ⟨g, cap, cur, rfl, _, _, hnc, hcm, _⟩
  · have : xs = [] := by simpa using hx
    subst this
    exact ⟨none, 0, rfl, RowS.nil w⟩
  · refine ⟨_, cap, rfl, rfl, hnc, hcm, hb, fun _ => ⟨g, 0, rfl, fun i hi => ?_⟩⟩
    rw [Nat.zero_add, h0.cellAt i (by omega)]
    simp [hi]
/-- those that are kept -/
def kept (ss : List ByteArray) (sc : ByteArray) : List ByteArray := ss.filter (fun c => !(c.toList == sc.toList))
theorem kept_len (ss : List ByteArray) (sc : ByteArray) : (kept ss sc).length ≤ ss.length := List.length_filter_le _ _
theorem kept_takes (ss : List ByteArray) (sc : ByteArray) : takesB (kept ss sc) sc = false := by
  unfold takesB kept
  rw [List.any_eq_false]
  intro x hx
  have := (List.mem_filter.1 hx).2
  simpa using this
theorem take_getD (ss : List ByteArray) (k : Nat) (h : k < ss.length) : ss.take (k + 1) = ss.take k ++ [ss.getD k ByteArray.empty] := by
  rw [List.take_succ_eq_append_getElem h]
  simp [h]
theorem kept_yes (ss : List ByteArray) (sc : ByteArray) (k : Nat) (h : k < ss.length) (hc : ((ss.getD k ByteArray.empty).toList == sc.toList) = false) : kept (ss.take (k + 1)) sc = kept (ss.take k) sc ++ [ss.getD k ByteArray.empty] := by
  rw [take_getD ss k h]
  unfold kept
  rw [List.filter_append]
  simp only [List.filter_cons, List.filter_nil, hc, Bool.not_false, if_true]
theorem kept_no (ss : List ByteArray) (sc : ByteArray) (k : Nat) (h : k < ss.length) (hc : ((ss.getD k ByteArray.empty).toList == sc.toList) = true) : kept (ss.take (k + 1)) sc = kept (ss.take k) sc := by
  rw [take_getD ss k h]
  unfold kept
  rw [List.filter_append]
  simp only [List.filter_cons, List.filter_nil, hc, Bool.not_true, Bool.false_eq_true, if_false, List.append_nil]

set_option maxHeartbeats 8000000 in
set_option maxRecDepth 100000 in
theorem law5 (a : Option Addr) (n cap : Nat) (ss : List ByteArray) (q : Bool) (sh sc el : ByteArray) (k : Nat) (q2 : Bool) (sh2 : ByteArray) (w : World) (hn : n ≤ 1048576) (hk : k ≤ n) (hr : RowS w a n cap ss)
    (hnc : a = none → cap = 0) (hs : ∀ i, (ss.getD i ByteArray.empty).size ≤ maxLen) (hsh0 : sh.size ≤ maxLen) (hsc0 : sc.size ≤ maxLen) (hel0 : el.size ≤ maxLen) (hsh20 : sh2.size ≤ maxLen) :
    Calls Try.prog 5 #[.slice a n cap, .bool q, .string sh, .string sc, .string el, .int .i64 k, .bool q2, .string sh2] w fun e w' => e = .returned (.bool true) ∧ Below w.heap.size w w' := by
  have hnnil := fun (w : World) (a : Option Addr) (n c : Nat) => run_neq_slice_nil_any (P := Try.prog) w 28 9 a n c 0 0 Try.underlying28
  have HR : Hid (RowS w a n cap ss) := hr
  have HL : Hid (ss.length = n) := hr.len
  have HS0 : Hid (∀ i, (ss.getD i ByteArray.empty).size ≤ maxLen) := hs
  have HX : Hid (sh.size ≤ maxLen ∧ sc.size ≤ maxLen ∧ el.size ≤ maxLen ∧ sh2.size ≤ maxLen) := ⟨hsh0, hsc0, hel0, hsh20⟩
  have HNC : Hid (a = none → cap = 0) := hnc
  clear hr hs hsh0 hsc0 hel0 hsh20 hnc
  obtain ⟨i0, hi, hz0, hz1, hz2⟩ := info_parts info9
  have hk0 : decide ((k : Int) < 0) = false := by simp
  have hk1 : decide ((n : Int) < (k : Int)) = false := by simp; omega
  go_enter Try.func5, Try.ntmps5
  go_wp2_with fail
  refine (zz14 a n cap ss q sh sc el _ q2 sh2 _ hn HR.out HS0.out HX.out.1 HX.out.2.1 HX.out.2.2.1 HX.out.2.2.2).mono ?_
  rintro e w0 ⟨b, rfl, rfl, hb⟩
  cases b with
  | false =>
    clear hb
    go_wp2
    go_ret
    exact ⟨rfl, Below.refl _ _⟩
  | true =>
  have HSM := hb rfl
  clear hb
  have HS : Hid (∀ i, (ss.getD i ByteArray.empty).size ≤ 1048576) := HSM.1
  have hsh1 : sh.size ≤ 1048576 := HSM.2 sh (by simp)
  have hsc1 : sc.size ≤ 1048576 := HSM.2 sc (by simp)
  have hel1 : el.size ≤ 1048576 := HSM.2 el (by simp)
  have hsg1 : sh2.size ≤ 1048576 := HSM.2 sh2 (by simp)
  clear HSM HS0 HX
  by_cases hsh : sh.size ≤ 262144
  case neg =>
    have hd1 : decide ((262144 : Int) < (sh.size : Int)) = true := by simp; omega
    go_wp2
    go_ret
    exact ⟨rfl, Below.refl _ _⟩
  have hd1 : decide ((262144 : Int) < (sh.size : Int)) = false := by simp; omega
  by_cases hsc : sc.size ≤ 262144
  case neg =>
    have hd2 : decide ((262144 : Int) < (sc.size : Int)) = true := by simp; omega
    go_wp2
    go_ret
    exact ⟨rfl, Below.refl _ _⟩
  have hd2 : decide ((262144 : Int) < (sc.size : Int)) = false := by simp; omega
  by_cases hel : el.size ≤ 262144
  case neg =>
    have hd3 : decide ((262144 : Int) < (el.size : Int)) = true := by simp; omega
    go_wp2
    go_ret
    exact ⟨rfl, Below.refl _ _⟩
  have hd3 : decide ((262144 : Int) < (el.size : Int)) = false := by simp; omega
  by_cases hsg : sh2.size ≤ 262144
  case neg =>
    have hd4 : decide ((262144 : Int) < (sh2.size : Int)) = true := by simp; omega
    go_wp2
    go_ret
    exact ⟨rfl, Below.refl _ _⟩
  have hd4 : decide ((262144 : Int) < (sh2.size : Int)) = false := by simp; omega
  go_wp2_with fail
  refine (tooBig_any a n cap ss _ _ HR.out ⟨by omega, by omega⟩ HS.out).mono ?_
  rintro e w0 ⟨b, rfl, rfl, hb⟩
  cases b with
  | true =>
    clear hb
    go_wp2
    go_ret
    exact ⟨rfl, Below.refl _ _⟩
  | false =>
  have hn2 : n ≤ 65536 := hb rfl
  clear hb HS
  go_upto_if 75 with fail
  go_cut [0] (fun t wc => ∃ a1, t = .slice a1 n n ∧ Hid (RowS wc a1 n n ss) ∧ Hid (Below w0.heap.size w0 wc))
  case first =>
    cases a with
    | none =>
      have hn0 : n = 0 := by
        by_cases h : 0 < n
        · obtain ⟨_, _, h, _⟩ := HR.out.cells h; simp at h
        · omega
      subst hn0
      have hc0 : cap = 0 := HNC.out rfl
      subst hc0
      go_wp2
      go_meet
      case rel => exact ⟨none, rfl, HR, Below.refl _ _⟩
    | some x =>
      go_wp2_with (at_make; refine wpList_make_full _ rfl _ _ 28 rfl w0.heap.size 9 i0 (.string ByteArray.empty) 1 Try.underlying28 hi hz0 hz1 _ _ _ _ n rfl rfl rfl rfl ?c1 ?c2 ?c3 ?_)
      case c1 => rw [hz2]; omega
      case c2 => unfold maxLen; omega
      case c3 => exact Nat.le_refl _
      intro w1 hown hgrow
      have hB : Hid (Below w0.heap.size w0 w1) := (Below.refl _ _).grown hgrow (Nat.le_refl _) (fun k hk => by simp at hk)
      obtain ⟨X, hown⟩ : ∃ X, w1.ownsRow w0.heap.size 9 1 (.slice (some ⟨w0.heap.size, 0, none⟩) n n) n X := ⟨_, hown⟩
      have hblk := own_block hown
      have hlX := hown.1
      clear hown hgrow
      have HBK : Hid (w1.heap[w0.heap.size]? = some (.cells X.toArray 9 (0, 0))) := hblk
      obtain ⟨CS, HCS⟩ : ∃ CS, Hid (CS = ss.map Value.string) := ⟨_, rfl⟩
      have hlc : CS.length = n := by rw [HCS.out, List.length_map]; exact HL.out
      have hmin : CS.length = Nat.min n n := by rw [hlc]; exact (Nat.min_self n).symm
      have hone : ∀ v ∈ CS, v.oneCell' = true := by
        intro v hv
        rw [HCS.out] at hv
        obtain ⟨s, _, rfl⟩ := List.mem_map.1 hv
        rfl
      have hpos : 0 < CS.length → (some (⟨w0.heap.size, 0, none⟩ : Addr)) = some ⟨w0.heap.size, 0, none⟩ ∧ ∃ ad, some x = some ad ∧ ∀ j v, CS[j]? = some v → w1.cell? (ad.add j) = some v := by
        intro h0
        refine ⟨rfl, x, rfl, fun j v hv => ?_⟩
        obtain ⟨b, off, hx, hc⟩ := HR.out.cells (by omega)
        simp only [Option.some.injEq] at hx
        subst hx
        have hj : j < n := by
          have := (List.getElem?_eq_some_iff.1 hv).1
          omega
        have hcj := hc j hj
        rw [Go.WideShapes.add_plain, hB.out.cell (p := ⟨b, off + j, none⟩) (cell_lt hcj), hcj]
        rw [HCS.out] at hv
        have hjs : j < ss.length := by rw [HL.out]; exact hj
        simp [hjs] at hv
        simp [hjs, hv]
      have HH : Hid _ := And.intro hlX (And.intro hmin (And.intro hone hpos))
      clear hblk hlX hmin hone hpos
      go_upto_region 11 with fail
      go_wp2_with (refine wpList_copy_splice rfl (.tmp 79) (.tmp 80) 28 28 rfl 9 Try.underlying28 size9 _ _ _ _ _ _ rfl rfl w0.heap.size 0 X 9 HBK.out CS HH.out.2.1 HH.out.2.2.2 (by have := HH.out.1; omega) HH.out.2.2.1 w0.heap.size w0 hB.out (Nat.le_refl _) ?_)
      intro w2 HG2 hB2
      have RS : Hid (RowS w2 (some ⟨w0.heap.size, 0, none⟩) n n ss) := by
        refine rowS_block ?_ HL.out (by omega)
        have e : splice X 0 CS = ss.map Value.string := by
          unfold splice
          rw [← HCS.out]
          have := HH.out.1
          rw [List.take_zero, List.nil_append, List.drop_of_length_le (by omega), List.append_nil]
        rw [← e]; exact HG2.out
      have HB2 : Hid _ := hB2
      clear HG2 hB2
      go_wp2
      go_meet
      case rel => exact ⟨_, rfl, RS, HB2⟩
  case rest =>
    obtain ⟨a1, rfl, R1, hB⟩ := hcut
    have HB1 : Hid (Below _ _ wc) := hB
    clear HR HNC hB
    go_wp2_with fail
    refine (zzTakes_any a1 n n ss q sh sc _ R1.out).mono ?_
    rintro e w4 ⟨rfl, hB⟩
    have R4 : Hid (RowS w4 a1 n n ss) := R1.out.below hB (Nat.le_refl _)
    have HB4 : Hid (Below _ _ w4) := HB1.out.trans (hB.mono HB1.out.size)
    clear hB R1 HB1
    have HIT : Hid (takesB (insAt ss k el) sc = ((el.toList == sc.toList) || takesB ss sc)) := takesB_ins ss k el sc
    generalize takesB ss sc = tw at HIT ⊢
    go_wp2_with (at_make; refine wpList_make_full _ rfl _ _ 28 rfl w4.heap.size 9 i0 (.string ByteArray.empty) 1 Try.underlying28 hi hz0 hz1 _ _ _ _ (n + 1) rfl rfl (by omega) (by omega) (by rw [hz2]; omega) (by unfold maxLen; omega) (Nat.le_refl _) ?_)
    intro w5 hown hgrow
    have HF : Hid (FilledS w5 w4.heap.size w4.heap.size (n + 1) (insAt ss k el) 0) := ⟨_, hown, fun i hi => by omega⟩
    have HB5 : Hid (Below w4.heap.size w4 w5) := (Below.refl _ _).grown hgrow (Nat.le_refl _) (fun k hk => by simp at hk)
    clear hown hgrow
    go_wp2
    go_loopw [20] (fun i wr => ∃ j : Nat, j ≤ k ∧ i = .int .i64 j ∧ Hid (FilledS wr w4.heap.size w4.heap.size (n + 1) (insAt ss k el) j) ∧ Hid (Below w4.heap.size w4 wr)) (fun i _ => k - (intOf i).toNat)
    case atStart => exact ⟨0, Nat.zero_le _, rfl, HF, HB5⟩
    case round =>
      obtain ⟨j, hj, rfl, HFr, HBr⟩ := hrel
      clear HF HB5
      by_cases hlt : j < k
      · obtain ⟨b, off, rfl, hc⟩ := R4.out.cells (by omega)
        have hcj := hc j (by omega)
        have hblt := cell_lt hcj
        rw [← HBr.out.cell hblt] at hcj
        clear hc hblt
        obtain ⟨v0, hv0⟩ := HFr.out.cell j (by omega)
        have hfz := HFr.out.free j
        have hji : (j : Int) < (n : Int) := by omega
        have HF2 : Hid (FilledS (wr.setCell ⟨w4.heap.size, j, none⟩ (.string (ss.getD j ByteArray.empty))) w4.heap.size w4.heap.size (n + 1) (insAt ss k el) (j + 1)) := by
          have := HFr.out.set (by omega)
          rwa [insAt_lt ss k el j hlt (by rw [HL.out]; exact hk)] at this
        have HB6 : Hid (Below w4.heap.size w4 (wr.setCell ⟨w4.heap.size, j, none⟩ (.string (ss.getD j ByteArray.empty)))) := HBr.out.setCell (p := ⟨w4.heap.size, j, none⟩) (Nat.le_refl _) _
        generalize ss.getD j ByteArray.empty = c at hcj HF2 HB6
        clear HFr HBr
        go_wp2
        go_roundw
        case rel => exact ⟨j + 1, by omega, by go_num, HF2, HB6⟩
        case measure => simp [intOf]; omega
      · have hjk : j = k := by omega
        subst hjk
        obtain ⟨v0, hv0⟩ := HFr.out.cell j (by omega)
        have hfz := HFr.out.free j
        have hjn : (j : Int) < (n : Int) + 1 := by omega
        have HF2 : Hid (FilledS (wr.setCell ⟨w4.heap.size, j, none⟩ (.string el)) w4.heap.size w4.heap.size (n + 1) (insAt ss j el) (j + 1)) := by
          have := HFr.out.set (by omega)
          rwa [insAt_at ss j el (by rw [HL.out]; exact hk)] at this
        have HB6 : Hid (Below w4.heap.size w4 (wr.setCell ⟨w4.heap.size, j, none⟩ (.string el))) := HBr.out.setCell (p := ⟨w4.heap.size, j, none⟩) (Nat.le_refl _) _
        clear HFr HBr hlt hj
        go_wp2
        go_loopw [21] (fun i wr => ∃ l : Nat, j ≤ l ∧ l ≤ n ∧ i = .int .i64 l ∧ Hid (FilledS wr w4.heap.size w4.heap.size (n + 1) (insAt ss j el) (l + 1)) ∧ Hid (Below w4.heap.size w4 wr)) (fun i _ => n - (intOf i).toNat)
        case atStart => exact ⟨j, Nat.le_refl _, hk, rfl, HF2, HB6⟩
        case round =>
          obtain ⟨l, hjl, hl, rfl, HFq, HBq⟩ := hrel
          clear HF2 HB6 hv0 hfz
          by_cases hlt : l < n
          · obtain ⟨b, off, rfl, hc⟩ := R4.out.cells (by omega)
            have hcj := hc l (by omega)
            have hblt := cell_lt hcj
            rw [← HBq.out.cell hblt] at hcj
            clear hc hblt
            obtain ⟨v0, hv0⟩ := HFq.out.cell (l + 1) (by omega)
            have hfz := HFq.out.free (l + 1)
            have HF3 : Hid (FilledS (wr.setCell ⟨w4.heap.size, l + 1, none⟩ (.string (ss.getD l ByteArray.empty))) w4.heap.size w4.heap.size (n + 1) (insAt ss j el) (l + 1 + 1)) := by
              have := HFq.out.set (by omega)
              rwa [insAt_gt ss j el l hjl (by rw [HL.out]; exact hk)] at this
            have HB7 : Hid (Below w4.heap.size w4 (wr.setCell ⟨w4.heap.size, l + 1, none⟩ (.string (ss.getD l ByteArray.empty)))) := HBq.out.setCell (p := ⟨w4.heap.size, l + 1, none⟩) (Nat.le_refl _) _
            generalize ss.getD l ByteArray.empty = c at hcj HF3 HB7
            clear HFq HBq
            go_wp2
            go_roundw
            case rel => exact ⟨l + 1, by omega, by omega, by go_num, HF3, HB7⟩
            case measure => simp [intOf]; omega
          · have hln : l = n := by omega
            subst hln
            have RI : Hid (RowS wr (some ⟨w4.heap.size, 0, none⟩) (l + 1) (l + 1) (insAt ss j el)) := HFq.out.row (by rw [insAt_len ss j el (by rw [HL.out]; exact hk), HL.out]) (by omega)
            have RB : Hid (RowS wr a1 l l ss) := R4.out.below HBq.out (Nat.le_refl _)
            clear HFq R4 hlt hl hjl
            go_wp2_with fail
            refine (zzTakes_any _ _ _ (insAt ss j el) q2 sh2 sc _ RI.out).mono ?_
            rintro e w9 ⟨rfl, hB⟩
            have RB9 : Hid (RowS w9 a1 l l ss) := RB.out.below hB (Nat.le_refl _)
            have HB9 : Hid (Below _ _ w9) := HB4.out.trans ((HBq.out.trans (hB.mono HBq.out.size)).mono HB4.out.size)
            clear hB RI RB HBq HB4
            rw [HIT.out]
            generalize hee : (el.toList == sc.toList) = ee
            clear HIT
            cases ee
            case' false => have hbb : (tw != tw) = false := by cases tw <;> rfl
            all_goals
              simp only [Bool.false_or, Bool.true_or]
              go_wp2_with (at_make; refine wpList_make_own _ rfl _ _ 28 rfl w9.heap.size 9 i0 (.string ByteArray.empty) 1 Try.underlying28 hi hz0 hz1 _ _ _ l rfl rfl rfl (by rw [hz2]; omega) (by unfold maxLen; omega) (Nat.le_refl _) ?_)
              intro w10 hown hgrow
              have HO : Hid (w10.ownsRow w9.heap.size 9 1 (.slice (some ⟨w9.heap.size, 0, none⟩) 0 l) (kept (ss.take 0) sc).length ((kept (ss.take 0) sc).map Value.string)) := hown
              have HB10 : Hid (Below w9.heap.size w9 w10) := (Below.refl _ _).grown hgrow (Nat.le_refl _) (fun k hk => by simp at hk)
              clear hown hgrow
              go_wp2
              go_loopw [23, 24] (fun v i wr => ∃ t : Nat, t ≤ l ∧ i = .int .i64 t ∧ Hid (wr.ownsRow w9.heap.size 9 1 v (kept (ss.take t) sc).length ((kept (ss.take t) sc).map Value.string)) ∧ Hid (Below w9.heap.size w9 wr)) (fun _ i _ => l - (intOf i).toNat)
              case atStart => exact ⟨0, Nat.zero_le _, rfl, HO, HB10⟩
              case round =>
                obtain ⟨t, ht, rfl, HOr, HBr⟩ := hrel
                clear HO HB10
                by_cases hlt : t < l
                · obtain ⟨b, off, rfl, hc⟩ := RB9.out.cells (by omega)
                  have hct := hc t (by omega)
                  have hblt := cell_lt hct
                  rw [← HBr.out.cell hblt] at hct
                  have hblt2 : b < w9.heap.size := hblt
                  clear hc hblt
                  have hts : t < ss.length := by rw [HL.out]; exact hlt
                  have HY := kept_yes ss sc t hts
                  have HN := kept_no ss sc t hts
                  have hkl : (kept (ss.take t) sc).length ≤ 65536 := by
                    have h1 := kept_len (ss.take t) sc
                    have h2 : (ss.take t).length ≤ t := List.length_take_le _ _
                    omega
                  have hszr := HBr.out.size
                  generalize ss.getD t ByteArray.empty = c at hct HY HN
                  cases hd : (c.toList == sc.toList) with
                  | true =>
                    have HN' : Hid (kept (ss.take (t + 1)) sc = kept (ss.take t) sc) := HN hd
                    have hne : (c.toList != sc.toList) = false := by rw [bne, hd]; rfl
                    clear HY HN
                    go_wp2
                    go_roundw
                    case rel => exact ⟨t + 1, by omega, by go_num, by rw [HN'.out]; exact HOr, HBr⟩
                    case measure => simp [intOf]; omega
                  | false =>
                    have HY' : Hid (kept (ss.take (t + 1)) sc = kept (ss.take t) sc ++ [c]) := HY hd
                    have hne : (c.toList != sc.toList) = true := by rw [bne, hd]; rfl
                    clear HY HN
                    generalize kept (ss.take t) sc = K at *
                    have hown := HOr.out
                    have hb63 : K.length + 1 ≤ maxLen := by unfold maxLen; omega
                    have hbby : (K.length + 1) * 16 ≤ 140737488355328 := by omega
                    go_wp2_with (at_builtin; refine wpList_append_own _ rfl _ _ 28 rfl w9.heap.size 9 i0 (.string ByteArray.empty) 1 16 Try.underlying28 hi hz0 hz1 hz2 rfl (by decide) _ _ _ rfl (hown.alloc _) ⟨wr.heap.size, 0, none⟩ 1 1 [.string c] rfl rfl (cell_one_newS _ _ _) (one_str _) hb63 hbby (by simp; omega) ?_)
                    intro v' w11 hown' hgrow _
                    have HO2 : Hid (w11.ownsRow w9.heap.size 9 1 v' (kept (ss.take (t + 1)) sc).length ((kept (ss.take (t + 1)) sc).map Value.string)) := by
                      rw [HY'.out]
                      simpa [Hid] using hown'
                    have HB11 : Hid (Below w9.heap.size w9 w11) := (HBr.out.alloc HBr.out.size _).grown hgrow (by simp; omega) (fun k hk => (hown.lt k hk).1)
                    clear hown' hgrow hown HOr HBr
                    go_wp2
                    go_roundw
                    case rel => exact ⟨t + 1, by omega, by go_num, HO2, HB11⟩
                    case measure => simp [intOf]; omega
                · have htl : t = l := by omega
                  subst htl
                  have e1 : ss.take t = ss := List.take_of_length_le (by rw [HL.out]; exact Nat.le_refl _)
                  rw [e1] at HOr
                  have hkl : (kept ss sc).length ≤ 2097152 := by
                    have h1 := kept_len ss sc
                    have h2 := HL.out
                    omega
                  obtain ⟨aK, cK, hvK, rK⟩ := own_rowS HOr.out hkl
                  rw [hvK]
                  have RK : Hid (RowS wr aK (kept ss sc).length cK (kept ss sc)) := rK
                  have HKT : Hid (takesB (kept ss sc) sc = false) := kept_takes ss sc
                  clear hvK rK e1 HOr hkl
                  generalize kept ss sc = K at *
                  go_wp2_with fail
                  refine (zzTakes_any aK _ cK K q sh sc _ RK.out).mono ?_
                  rintro e w12 ⟨rfl, hB⟩
                  have HB12 : Hid _ := HB9.out.trans ((HBr.out.trans (hB.mono HBr.out.size)).mono HB9.out.size)
                  clear hB
                  rw [HKT.out]
                  go_wp2
                  go_ret
                  exact ⟨rfl, HB12.out⟩

/-! ### the early returns -/
set_option maxHeartbeats 1000000 in
set_option maxRecDepth 100000 in
theorem law5_long (a : Option Addr) (n cap : Nat) (q : Bool) (sh sc el : ByteArray) (k : Int) (q2 : Bool) (sh2 : ByteArray) (w : World) (hn : ¬ n ≤ 1048576) (hm : n ≤ maxLen) :
    Calls Try.prog 5 #[.slice a n cap, .bool q, .string sh, .string sc, .string el, .int .i64 k, .bool q2, .string sh2] w fun e w' => e = .returned (.bool true) ∧ Below w.heap.size w w' := by
  go_enter Try.func5, Try.ntmps5
  go_wp2_with fail
  refine (zz14' a n cap q sh sc el k q2 sh2 _ hn hm).mono ?_
  rintro e w0 ⟨rfl, rfl⟩
  go_wp2
  go_ret
  exact ⟨rfl, Below.refl _ _⟩

set_option maxHeartbeats 4000000 in
set_option maxRecDepth 100000 in
theorem law5_k (a : Option Addr) (n cap : Nat) (ss : List ByteArray) (q : Bool) (sh sc el : ByteArray) (k : Int) (q2 : Bool) (sh2 : ByteArray) (w : World) (hn : n ≤ 1048576) (hk : k < 0 ∨ (n : Int) < k) (hr : RowS w a n cap ss)
    (hs : ∀ i, (ss.getD i ByteArray.empty).size ≤ maxLen) (hsh0 : sh.size ≤ maxLen) (hsc0 : sc.size ≤ maxLen) (hel0 : el.size ≤ maxLen) (hsh20 : sh2.size ≤ maxLen) :
    Calls Try.prog 5 #[.slice a n cap, .bool q, .string sh, .string sc, .string el, .int .i64 k, .bool q2, .string sh2] w fun e w' => e = .returned (.bool true) ∧ Below w.heap.size w w' := by
  have HR : Hid (RowS w a n cap ss) := hr
  have HS0 : Hid (∀ i, (ss.getD i ByteArray.empty).size ≤ maxLen) := hs
  have HX : Hid (sh.size ≤ maxLen ∧ sc.size ≤ maxLen ∧ el.size ≤ maxLen ∧ sh2.size ≤ maxLen) := ⟨hsh0, hsc0, hel0, hsh20⟩
  have hk' : (decide (k < 0) = true) ∨ (decide (k < 0) = false ∧ decide ((n : Int) < k) = true) := by simp; omega
  clear hr hs hsh0 hsc0 hel0 hsh20 hk
  go_enter Try.func5, Try.ntmps5
  go_wp2_with fail
  refine (zz14 a n cap ss q sh sc el _ q2 sh2 _ hn HR.out HS0.out HX.out.1 HX.out.2.1 HX.out.2.2.1 HX.out.2.2.2).mono ?_
  rintro e w0 ⟨b, rfl, rfl, hb⟩
  cases b with
  | false =>
    clear hb
    go_wp2
    go_ret
    exact ⟨rfl, Below.refl _ _⟩
  | true =>
  have HSM := hb rfl
  clear hb
  have HS : Hid (∀ i, (ss.getD i ByteArray.empty).size ≤ 1048576) := HSM.1
  have hsh1 : sh.size ≤ 1048576 := HSM.2 sh (by simp)
  have hsc1 : sc.size ≤ 1048576 := HSM.2 sc (by simp)
  have hel1 : el.size ≤ 1048576 := HSM.2 el (by simp)
  have hsg1 : sh2.size ≤ 1048576 := HSM.2 sh2 (by simp)
  clear HSM HS0 HX
  by_cases hsh : sh.size ≤ 262144
  case neg =>
    have hd1 : decide ((262144 : Int) < (sh.size : Int)) = true := by simp; omega
    go_wp2
    go_ret
    exact ⟨rfl, Below.refl _ _⟩
  have hd1 : decide ((262144 : Int) < (sh.size : Int)) = false := by simp; omega
  by_cases hsc : sc.size ≤ 262144
  case neg =>
    have hd2 : decide ((262144 : Int) < (sc.size : Int)) = true := by simp; omega
    go_wp2
    go_ret
    exact ⟨rfl, Below.refl _ _⟩
  have hd2 : decide ((262144 : Int) < (sc.size : Int)) = false := by simp; omega
  by_cases hel : el.size ≤ 262144
  case neg =>
    have hd3 : decide ((262144 : Int) < (el.size : Int)) = true := by simp; omega
    go_wp2
    go_ret
    exact ⟨rfl, Below.refl _ _⟩
  have hd3 : decide ((262144 : Int) < (el.size : Int)) = false := by simp; omega
  by_cases hsg : sh2.size ≤ 262144
  case neg =>
    have hd4 : decide ((262144 : Int) < (sh2.size : Int)) = true := by simp; omega
    go_wp2
    go_ret
    exact ⟨rfl, Below.refl _ _⟩
  have hd4 : decide ((262144 : Int) < (sh2.size : Int)) = false := by simp; omega
  go_wp2_with fail
  refine (tooBig_any a n cap ss _ _ HR.out ⟨by omega, by omega⟩ HS.out).mono ?_
  rintro e w0 ⟨b, rfl, rfl, hb⟩
  cases b with
  | true =>
    clear hb
    go_wp2
    go_ret
    exact ⟨rfl, Below.refl _ _⟩
  | false =>
  clear hb HS
  rcases hk' with hd | ⟨hd, hd5⟩
  all_goals
    go_wp2
    go_ret
    exact ⟨rfl, Below.refl _ _⟩

end Go.Proofs.Qxb6619379a
