/-
  significant (32): the plain function and the walk.
-/
import Derived.Test.Qxb6619243aWalksE
import Derived.Deep.DeepCutAuto
import Derived.Deep.CutBlock
namespace Go.Proofs.Qxb6619243a
open Go.RowKit

/-- a Number, as plain data -/
structure Num where
  neg : Bool
  hi : List Int
  lo : List Int
  point : Int
  big : Option (List Int)

def Num.zero : Num := ⟨false, [], [], 0, .none⟩

/-- the digits, trimmed; and the shift -/
def loIn (I F : List Int) : List Int := if Qdec.trimL I = [] then Qdec.trimL F else F
def loOf (I F : List Int) : List Int := Qdec.trimR (loIn I F)
def hiOf (I F : List Int) : List Int := if loOf I F = [] then Qdec.trimR (Qdec.trimL I) else Qdec.trimL I
def shiftOf (I F : List Int) : Int := (I.length : Int) - Qdec.lead I - (if Qdec.trimL I = [] then Qdec.lead F else 0)
def sigOf (neg : Bool) (I F E : List Int) : Num :=
  if hiOf I F = [] ∧ loOf I F = [] then Num.zero
  else if (Qdec.smallExp E).2 then ⟨neg, hiOf I F, loOf I F, shiftOf I F + (Qdec.smallExp E).1, .none⟩
  else ⟨neg, hiOf I F, loOf I F, shiftOf I F, .some E⟩

/-- the zero Number's block -/
def zNum : Array Value := #[.bool false, .slice none 0 0, .slice none 0 0, .int .i64 0, .slice none 0 0]

/-! ### right trims -/
theorem trimR_take (L : List Int) (n m : Nat) (hn : L.length = n) (hm : m ≤ n) (h : Qdec.lead L.reverse = n - m) : Qdec.trimR L = L.take m := by
  unfold Qdec.trimR Qdec.trimL
  rw [h, List.drop_reverse, List.reverse_reverse, hn]
  congr 1
  omega
theorem trimR_len (L : List Int) : (Qdec.trimR L).length ≤ L.length := by
  unfold Qdec.trimR Qdec.trimL
  simp
theorem Row.pre {w : World} {a : Option Addr} {n c : Nat} {xs : List Int} (h : Row w a n c xs) (m : Nat) (hm : m ≤ n) : Row w a m c (xs.take m) := by
  have := h.len; have := h.le; have := h.cm; have := h.bd
  refine ⟨by simp; omega, by omega, by omega, by omega, fun h0 => ?_, fun i => ?_⟩
  · obtain ⟨b, off, ha, hc⟩ := h.cells (by omega)
    refine ⟨b, off, ha, fun i hi => ?_⟩
    rw [hc i (by omega)]
    simp [hi]
  · by_cases hi : i < m
    · have := h.byte i
      simpa [List.getElem?_take, hi] using this
    · simp [List.getElem?_take, hi]
theorem take_take_pred (L : List Int) (m : Nat) : (L.take (m + 1)).take m = L.take m := by
  rw [List.take_take]; congr 1; omega
theorem getD_take_lt (L : List Int) (m i : Nat) (h : i < m) : (L.take m).getD i 0 = L.getD i 0 := by
  simp [h]

theorem smallExp_bd (E : List Int) (h : Qdec.isExpT E = true) : -999999999999999999 ≤ (Qdec.smallExp E).1 ∧ (Qdec.smallExp E).1 ≤ 999999999999999999 := by
  unfold Qdec.smallExp
  by_cases hl : 18 < (Qdec.trimL (Qdec.unsign E)).length
  · rw [if_pos hl]; simp
  · rw [if_neg hl]
    have := val_bd18 (Qdec.trimL (Qdec.unsign E)) (Qdec.allDig_drop _ _ h) (by omega)
    simp only
    split <;> omega
theorem smallExp_false (E : List Int) (h : (Qdec.smallExp E).2 = false) : 18 < E.length := by
  unfold Qdec.smallExp at h
  split at h
  · next hl =>
    have h1 := Qdec.trimL_length (Qdec.unsign E)
    have h2 : (Qdec.unsign E).length ≤ E.length := by rw [unsign_eq]; simp
    omega
  · simp at h

def IsBig (w : World) (a : Option Addr) (n c : Nat) : Option (List Int) → Prop
  | .none => a = .none ∧ n = 0 ∧ c = 0
  | .some e => a.isNone = false ∧ Row w a n c e
/-- the value of a Number in memory -/
def IsNum (w : World) (v : Value) (N : Num) : Prop :=
  ∃ (a1 : Option Addr) (n1 c1 : Nat) (a2 : Option Addr) (n2 c2 : Nat) (a3 : Option Addr) (n3 c3 : Nat),
    v = .agg #[.bool N.neg, .slice a1 n1 c1, .slice a2 n2 c2, .int .i64 N.point, .slice a3 n3 c3] ∧ Row w a1 n1 c1 N.hi ∧ Row w a2 n2 c2 N.lo ∧ IsBig w a3 n3 c3 N.big

theorem nil_of_len {L : List Int} {n : Nat} (h : L.length = n) (h0 : n = 0) : L = [] := List.eq_nil_of_length_eq_zero (by omega)
theorem ne_nil_of_len {L : List Int} {n : Nat} (h : L.length = n) (h0 : ¬ n = 0) : ¬ L = [] := by
  intro e; subst e; simp at h; omega

set_option maxHeartbeats 4000000 in
theorem significant_any (neg : Bool) (aI : Option Addr) (nI cI : Nat) (I : List Int) (aF : Option Addr) (nF cF : Nat) (F : List Int) (aE : Option Addr) (nE cE : Nat) (E : List Int) (w0 w : World) (hb : Below w0.heap.size w0 w)
    (hI : Row w0 aI nI cI I) (hF : Row w0 aF nF cF F) (hE : Row w0 aE nE cE E) (hT : Qdec.isExpT E = true) :
    Calls Try.prog 32 #[.bool neg, .slice aI nI cI, .slice aF nF cF, .slice aE nE cE] w fun e w' => ∃ v, e = .returned v ∧ IsNum w0 v (sigOf neg I F E) ∧ Below w.heap.size w w' := by
  obtain ⟨W, HW⟩ : ∃ W, Hid (W = w.alloc (.cells #[.bool false, .slice none 0 0, .slice none 0 0, .int .i64 0, .slice none 0 0] 28)) := ⟨_, rfl⟩
  have HB0 : Hid (Below w0.heap.size w0 w) := hb
  have HBW : Hid (Below w0.heap.size w0 W) := by rw [HW.out]; exact hb.alloc hb.size _
  clear hb
  have HI : Hid (Row w0 aI nI cI I) := hI
  have HF : Hid (Row w0 aF nF cF F) := hF
  have HE : Hid (Row w0 aE nE cE E) := hE
  have HT : Hid (Qdec.isExpT E = true) := hT
  have hnI := hI.bd
  have hnF := hF.bd
  clear hI hF hE hT
  go_enter Try.func32, Try.ntmps32
  go_upto_block 0 with fail
  rw [← HW.out]
  go_cut [9, 11] (fun hi sh wc => ∃ (a' : Option Addr) (n' c' : Nat), hi = .slice a' n' c' ∧ Hid (Row w0 a' n' c' (Qdec.trimL I)) ∧ sh = .int .i64 ((nI : Int) - (Qdec.lead I : Int)) ∧ W = wc)
  case first =>
    go_wp2
    go_loop [9, 11] (fun hi sh => ∃ (k : Nat) (a' : Option Addr) (n' c' : Nat), k ≤ nI ∧ hi = .slice a' n' c' ∧ Hid (Row w0 a' n' c' (I.drop k)) ∧ sh = .int .i64 ((nI : Int) - (k : Int)) ∧ Hid (∀ i, i < k → I.getD i 0 = 48)) (fun hi _ => lenOf hi)
    case atStart => exact ⟨0, _, _, _, Nat.zero_le _, rfl, HI.out, by go_num, fun i hi => by omega⟩
    case round =>
      obtain ⟨k, a', n', cap', hk, rfl, HR2, rfl, hall⟩ := hrel
      have hbd' := HR2.out.bd
      have hle' := HR2.out.le
      have HL : Hid (I.length = nI) := HI.out.len
      by_cases hn' : n' = 0
      · subst hn'
        have hd' : decide ((0 : Int) < ((0 : Nat) : Int)) = false := by simp
        have hlead : Hid (Qdec.lead I = k) := by
          have h1 := HR2.out.len
          have h2 := HL.out
          simp at h1
          exact Qdec.lead_eq I k hall.out (by omega) (fun h => by omega)
        go_wp2
        go_meet
        case rel => exact ⟨a', 0, cap', rfl, by unfold Qdec.trimL; rw [hlead.out]; exact HR2, by rw [hlead.out], rfl⟩
      · obtain ⟨b', off', rfl, hc'⟩ := (HR2.out.below HBW.out (Nat.le_refl _)).cells (by omega)
        have hc1 := hc' 0 (by omega)
        rw [Nat.add_zero] at hc1
        have hpos' : (0 : Int) < (n' : Int) := by omega
        have HG : Hid ((I.drop k).getD 0 0 = I.getD k 0) := by simp [Hid]
        rw [HG.out] at hc1
        clear hc' HG
        generalize hg : I.getD k 0 = c at hc1
        have HG : Hid (I.getD k 0 = c) := hg
        clear hg
        by_cases h48 : c = 48
        · subst h48
          have hall2 : Hid (∀ i, i < k + 1 → I.getD i 0 = 48) := by
            intro i hi
            by_cases e : i = k
            · subst e; exact HG.out
            · exact hall.out i (by omega)
          have hk2 : k + 1 ≤ nI := by have h1 := HR2.out.len; have h2 := HL.out; simp at h1; omega
          have hdd : Hid ((I.drop k).drop 1 = I.drop (k + 1)) := by simp [Hid]
          by_cases hcap' : cap' = 1
          · subst hcap'
            obtain rfl : n' = 1 := by omega
            have HR3 : Hid (Row w0 (some ⟨b', off', none⟩) 0 0 (I.drop (k + 1))) := by have := HR2.out.tail1' (by omega); rwa [hdd.out] at this
            clear HR2 hdd hall
            go_wp2
            go_round
            case rel => exact ⟨k + 1, _, _, _, hk2, rfl, HR3, by go_num, hall2⟩
            case measure => simp [lenOf]
          · have HR3 : Hid (Row w0 (some ⟨b', off' + 1, none⟩) (n' - 1) (cap' - 1) (I.drop (k + 1))) := by have := HR2.out.tail1 (by omega) hcap'; rwa [hdd.out] at this
            clear HR2 hdd hall
            go_wp2
            go_round
            case rel => exact ⟨k + 1, _, _, _, hk2, rfl, HR3, by go_num, hall2⟩
            case measure => simp [lenOf]; omega
        · have hne : (c == 48) = false := by simpa using h48
          have hlead : Hid (Qdec.lead I = k) := Qdec.lead_eq I k hall.out (by rw [HL.out]; exact hk) (fun _ => by rw [HG.out]; exact h48)
          clear h48 hall HG
          go_wp2
          go_meet
          case rel => exact ⟨_, n', cap', rfl, by unfold Qdec.trimL; rw [hlead.out]; exact HR2, by rw [hlead.out], rfl⟩
  case rest =>
    obtain ⟨aH, nH, cH, rfl, HH, rfl, rfl⟩ := hcut
    have hlI : Qdec.lead I ≤ nI := by have := Qdec.lead_le I; rwa [HI.out.len] at this
    generalize hLI : Qdec.lead I = lI at hlI
    have HLI : Hid (Qdec.lead I = lI) := hLI
    clear hLI
    have hnH := HH.out.bd
    go_upto_if 34 with fail
    go_cut [10, 11] (fun lo sh wc => ∃ (a' : Option Addr) (n' c' : Nat), lo = .slice a' n' c' ∧ Hid (Row w0 a' n' c' (loIn I F)) ∧ sh = .int .i64 (shiftOf I F) ∧ W = wc)
    case first =>
      by_cases hz0 : nH = 0
      · subst hz0
        have HZ : Hid (Qdec.trimL I = []) := nil_of_len HH.out.len rfl
        go_wp2
        go_loop [10, 11] (fun hi sh => ∃ (k : Nat) (a' : Option Addr) (n' c' : Nat), k ≤ nF ∧ hi = .slice a' n' c' ∧ Hid (Row w0 a' n' c' (F.drop k)) ∧ sh = .int .i64 ((nI : Int) - (lI : Int) - (k : Int)) ∧ Hid (∀ i, i < k → F.getD i 0 = 48)) (fun hi _ => lenOf hi)
        case atStart => exact ⟨0, _, _, _, Nat.zero_le _, rfl, HF.out, by go_num, fun i hi => by omega⟩
        case round =>
          obtain ⟨k, a', n', cap', hk, rfl, HR2, rfl, hall⟩ := hrel
          have hbd' := HR2.out.bd
          have hle' := HR2.out.le
          have HL : Hid (F.length = nF) := HF.out.len
          by_cases hn' : n' = 0
          · subst hn'
            have hd' : decide ((0 : Int) < ((0 : Nat) : Int)) = false := by simp
            have hlead : Hid (Qdec.lead F = k) := by
              have h1 := HR2.out.len
              have h2 := HL.out
              simp at h1
              exact Qdec.lead_eq F k hall.out (by omega) (fun h => by omega)
            go_wp2
            go_meet
            case rel => exact ⟨a', 0, cap', rfl, by unfold loIn; rw [if_pos HZ.out]; unfold Qdec.trimL; rw [hlead.out]; exact HR2, by unfold shiftOf; rw [if_pos HZ.out, hlead.out, HLI.out, HI.out.len], rfl⟩
          · obtain ⟨b', off', rfl, hc'⟩ := (HR2.out.below HBW.out (Nat.le_refl _)).cells (by omega)
            have hc1 := hc' 0 (by omega)
            rw [Nat.add_zero] at hc1
            have hpos' : (0 : Int) < (n' : Int) := by omega
            have HG : Hid ((F.drop k).getD 0 0 = F.getD k 0) := by simp [Hid]
            rw [HG.out] at hc1
            clear hc' HG
            generalize hg : F.getD k 0 = c at hc1
            have HG : Hid (F.getD k 0 = c) := hg
            clear hg
            by_cases h48 : c = 48
            · subst h48
              have hall2 : Hid (∀ i, i < k + 1 → F.getD i 0 = 48) := by
                intro i hi
                by_cases e : i = k
                · subst e; exact HG.out
                · exact hall.out i (by omega)
              have hk2 : k + 1 ≤ nF := by have h1 := HR2.out.len; have h2 := HL.out; simp at h1; omega
              have hdd : Hid ((F.drop k).drop 1 = F.drop (k + 1)) := by simp [Hid]
              by_cases hcap' : cap' = 1
              · subst hcap'
                obtain rfl : n' = 1 := by omega
                have HR3 : Hid (Row w0 (some ⟨b', off', none⟩) 0 0 (F.drop (k + 1))) := by have := HR2.out.tail1' (by omega); rwa [hdd.out] at this
                clear HR2 hdd hall
                go_wp2
                go_round
                case rel => exact ⟨k + 1, _, _, _, hk2, rfl, HR3, by go_num, hall2⟩
                case measure => simp [lenOf]
              · have HR3 : Hid (Row w0 (some ⟨b', off' + 1, none⟩) (n' - 1) (cap' - 1) (F.drop (k + 1))) := by have := HR2.out.tail1 (by omega) hcap'; rwa [hdd.out] at this
                clear HR2 hdd hall
                go_wp2
                go_round
                case rel => exact ⟨k + 1, hk2, _, _, _, ⟨rfl, rfl, rfl⟩, HR3, by omega, hall2⟩
                case measure => simp [lenOf]; omega
            · have hne : (c == 48) = false := by simpa using h48
              have hlead : Hid (Qdec.lead F = k) := Qdec.lead_eq F k hall.out (by rw [HL.out]; exact hk) (fun _ => by rw [HG.out]; exact h48)
              clear h48 hall HG
              go_wp2
              go_meet
              case rel => exact ⟨_, n', cap', rfl, by unfold loIn; rw [if_pos HZ.out]; unfold Qdec.trimL; rw [hlead.out]; exact HR2, by unfold shiftOf; rw [if_pos HZ.out, hlead.out, HLI.out, HI.out.len], rfl⟩
      · have hz : ((nH : Int) == 0) = false := by simp; omega
        have HZ : Hid (¬ Qdec.trimL I = []) := ne_nil_of_len HH.out.len hz0
        go_wp2
        go_meet
        case rel => exact ⟨_, _, _, rfl, by unfold loIn; rw [if_neg HZ.out]; exact HF, by unfold shiftOf; rw [if_neg HZ.out, HLI.out, HI.out.len]; go_num, rfl⟩
    case rest =>
      obtain ⟨aL, nL, cL, rfl, HLo, rfl, rfl⟩ := hcut
      have hnL := HLo.out.bd
      go_upto_block 4 with fail
      go_cut [10] (fun lo wc => ∃ (a' : Option Addr) (n' c' : Nat), lo = .slice a' n' c' ∧ Hid (Row w0 a' n' c' (loOf I F)) ∧ W = wc)
      case first =>
        go_wp2
        go_loop [10] (fun hi => ∃ (m : Nat) (a' : Option Addr) (c' : Nat), m ≤ nL ∧ hi = .slice a' m c' ∧ Hid (Row w0 a' m c' ((loIn I F).take m)) ∧ Hid (∀ i, m ≤ i → i < nL → ((loIn I F)).getD i 0 = 48)) (fun hi => lenOf hi)
        case atStart => exact ⟨nL, _, _, Nat.le_refl _, rfl, by rw [List.take_of_length_le (by rw [HLo.out.len]; exact Nat.le_refl _)]; exact HLo, fun i h1 h2 => by omega⟩
        case round =>
          obtain ⟨m, a', cap', hm, rfl, HR2, hall⟩ := hrel
          have hbd' := HR2.out.bd
          have hle' := HR2.out.le
          have HL : Hid (((loIn I F)).length = nL) := HLo.out.len
          by_cases hn' : m = 0
          · subst hn'
            have hd' : decide ((0 : Int) < ((0 : Nat) : Int)) = false := by simp
            have htr : Hid (Qdec.trimR ((loIn I F)) = ((loIn I F)).take 0) := trimR_take _ nL 0 HL.out hm (lead_rev _ nL 0 HL.out hm hall.out (fun h => by omega))
            go_wp2
            go_meet
            case rel => exact ⟨a', 0, cap', rfl, by unfold loOf; rw [htr.out]; exact HR2, rfl⟩
          · obtain ⟨j, rfl⟩ : ∃ j, m = j + 1 := ⟨m - 1, by omega⟩
            obtain ⟨b', off', rfl, hc'⟩ := (HR2.out.below HBW.out (Nat.le_refl _)).cells (by omega)
            have hc1 := hc' j (by omega)
            rw [getD_take_lt _ _ _ (by omega)] at hc1
            have hpos' : (0 : Int) < ((j + 1 : Nat) : Int) := by omega
            have hcz : ¬ cap' = 0 := by omega
            clear hc'
            generalize hg : ((loIn I F)).getD j 0 = c at hc1
            have HG : Hid (((loIn I F)).getD j 0 = c) := hg
            clear hg
            by_cases h48 : c = 48
            · subst h48
              have hall2 : Hid (∀ i, j ≤ i → i < nL → ((loIn I F)).getD i 0 = 48) := by
                intro i hi1 hi
                by_cases e : i = j
                · subst e; exact HG.out
                · exact hall.out i (by omega) hi
              have HR3 : Hid (Row w0 (some ⟨b', off', none⟩) j cap' (((loIn I F)).take j)) := by have := HR2.out.pre j (by omega); rwa [take_take_pred] at this
              clear HR2 hall
              go_wp2
              go_round
              case rel => exact ⟨j, _, _, by omega, rfl, HR3, hall2⟩
              case measure => simp [lenOf]
            · have hne : (c == 48) = false := by simpa using h48
              have htr : Hid (Qdec.trimR ((loIn I F)) = ((loIn I F)).take (j + 1)) := trimR_take _ nL (j + 1) HL.out hm (lead_rev _ nL (j + 1) HL.out hm hall.out (fun _ => by simpa using (by rw [HG.out]; exact h48 : ((loIn I F)).getD j 0 ≠ 48)))
              clear h48 hall HG
              go_wp2
              go_meet
              case rel => exact ⟨_, j + 1, cap', rfl, by unfold loOf; rw [htr.out]; exact HR2, rfl⟩
      case rest =>
        obtain ⟨aM, nM, cM, rfl, HM, rfl⟩ := hcut
        have hnM := HM.out.bd
        clear HLo hnL
        go_upto_if 67 with fail
        go_cut [9] (fun hi wc => ∃ (a' : Option Addr) (n' c' : Nat), hi = .slice a' n' c' ∧ Hid (Row w0 a' n' c' (hiOf I F)) ∧ W = wc)
        case first =>
          by_cases hz0 : nM = 0
          · subst hz0
            have HZ : Hid (loOf I F = []) := nil_of_len HM.out.len rfl
            go_wp2
            go_loop [9] (fun hi => ∃ (m : Nat) (a' : Option Addr) (c' : Nat), m ≤ nH ∧ hi = .slice a' m c' ∧ Hid (Row w0 a' m c' ((Qdec.trimL I).take m)) ∧ Hid (∀ i, m ≤ i → i < nH → ((Qdec.trimL I)).getD i 0 = 48)) (fun hi => lenOf hi)
            case atStart => exact ⟨nH, _, _, Nat.le_refl _, rfl, by rw [List.take_of_length_le (by rw [HH.out.len]; exact Nat.le_refl _)]; exact HH, fun i h1 h2 => by omega⟩
            case round =>
              obtain ⟨m, a', cap', hm, rfl, HR2, hall⟩ := hrel
              have hbd' := HR2.out.bd
              have hle' := HR2.out.le
              have HL : Hid (((Qdec.trimL I)).length = nH) := HH.out.len
              by_cases hn' : m = 0
              · subst hn'
                have hd' : decide ((0 : Int) < ((0 : Nat) : Int)) = false := by simp
                have htr : Hid (Qdec.trimR ((Qdec.trimL I)) = ((Qdec.trimL I)).take 0) := trimR_take _ nH 0 HL.out hm (lead_rev _ nH 0 HL.out hm hall.out (fun h => by omega))
                go_wp2
                go_meet
                case rel => exact ⟨a', 0, cap', rfl, by unfold hiOf; rw [if_pos HZ.out, htr.out]; exact HR2, rfl⟩
              · obtain ⟨j, rfl⟩ : ∃ j, m = j + 1 := ⟨m - 1, by omega⟩
                obtain ⟨b', off', rfl, hc'⟩ := (HR2.out.below HBW.out (Nat.le_refl _)).cells (by omega)
                have hc1 := hc' j (by omega)
                rw [getD_take_lt _ _ _ (by omega)] at hc1
                have hpos' : (0 : Int) < ((j + 1 : Nat) : Int) := by omega
                have hcz : ¬ cap' = 0 := by omega
                clear hc'
                generalize hg : ((Qdec.trimL I)).getD j 0 = c at hc1
                have HG : Hid (((Qdec.trimL I)).getD j 0 = c) := hg
                clear hg
                by_cases h48 : c = 48
                · subst h48
                  have hall2 : Hid (∀ i, j ≤ i → i < nH → ((Qdec.trimL I)).getD i 0 = 48) := by
                    intro i hi1 hi
                    by_cases e : i = j
                    · subst e; exact HG.out
                    · exact hall.out i (by omega) hi
                  have HR3 : Hid (Row w0 (some ⟨b', off', none⟩) j cap' (((Qdec.trimL I)).take j)) := by have := HR2.out.pre j (by omega); rwa [take_take_pred] at this
                  clear HR2 hall
                  go_wp2
                  go_round
                  case rel => exact ⟨j, _, _, by omega, rfl, HR3, hall2⟩
                  case measure => simp [lenOf]
                · have hne : (c == 48) = false := by simpa using h48
                  have htr : Hid (Qdec.trimR ((Qdec.trimL I)) = ((Qdec.trimL I)).take (j + 1)) := trimR_take _ nH (j + 1) HL.out hm (lead_rev _ nH (j + 1) HL.out hm hall.out (fun _ => by simpa using (by rw [HG.out]; exact h48 : ((Qdec.trimL I)).getD j 0 ≠ 48)))
                  clear h48 hall HG
                  go_wp2
                  go_meet
                  case rel => exact ⟨_, j + 1, cap', rfl, by unfold hiOf; rw [if_pos HZ.out, htr.out]; exact HR2, rfl⟩
          · have hz : ((nM : Int) == 0) = false := by simp; omega
            have HZ : Hid (¬ loOf I F = []) := ne_nil_of_len HM.out.len hz0
            go_wp2
            go_meet
            case rel => exact ⟨_, _, _, rfl, by unfold hiOf; rw [if_neg HZ.out]; exact HH, rfl⟩
        case rest =>
          obtain ⟨aG, nG, cG, rfl, HG, rfl⟩ := hcut
          clear HH hnH
          have hnG := HG.out.bd
          have HSB : Hid (-2097152 ≤ shiftOf I F ∧ shiftOf I F ≤ 2097152) := by
            have h1 := HLI.out
            have h2 := HI.out.len
            have h3 := Qdec.lead_le F
            have h4 := HF.out.len
            unfold Hid shiftOf
            split <;> omega
          obtain ⟨sh, hsh⟩ : ∃ s, shiftOf I F = s := ⟨_, rfl⟩
          rw [hsh] at HSB ⊢
          have HSH : Hid (shiftOf I F = sh) := hsh
          clear hsh
          by_cases hboth : nG = 0 ∧ nM = 0
          · obtain ⟨rfl, rfl⟩ := hboth
            have HZ : Hid (sigOf neg I F E = Num.zero) := by unfold Hid sigOf; rw [if_pos ⟨nil_of_len HG.out.len rfl, nil_of_len HM.out.len rfl⟩]
            rw [HW.out]
            go_wp2
            refine bodyPost_ret (v := .agg #[.bool false, .slice none 0 0, .slice none 0 0, .int .i64 0, .slice none 0 0]) (by simp [results, Try.results32, go_sem]) rfl ⟨_, rfl, ?_, ?_⟩
            · rw [HZ.out]
              exact ⟨none, 0, 0, none, 0, 0, none, 0, 0, rfl, Row.nil _, Row.nil _, rfl, rfl, rfl⟩
            · exact (Below.refl _ _).alloc (Nat.le_refl _) _
          · have HZ : Hid (¬ (hiOf I F = [] ∧ loOf I F = [])) := by
              intro ⟨e1, e2⟩
              have h1 := HG.out.len
              have h2 := HM.out.len
              rw [e1] at h1
              rw [e2] at h2
              exact hboth ⟨h1.symm, h2.symm⟩
            have HSE := smallExp_bd E HT.out
            obtain ⟨hse1, hse2⟩ := HSE
            obtain ⟨hsb1, hsb2⟩ := HSB.out
            have HSF := smallExp_false E
            have HSO : Hid (sigOf neg I F E = if (Qdec.smallExp E).2 then ⟨neg, hiOf I F, loOf I F, sh + (Qdec.smallExp E).1, .none⟩ else ⟨neg, hiOf I F, loOf I F, sh, .some E⟩) := by
              unfold Hid sigOf
              rw [if_neg HZ.out, HSH.out]
            have HSF : Hid ((Qdec.smallExp E).2 = false → 18 < E.length) := HSF
            obtain ⟨ev, hev⟩ : ∃ p, Qdec.smallExp E = p := ⟨_, rfl⟩
            rw [hev] at hse1 hse2 HSO HSF
            have HEV : Hid (Qdec.smallExp E = ev) := hev
            clear hev
            obtain ⟨ee, eb⟩ := ev
            simp only at hse1 hse2
            rw [HW.out]
            have h2w : (((nG : Int) == 0) = true ∧ ((nM : Int) == 0) = false) ∨ ((nG : Int) == 0) = false := by simp; omega
            clear hboth
            rcases h2w with ⟨hG0, hM0⟩ | hG0
            all_goals
              go_wp2_with fail
              refine (smallExponent_any aE nE cE E _ ?_ HT.out).mono ?_
              · exact HE.out.below ((HB0.out.alloc HB0.out.size _).alloc (by have := HB0.out.size; simp; omega) _) (Nat.le_refl _)
              rintro e w2 ⟨rfl, rfl⟩
              rw [HEV.out]
              cases eb with
              | false =>
                go_wp2
                have hbb : Below w.heap.size w _ := ((Below.refl w.heap.size w).alloc (Nat.le_refl _) (.cells #[.bool neg, .slice aG nG cG, .slice aM nM cM, .int .i64 sh, .slice aE nE cE] 28)).alloc (by simp) (.cells #[.bool neg, .slice aG nG cG, .slice aM nM cM, .int .i64 sh, .slice aE nE cE] 28)
                refine bodyPost_ret (v := .agg #[.bool neg, .slice aG nG cG, .slice aM nM cM, .int .i64 sh, .slice aE nE cE]) (by simp [results, Try.results32, go_sem]) rfl ⟨_, rfl, ?_, hbb⟩
                rw [HSO.out]
                refine ⟨aG, nG, cG, aM, nM, cM, aE, nE, cE, rfl, HG.out, HM.out, ?_, HE.out⟩
                obtain ⟨b0, o0, e0, _⟩ := HE.out.cells (by have := HSF.out (by simp); have := HE.out.len; omega)
                rw [e0]
                rfl
              | true =>
                go_wp2
                have hbb : Below w.heap.size w _ := ((Below.refl w.heap.size w).alloc (Nat.le_refl _) (.cells #[.bool neg, .slice aG nG cG, .slice aM nM cM, .int .i64 (sh + ee), .slice none 0 0] 28)).alloc (by simp) (.cells #[.bool neg, .slice aG nG cG, .slice aM nM cM, .int .i64 (sh + ee), .slice none 0 0] 28)
                refine bodyPost_ret (v := .agg #[.bool neg, .slice aG nG cG, .slice aM nM cM, .int .i64 (sh + ee), .slice none 0 0]) (by simp [results, Try.results32, go_sem]) rfl ⟨_, rfl, ?_, hbb⟩
                rw [HSO.out]
                exact ⟨aG, nG, cG, aM, nM, cM, none, 0, 0, rfl, HG.out, HM.out, rfl, rfl, rfl⟩

end Go.Proofs.Qxb6619243a
