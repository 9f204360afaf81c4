/-
  isZeroNumber (24), FnParseMatchesGrammarAutomaton (6).
-/
import Derived.Test.Qxb6619243aJson1
import Derived.Test.Qxb6619243aLaw3
namespace Go.Proofs.Qxb6619243a
open Go.RowKit

set_option maxHeartbeats 1000000 in
set_option maxRecDepth 100000 in
theorem isZero_any (a1 : Option Addr) (c1 : Nat) (a2 : Option Addr) (c2 : Nat) (w : World) :
    Calls Try.prog 24 #[.agg #[.bool false, .slice a1 0 c1, .slice a2 0 c2, .int .i64 0, .slice none 0 0]] w fun e w' => e = .returned (.bool true) ∧ Below w.heap.size w w' := by
  have hnil := fun (w : World) (a : Option Addr) (n c : Nat) => Lib.run_eql_slice_nil (P := Try.prog) w 22 5 a n c 0 0 Try.underlying22
  go_enter Try.func24, Try.ntmps24
  go_wp2_with fail
  refine (zzParts_any _ _ _ _ _ _ _ _ _ _ _ _).mono ?_
  rintro e w1 ⟨rfl, hB⟩
  have HB : Hid (Below w.heap.size w w1) := ((Below.refl w.heap.size w).alloc (Nat.le_refl _) _).trans (hB.mono (by simp))
  clear hB
  go_wp2
  go_ret
  exact ⟨rfl, HB.out⟩

set_option maxHeartbeats 4000000 in
set_option maxRecDepth 100000 in
theorem law6 (a : Option Addr) (n cap : Nat) (xs : List Int) (w : World) (hn : n ≤ 1048576) (hr : Row w a n cap xs) :
    Calls Try.prog 6 #[.slice a n cap] w fun e w' => e = .returned (.bool true) ∧ Below w.heap.size w w' := by
  have HR : Hid (Row w a n cap xs) := hr
  have HG : Hid (Rl (acc 0 false [] 0 [] xs) (parse xs)) := grammar xs
  clear hr
  go_enter Try.func6, Try.ntmps6
  go_wp2_with fail
  refine (zz21 a n cap _ hn).mono ?_
  rintro e w0 ⟨rfl, rfl⟩
  go_wp2_with fail
  refine (cloneBytes_any a n cap xs _ HR.out).mono ?_
  rintro e w1 ⟨a1, c1, rfl, _, q1, hB⟩
  have R1 : Hid (Row w1 a1 n c1 xs) := q1
  have HB1 : Hid (Below _ _ w1) := hB
  clear q1 hB HR
  go_wp2_with fail
  refine (cloneBytes_any a1 n c1 xs _ R1.out).mono ?_
  rintro e w2 ⟨a2, c2, rfl, _, q1, hB⟩
  have R2 : Hid (Row w2 a2 n c2 xs) := q1
  have R12 : Hid (Row w2 a1 n c1 xs) := R1.out.below hB (Nat.le_refl _)
  have HB2 : Hid (Below _ _ w2) := HB1.out.trans (hB.mono HB1.out.size)
  clear q1 hB R1 HB1
  go_wp2_with fail
  refine (json_any a1 n c1 xs _ hn R12.out).mono ?_
  rintro e w3 ⟨ok, g, il, vM, vE, rfl, hB, hJ⟩
  have R3 : Hid (Row w3 a2 n c2 xs) := R2.out.below hB (Nat.le_refl _)
  have HB3 : Hid (Below _ _ w3) := HB2.out.trans (hB.mono HB2.out.size)
  have HJ : Hid (JOut w3 ok g il vM vE (acc 0 false [] 0 [] xs)) := hJ
  clear hB hJ R2 R12 HB2
  generalize acc 0 false [] 0 [] xs = r at HG HJ
  cases r with
  | none =>
    have hok : ok = false := HJ.out
    subst hok
    have HP : Hid (parse xs = none) := HG.out
    clear HG HJ
    go_wp2_with fail
    refine (parse_any a2 n c2 xs _ R3.out).mono ?_
    rintro e w4 ⟨v, rfl, qN, hB⟩
    rw [HP.out] at qN
    rw [HP.out]
    obtain ⟨e1, f1, s1, e2, f2, s2, e3, f3, s3, hv, h1, h2, h3⟩ := qN
    have hf1 : f1 = 0 := h1.len.symm
    have hf2 : f2 = 0 := h2.len.symm
    obtain ⟨he3, hf3, hs3⟩ := h3
    rw [hf1, hf2, he3, hf3, hs3] at hv
    have hv' : v = .agg #[.bool false, .slice e1 0 s1, .slice e2 0 s2, .int .i64 0, .slice none 0 0] := hv
    have HB4 : Hid (Below _ _ w4) := HB3.out.trans (hB.mono HB3.out.size)
    clear hB h1 h2 hf1 hf2 he3 hf3 hs3 hv
    rw [hv']
    clear hv'
    go_wp2_with fail
    refine (isZero_any e1 s1 e2 s2 _).mono ?_
    rintro e w5 ⟨rfl, hB⟩
    have HB5 : Hid (Below _ _ w5) := (HB4.out.alloc HB4.out.size _).trans (hB.mono (by have := HB4.out.size; simp; omega))
    clear hB
    go_wp2
    go_ret
    exact ⟨rfl, HB5.out⟩
  | some r =>
    obtain ⟨g', m, il', ex⟩ := r
    obtain ⟨hok, hg, hil, ⟨aM, cM, hvM, rM⟩, ⟨aE, cE, hvE, rE⟩⟩ := HJ.out
    subst hok
    subst hg
    subst hil
    rw [hvM, hvE]
    have HP : Hid (parse xs = some (sigOf g (m.take il') (m.drop il') ex)) := HG.out.1
    have HIL : Hid (il' ≤ m.length) := HG.out.2.1
    have HT : Hid (Qdec.isExpT ex = true) := HG.out.2.2
    have RM : Hid (Row w3 aM m.length cM m) := rM
    have RE : Hid (Row w3 aE ex.length cE ex) := rE
    clear HG HJ hvM hvE rM rE
    go_wp2_with fail
    refine (parse_any a2 n c2 xs _ R3.out).mono ?_
    rintro e w4 ⟨v, rfl, qN, hB⟩
    rw [HP.out] at qN
    rw [HP.out]
    have HN4 : Hid (IsNum w4 v (sigOf g (m.take il') (m.drop il') ex)) := qN.below hB (Nat.le_refl _)
    have RM4 : Hid (Row w4 aM m.length cM m) := RM.out.below hB (Nat.le_refl _)
    have RE4 : Hid (Row w4 aE ex.length cE ex) := RE.out.below hB (Nat.le_refl _)
    have HB4 : Hid (Below _ _ w4) := HB3.out.trans (hB.mono HB3.out.size)
    clear qN hB RM RE HB3 R3
    obtain ⟨e1, f1, s1, e2, f2, s2, e3, f3, s3, hv, _⟩ := HN4.out
    rw [hv]
    rw [hv] at HN4
    clear hv
    have hb5 : Hid (Below w4.heap.size w4 (w4.alloc (.cells #[.bool (sigOf g (m.take il') (m.drop il') ex).neg, .slice e1 f1 s1, .slice e2 f2 s2, .int .i64 (sigOf g (m.take il') (m.drop il') ex).point, .slice e3 f3 s3] 28))) := (Below.refl _ _).alloc (Nat.le_refl _) _
    have HMM : Hid (m.take il' ++ m.drop il' = m) := List.take_append_drop il' m
    have HLI : Hid ((m.take il').length = il') := by have := HIL.out; unfold Hid; simp; omega
    go_wp2_with fail
    refine (matchesValue_any g (m.take il') (m.drop il') ex _ aM m.length cM il' aE ex.length cE _ (HN4.out.below hb5.out (Nat.le_refl _)) (by rw [HMM.out]; exact RM4.out.below hb5.out (Nat.le_refl _)) HLI.out (RE4.out.below hb5.out (Nat.le_refl _)) HT.out).mono ?_
    rintro e w9 ⟨rfl, hB⟩
    have HB9 : Hid (Below _ _ w9) := (HB4.out.trans (hb5.out.mono HB4.out.size)).trans (hB.mono (by have := HB4.out.size; simp; omega))
    clear hB
    go_wp2
    go_ret
    exact ⟨rfl, HB9.out⟩

set_option maxHeartbeats 1000000 in
theorem law6' (a : Option Addr) (n cap : Nat) (w : World) (hn : ¬ n ≤ 1048576) (hm : n ≤ maxLen) :
    Calls Try.prog 6 #[.slice a n cap] w fun e w' => e = .returned (.bool true) ∧ Below w.heap.size w w' := by
  go_enter Try.func6, Try.ntmps6
  go_wp2_with fail
  refine (zz21' a n cap _ hn hm).mono ?_
  rintro e w0 ⟨rfl, rfl⟩
  go_wp2
  go_ret
  exact ⟨rfl, Below.refl _ _⟩

end Go.Proofs.Qxb6619243a
