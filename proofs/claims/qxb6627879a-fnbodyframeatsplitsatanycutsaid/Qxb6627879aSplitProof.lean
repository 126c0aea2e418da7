/- THE LAW 'FnBodyFrameAtSplitsAtAnyCut' (function 4): its walk, out of the callees' contracts; the row's step; the statement. -/
import Derived.Test.Qxb6627879aOpen
namespace Go.Proofs.Qxb6627879a.fnBodyFrameAtSplitsAtAnyCut
open Go.ChangeShapes Go.WideShapes Go.ChangeAt Go.RowKit
open Plain
set_option linter.unusedVariables false

theorem strs_later {w w' : World} {a : Option Addr} {len : Nat} {S : Nat → ByteArray} (h : Strs w a len S) (hb : Below w.heap.size w w') : Strs w' a len S := by
  intro hp
  obtain ⟨b, off, e, hlt, hc⟩ := h hp
  exact ⟨b, off, e, Nat.lt_of_lt_of_le hlt hb.size, fun i hi => (hb.cell hlt).trans (hc i hi)⟩
theorem ints_later {w w' : World} {a : Option Addr} {len : Nat} {Z : Nat → Int} (h : Ints w a len Z) (hb : Below w.heap.size w w') : Ints w' a len Z := by
  intro hp
  obtain ⟨b, off, e, hlt, hc⟩ := h hp
  exact ⟨b, off, e, Nat.lt_of_lt_of_le hlt hb.size, fun i hi => (hb.cell hlt).trans (hc i hi)⟩

/-- The runs of a message, in memory. -/
def Runs (w : World) (g n : Nat) (F E : Nat → Int) : Prop :=
  g < w.heap.size ∧ (∀ i, i < n → w.cell? ⟨g, i * 2, none⟩ = some (.int .i64 (F i))) ∧ ∀ i, i < n → w.cell? ⟨g, i * 2 + 1, none⟩ = some (.int .i64 (E i))
theorem Runs.later {w w' : World} {g n : Nat} {F E : Nat → Int} (h : Runs w g n F E) (hb : Below w.heap.size w w') : Runs w' g n F E :=
  ⟨Nat.lt_of_lt_of_le h.1 hb.size, fun i hi => (hb.cell h.1).trans (h.2.1 i hi), fun i hi => (hb.cell h.1).trans (h.2.2 i hi)⟩

/-- A message that lies in a variable. -/
def Msg (w : World) (b : Nat) (v0 v1 v2 v3 v4 : Value) : Prop :=
  b < w.heap.size ∧ w.cell? ⟨b, 0, none⟩ = some v0 ∧ w.cell? ⟨b, 1, none⟩ = some v1 ∧ w.cell? ⟨b, 2, none⟩ = some v2 ∧ w.cell? ⟨b, 3, none⟩ = some v3 ∧ w.cell? ⟨b, 4, none⟩ = some v4
theorem Msg.later {w w' : World} {b : Nat} {v0 v1 v2 v3 v4 : Value} (h : Msg w b v0 v1 v2 v3 v4) (hb : Below w.heap.size w w') : Msg w' b v0 v1 v2 v3 v4 :=
  ⟨Nat.lt_of_lt_of_le h.1 hb.size, (hb.cell h.1).trans h.2.1, (hb.cell h.1).trans h.2.2.1, (hb.cell h.1).trans h.2.2.2.1, (hb.cell h.1).trans h.2.2.2.2.1, (hb.cell h.1).trans h.2.2.2.2.2⟩
theorem msg_here (w : World) (v0 v1 v2 v3 v4 : Value) : Msg (w.alloc (.cells #[v0, v1, v2, v3, v4] 30)) w.heap.size v0 v1 v2 v3 v4 := by
  refine ⟨by simp, ?_, ?_, ?_, ?_, ?_⟩ <;> simp [go_sem]

theorem bfa_whole (F E : Nat → Int) (off : Int) (k n : Nat) (hk : k ≤ n) :
    (∃ x, bfa F E off 0 k = (x, true) ∧ bfa F E off 0 n = (x, true)) ∨
    ∃ y c, bfa F E off 0 k = (0, false) ∧ bfa F E off 0 n = (y, c) ∧ bfa (fun i => F (k + i)) (fun i => E (k + i)) off 0 (n - k) = (y, c) := by
  unfold bfa
  by_cases h : off < 0
  · simp only [if_pos h]
    refine .inr ⟨0, false, ?_, ?_, ?_⟩ <;> first | rfl | trivial
  · simp only [if_neg h]
    have hs := bf_split F E off (n - k) k 0
    rw [show k + (n - k) = n from by omega, Nat.zero_add] at hs
    rw [bf_shift F E off k, Nat.add_zero]
    by_cases h2 : (bf F E off 0 k).2 = true
    · rw [if_pos h2] at hs
      exact .inl ⟨(bf F E off 0 k).1, Prod.ext rfl h2, hs.trans (Prod.ext rfl h2)⟩
    · rw [if_neg h2] at hs
      have h3 : (bf F E off 0 k).2 = false := by simpa using h2
      exact .inr ⟨(bf F E off k (n - k)).1, (bf F E off k (n - k)).2, Prod.ext (bf_none h3) h3, hs, rfl⟩

set_option maxRecDepth 100000 in
set_option maxHeartbeats 400000 in
theorem split_walk (fr un off kk : Int) (na va ba fa ea : Option Addr) (ln lv lb lf le nc vc bc fc ec : Nat) (N V : Nat → ByteArray) (F E : Nat → Int) (w : World)
    (hln : ln ≤ maxLen) (hlv : lv ≤ maxLen) (hlf : lf ≤ maxLen) (hle : le ≤ maxLen) (hN : Strs w na ln N) (hV : Strs w va lv V) (hF : Ints w fa lf F) (hE : Ints w ea le E) :
    Calls Try.prog 4 #[.int .i64 fr, .slice na ln nc, .slice va lv vc, .int .i64 un, .slice ba lb bc, .slice fa lf fc, .slice ea le ec, .int .i64 off, .int .i64 kk] w fun e w' =>
      e = .returned (.bool true) ∧ Below w.heap.size w w' := by
  have C9 := bytes9_any fr un off kk na va ba fa ea ln lv lb lf le nc vc bc fc ec N V w hln hlv hN hV
  have C6 := sizeOK_any na va ba fa ea ln lv lb lf le nc vc bc fc ec N V w hln hlv hN hV
  unfold maxLen at hln hlv hlf hle
  go_enter Try.func4, Try.ntmps4
  go_wp2_with fail
  refine C9.mono ?_
  rintro e w' ⟨b, rfl, rfl, -⟩
  cases b
  · go_wp2
    go_ret
    exact ⟨rfl, Below.refl _ _⟩
  go_wp2_with fail
  refine C6.mono ?_
  rintro e w' ⟨b, rfl, rfl, hq⟩
  cases b
  · go_wp2
    go_ret
    exact ⟨rfl, Below.refl _ _⟩
  clear C9 C6
  obtain ⟨q1, q2, q3, q4⟩ := hq rfl
  clear hq hln hlv hlf hle
  by_cases hA : ln = lv
  · subst hA
    by_cases hB : lf = le
    · subst hB
      by_cases hk0 : kk < 0
      · go_wp2_with fail
        go_ret
        exact ⟨rfl, Below.refl _ _⟩
      by_cases hk1 : (lf : Int) < kk
      · go_wp2_with fail
        go_ret
        exact ⟨rfl, Below.refl _ _⟩
      obtain ⟨k, rfl⟩ := Int.eq_ofNat_of_zero_le (Int.not_lt.1 hk0)
      have hkn : k ≤ lf := by omega
      clear hk0 hk1
      go_wp2_with fail
      refine (messageOfRuns_any fr un na va ba fa ea ln lb lf nc vc bc fc ec 0 lf N V F E w q1 q3 hN hV hF hE (Nat.zero_le _) (Nat.le_refl _)).mono ?_
      rintro e w1 ⟨f1, g1, rfl, -, hg1, hc1, hb1⟩
      simp only [Nat.sub_zero, Nat.zero_add] at hc1
      have R1 : Hid (Runs w1 g1 lf F E) := ⟨hg1, fun i hi => (hc1 i hi).1, fun i hi => (hc1 i hi).2⟩
      clear hg1 hc1
      have HB1 : Hid (Below w.heap.size w w1) := hb1
      clear hb1
      have HN := hide hN
      have HV := hide hV
      have HF := hide hF
      have HE := hide hE
      clear hN hV hF hE
      go_wp2_with fail
      have hbA := HB1.out.alloc HB1.out.size (.cells #[.int .i64 fr, .slice (some ⟨f1, 0, none⟩) ln ln, .int .i64 un, .slice ba lb bc, .slice (some ⟨g1, 0, none⟩) lf lf] 30)
      have M1 := hide (msg_here w1 (.int .i64 fr) (.slice (some ⟨f1, 0, none⟩) ln ln) (.int .i64 un) (.slice ba lb bc) (.slice (some ⟨g1, 0, none⟩) lf lf))
      have R1a := hide (R1.out.later ((Below.refl _ w1).alloc (Nat.le_refl _) (.cells #[.int .i64 fr, .slice (some ⟨f1, 0, none⟩) ln ln, .int .i64 un, .slice ba lb bc, .slice (some ⟨g1, 0, none⟩) lf lf] 30)))
      clear R1
      refine (messageOfRuns_any fr un na va ba fa ea ln lb lf nc vc bc fc ec 0 k N V F E _ q1 q3 (strs_later HN.out hbA) (strs_later HV.out hbA) (ints_later HF.out hbA) (ints_later HE.out hbA) (Nat.zero_le _) hkn).mono ?_
      rintro e w2 ⟨f2, g2, rfl, -, hg2, hc2, hb2⟩
      simp only [Nat.sub_zero, Nat.zero_add] at hc2
      have R2 : Hid (Runs w2 g2 k F E) := ⟨hg2, fun i hi => (hc2 i hi).1, fun i hi => (hc2 i hi).2⟩
      have R1b := hide (R1a.out.later hb2)
      have M1b := hide (M1.out.later hb2)
      have HB2 : Hid (Below w.heap.size w w2) := hbA.trans (hb2.mono hbA.size)
      clear hg2 hc2 hb2 hbA HB1 R1a M1
      generalize w1.heap.size = b1 at *
      clear w1
      go_wp2_with fail
      have hbA := HB2.out.alloc HB2.out.size (.cells #[.int .i64 fr, .slice (some ⟨f2, 0, none⟩) ln ln, .int .i64 un, .slice ba lb bc, .slice (some ⟨g2, 0, none⟩) k k] 30)
      have hbS := (Below.refl _ w2).alloc (Nat.le_refl _) (.cells #[.int .i64 fr, .slice (some ⟨f2, 0, none⟩) ln ln, .int .i64 un, .slice ba lb bc, .slice (some ⟨g2, 0, none⟩) k k] 30)
      have M2 := hide (msg_here w2 (.int .i64 fr) (.slice (some ⟨f2, 0, none⟩) ln ln) (.int .i64 un) (.slice ba lb bc) (.slice (some ⟨g2, 0, none⟩) k k))
      refine (messageOfRuns_any fr un na va ba fa ea ln lb lf nc vc bc fc ec k lf N V F E _ q1 q3 (strs_later HN.out hbA) (strs_later HV.out hbA) (ints_later HF.out hbA) (ints_later HE.out hbA) hkn (Nat.le_refl _)).mono ?_
      rintro e w3 ⟨f3, g3, rfl, -, hg3, hc3, hb3⟩
      have R3 : Hid (Runs w3 g3 (lf - k) (fun i => F (k + i)) (fun i => E (k + i))) := ⟨hg3, fun i hi => (hc3 i hi).1, fun i hi => (hc3 i hi).2⟩
      have R1c := hide ((R1b.out.later hbS).later hb3)
      have M1c := hide ((M1b.out.later hbS).later hb3)
      have R2c := hide ((R2.out.later hbS).later hb3)
      have M2c := hide (M2.out.later hb3)
      have HB3 : Hid (Below w.heap.size w w3) := hbA.trans (hb3.mono hbA.size)
      clear hg3 hc3 hb3 hbA hbS HB2 R1b M1b M2 R2
      generalize w2.heap.size = b2 at *
      clear w2
      obtain ⟨ml, m0, m1, m2, m3, m4⟩ := M1c.out
      go_wp2_with fail
      clear ml m0 m1 m2 m3 m4
      have hbA := HB3.out.alloc HB3.out.size (.cells #[.int .i64 fr, .slice (some ⟨f3, 0, none⟩) ln ln, .int .i64 un, .slice ba lb bc, .slice (some ⟨g3, 0, none⟩) (lf - k) (lf - k)] 30)
      have hbS := (Below.refl _ w3).alloc (Nat.le_refl _) (.cells #[.int .i64 fr, .slice (some ⟨f3, 0, none⟩) ln ln, .int .i64 un, .slice ba lb bc, .slice (some ⟨g3, 0, none⟩) (lf - k) (lf - k)] 30)
      have M3 := hide (msg_here w3 (.int .i64 fr) (.slice (some ⟨f3, 0, none⟩) ln ln) (.int .i64 un) (.slice ba lb bc) (.slice (some ⟨g3, 0, none⟩) (lf - k) (lf - k)))
      have R1d := R1c.out.later hbS
      refine (bodyFrameAt_any fr un off _ _ _ _ _ _ g1 lf F E _ R1d.1 q3 R1d.2.1 R1d.2.2).mono ?_
      rintro e w4 ⟨rfl, hb4⟩
      have R2d := hide ((R2c.out.later hbS).later hb4)
      have M2d := hide ((M2c.out.later hbS).later hb4)
      have R3d := hide ((R3.out.later hbS).later hb4)
      have M3d := hide (M3.out.later hb4)
      have HB4 : Hid (Below w.heap.size w w4) := hbA.trans (hb4.mono hbA.size)
      clear hb4 hbA hbS HB3 M1c R1c R1d M2c R2c M3 R3
      generalize w3.heap.size = b3 at *
      clear w3
      obtain ⟨ml, m0, m1, m2, m3, m4⟩ := M2d.out
      have hk6 : k ≤ 65536 := by omega
      have hk7 : lf - k ≤ 65536 := by omega
      have C8a := bodyFrameAt_any fr un off (some ⟨f2, 0, none⟩) ba ln ln lb bc g2 k F E w4 R2d.out.1 hk6 R2d.out.2.1 R2d.out.2.2
      have HC := hide C8a
      clear C8a
      rcases bfa_whole F E off k lf hkn with ⟨x, hA, hW⟩ | ⟨y, c, hA, hW, hBk⟩
      · rw [hW]
        clear hW
        go_wp2_with fail
        clear ml m0 m1 m2 m3 m4
        refine HC.out.mono ?_
        rintro e w5 ⟨rfl, hb5⟩
        rw [hA]
        clear hA HC
        have R3e := hide (R3d.out.later hb5)
        have M3e := hide (M3d.out.later hb5)
        have HB5 : Hid (Below w.heap.size w w5) := HB4.out.trans (hb5.mono HB4.out.size)
        clear hb5 HB4 M2d R2d R3d M3d
        obtain ⟨ml, m0, m1, m2, m3, m4⟩ := M3e.out
        go_wp2_with fail
        clear ml m0 m1 m2 m3 m4
        refine (bodyFrameAt_any fr un off _ _ _ _ _ _ g3 (lf - k) _ _ _ R3e.out.1 hk7 R3e.out.2.1 R3e.out.2.2).mono ?_
        rintro e w6 ⟨rfl, hb6⟩
        have HB6 : Hid (Below w.heap.size w w6) := HB5.out.trans (hb6.mono HB5.out.size)
        clear hb6 HB5 M3e R3e
        by_cases hkl : k < lf
        · go_wp2_with fail
          have e1 : ((k : Int) + 1) = ((k + 1 : Nat) : Int) := by omega
          rw [e1]
          clear e1
          refine (messageOfRuns_any fr un na va ba fa ea ln lb lf nc vc bc fc ec k (k + 1) N V F E _ q1 q3 (strs_later HN.out HB6.out) (strs_later HV.out HB6.out) (ints_later HF.out HB6.out) (ints_later HE.out HB6.out) (by omega) (by omega)).mono ?_
          rintro e w7 ⟨f7, g7, rfl, -, hg7, hc7, hb7⟩
          have e2 : k + 1 - k = 1 := by omega
          rw [e2] at hc7 ⊢
          clear e2
          have R7 : Hid (Runs w7 g7 1 (fun i => F (k + i)) (fun i => E (k + i))) := ⟨hg7, fun i hi => (hc7 i hi).1, fun i hi => (hc7 i hi).2⟩
          have HB7 : Hid (Below w.heap.size w w7) := HB6.out.trans (hb7.mono HB6.out.size)
          clear hg7 hc7 hb7 HB6
          go_wp2_with fail
          have hbA := HB7.out.alloc HB7.out.size (.cells #[.int .i64 fr, .slice (some ⟨f7, 0, none⟩) ln ln, .int .i64 un, .slice ba lb bc, .slice (some ⟨g7, 0, none⟩) 1 1] 30)
          have R7a := R7.out.later ((Below.refl _ w7).alloc (Nat.le_refl _) (.cells #[.int .i64 fr, .slice (some ⟨f7, 0, none⟩) ln ln, .int .i64 un, .slice ba lb bc, .slice (some ⟨g7, 0, none⟩) 1 1] 30))
          refine (bodyFrameAt_any fr un off _ _ _ _ _ _ g7 1 _ _ _ R7a.1 (by omega) R7a.2.1 R7a.2.2).mono ?_
          rintro e w8 ⟨rfl, hb8⟩
          have hb : Below w.heap.size w w8 := hbA.trans (hb8.mono hbA.size)
          clear hbA R7a hb8 HB7 R7
          obtain ⟨fb, fo, rfl, hfb, hFc⟩ := HF.out (by omega)
          obtain ⟨eb, eo, rfl, heb, hEc⟩ := HE.out (by omega)
          have cE : w8.cell? ⟨eb, eo + k, none⟩ = some (.int .i64 (E k)) := (hb.cell heb).trans (hEc k hkl)
          have cF : w8.cell? ⟨fb, fo + k, none⟩ = some (.int .i64 (F k)) := (hb.cell hfb).trans (hFc k hkl)
          have HB := hide hb
          clear hb HF HE HN HV hFc hEc
          by_cases hoff : off < 0
          · have h1 : bfa (fun i => F (k + i)) (fun i => E (k + i)) off 0 1 = (0, false) := by simp [bfa, hoff]
            rw [h1]
            clear h1
            go_wp2
            go_ret
            exact ⟨rfl, HB.out⟩
          · by_cases hlt : off < E k
            · have h1 : bfa (fun i => F (k + i)) (fun i => E (k + i)) off 0 1 = (F k, true) := by simp [bfa, bf, hoff, hlt]
              rw [h1]
              clear h1
              go_wp2
              go_ret
              exact ⟨rfl, HB.out⟩
            · have h1 : bfa (fun i => F (k + i)) (fun i => E (k + i)) off 0 1 = (0, false) := by simp [bfa, bf, hoff, hlt]
              rw [h1]
              clear h1
              go_wp2
              go_ret
              exact ⟨rfl, HB.out⟩
        · go_wp2
          go_ret
          exact ⟨rfl, HB6.out⟩
      · rw [hW]
        clear hW
        have HBk := hide hBk
        clear hBk
        go_wp2_with fail
        clear ml m0 m1 m2 m3 m4
        refine HC.out.mono ?_
        rintro e w5 ⟨rfl, hb5⟩
        rw [hA]
        clear hA HC
        have R3e := hide (R3d.out.later hb5)
        have M3e := hide (M3d.out.later hb5)
        have HB5 : Hid (Below w.heap.size w w5) := HB4.out.trans (hb5.mono HB4.out.size)
        clear hb5 HB4 M2d R2d R3d M3d
        obtain ⟨ml, m0, m1, m2, m3, m4⟩ := M3e.out
        go_wp2_with fail
        clear ml m0 m1 m2 m3 m4
        refine (bodyFrameAt_any fr un off _ _ _ _ _ _ g3 (lf - k) _ _ _ R3e.out.1 hk7 R3e.out.2.1 R3e.out.2.2).mono ?_
        rintro e w6 ⟨rfl, hb6⟩
        rw [HBk.out]
        clear HBk
        have HB6 : Hid (Below w.heap.size w w6) := HB5.out.trans (hb6.mono HB5.out.size)
        clear hb6 HB5 M3e R3e
        by_cases hkl : k < lf
        · go_wp2_with fail
          have e1 : ((k : Int) + 1) = ((k + 1 : Nat) : Int) := by omega
          rw [e1]
          clear e1
          refine (messageOfRuns_any fr un na va ba fa ea ln lb lf nc vc bc fc ec k (k + 1) N V F E _ q1 q3 (strs_later HN.out HB6.out) (strs_later HV.out HB6.out) (ints_later HF.out HB6.out) (ints_later HE.out HB6.out) (by omega) (by omega)).mono ?_
          rintro e w7 ⟨f7, g7, rfl, -, hg7, hc7, hb7⟩
          have e2 : k + 1 - k = 1 := by omega
          rw [e2] at hc7 ⊢
          clear e2
          have R7 : Hid (Runs w7 g7 1 (fun i => F (k + i)) (fun i => E (k + i))) := ⟨hg7, fun i hi => (hc7 i hi).1, fun i hi => (hc7 i hi).2⟩
          have HB7 : Hid (Below w.heap.size w w7) := HB6.out.trans (hb7.mono HB6.out.size)
          clear hg7 hc7 hb7 HB6
          go_wp2_with fail
          have hbA := HB7.out.alloc HB7.out.size (.cells #[.int .i64 fr, .slice (some ⟨f7, 0, none⟩) ln ln, .int .i64 un, .slice ba lb bc, .slice (some ⟨g7, 0, none⟩) 1 1] 30)
          have R7a := R7.out.later ((Below.refl _ w7).alloc (Nat.le_refl _) (.cells #[.int .i64 fr, .slice (some ⟨f7, 0, none⟩) ln ln, .int .i64 un, .slice ba lb bc, .slice (some ⟨g7, 0, none⟩) 1 1] 30))
          refine (bodyFrameAt_any fr un off _ _ _ _ _ _ g7 1 _ _ _ R7a.1 (by omega) R7a.2.1 R7a.2.2).mono ?_
          rintro e w8 ⟨rfl, hb8⟩
          have hb : Below w.heap.size w w8 := hbA.trans (hb8.mono hbA.size)
          clear hbA R7a hb8 HB7 R7
          obtain ⟨fb, fo, rfl, hfb, hFc⟩ := HF.out (by omega)
          obtain ⟨eb, eo, rfl, heb, hEc⟩ := HE.out (by omega)
          have cE : w8.cell? ⟨eb, eo + k, none⟩ = some (.int .i64 (E k)) := (hb.cell heb).trans (hEc k hkl)
          have cF : w8.cell? ⟨fb, fo + k, none⟩ = some (.int .i64 (F k)) := (hb.cell hfb).trans (hFc k hkl)
          have HB := hide hb
          clear hb HF HE HN HV hFc hEc
          by_cases hoff : off < 0
          · have h1 : bfa (fun i => F (k + i)) (fun i => E (k + i)) off 0 1 = (0, false) := by simp [bfa, hoff]
            rw [h1]
            clear h1
            go_wp2
            go_ret
            exact ⟨rfl, HB.out⟩
          · by_cases hlt : off < E k
            · have h1 : bfa (fun i => F (k + i)) (fun i => E (k + i)) off 0 1 = (F k, true) := by simp [bfa, bf, hoff, hlt]
              rw [h1]
              clear h1
              go_wp2
              go_ret
              exact ⟨rfl, HB.out⟩
            · have h1 : bfa (fun i => F (k + i)) (fun i => E (k + i)) off 0 1 = (0, false) := by simp [bfa, bf, hoff, hlt]
              rw [h1]
              clear h1
              go_wp2
              go_ret
              exact ⟨rfl, HB.out⟩
        · go_wp2
          go_ret
          exact ⟨rfl, HB6.out⟩
    · go_wp2_with fail
      go_ret
      exact ⟨rfl, Below.refl _ _⟩
  · go_wp2_with fail
    go_ret
    exact ⟨rfl, Below.refl _ _⟩

set_option maxRecDepth 100000 in
/-- THE ROW's STEP (the guide's own frame at this function's number and types). -/
theorem lifted (os : Os) (started : os.Started) (H : Type) (enc : TypeId × Value → H) :
    ReturnsInHanded {} Try.checked os 4 .any (Rows.fnBodyFrameAtSplitsAtAnyCutSpec.pre6 enc Try.prog Try.f4 Rows.fnBodyFrameAtSplitsAtAnyCutRow.domain false) (Rows.fnBodyFrameAtSplitsAtAnyCutSpec.post enc Try.prog Try.f4 false true false false) := by
  refine returnsInHanded_of_change (C := Try.checked) own started (by kernel_rfl) Try.func4
    (ChangeSpec.witness6 (enc := enc) (C := Try.checked) false ⟨#[], #[.int .i64 0, .slice none 0 0, .slice none 0 0, .int .i64 0, .slice none 0 0, .slice none 0 0, .slice none 0 0, .int .i64 0, .int .i64 0], []⟩ 8 (by kernel_rfl) (by kernel_rfl) (by kernel_rfl) (by kernel_rfl)) ?_
  intro W base args ds gs before hval0 hW hcnd _
  have hval : ∀ (j : Nat) t v, Try.f4.params[j]? = some t → args[j]? = some v → Value.okWide Try.prog W .any base t v := hval0
  have hW' := hW
  obtain ⟨p, q, hA0, hV, rfl, hfz, hnd⟩ := hW
  have hA : DataW.TrodAll enc Try.prog W 0 (fun _ => true) true Try.f4.params.toList args.toList ds p := hA0
  rw [Try.params4] at hA hval
  obtain ⟨v0, vs0, d0, ds0, p0, q0, hargs, rfl, rfl, h0, r0⟩ := trodAll_cons hA
  obtain ⟨v1, vs1, d1, ds1, p1, q1, rfl, rfl, rfl, h1, r1⟩ := trodAll_cons r0
  obtain ⟨v2, vs2, d2, ds2, p2, q2, rfl, rfl, rfl, h2, r2⟩ := trodAll_cons r1
  obtain ⟨v3, vs3, d3, ds3, p3, q3, rfl, rfl, rfl, h3, r3⟩ := trodAll_cons r2
  obtain ⟨v4, vs4, d4, ds4, p4, q4, rfl, rfl, rfl, h4, r4⟩ := trodAll_cons r3
  obtain ⟨v5, vs5, d5, ds5, p5, q5, rfl, rfl, rfl, h5, r5⟩ := trodAll_cons r4
  obtain ⟨v6, vs6, d6, ds6, p6, q6, rfl, rfl, rfl, h6, r6⟩ := trodAll_cons r5
  obtain ⟨v7, vs7, d7, ds7, p7, q7, rfl, rfl, rfl, h7, r7⟩ := trodAll_cons r6
  obtain ⟨v8, vs8, d8, ds8, p8, q8, rfl, rfl, rfl, h8, r8⟩ := trodAll_cons r7
  obtain ⟨rfl, rfl, rfl⟩ := trodAll_nil r8
  obtain rfl : args = #[v0, v1, v2, v3, v4, v5, v6, v7, v8] := by cases args; simp_all
  obtain ⟨rfl, rfl⟩ := trodVars_none hV
  obtain ⟨a0, rfl, rfl, rfl, w0⟩ := open_int Try.underlying3 (hval 0 3 v0 rfl rfl) h0
  obtain ⟨a1, len1, cap1, rfl⟩ := okWide_slice Try.underlying22 (hval 1 22 v1 rfl rfl)
  have lt1 : ∀ x ∈ p1, x.block < W.heap.size := by obtain ⟨m, hm⟩ := h1; exact DataW.trod_lt m _ _ _ hm
  obtain ⟨z1, k1, l1⟩ := strs_open h1
  obtain ⟨a2, len2, cap2, rfl⟩ := okWide_slice Try.underlying22 (hval 2 22 v2 rfl rfl)
  have lt2 : ∀ x ∈ p2, x.block < W.heap.size := by obtain ⟨m, hm⟩ := h2; exact DataW.trod_lt m _ _ _ hm
  obtain ⟨z2, k2, l2⟩ := strs_open h2
  obtain ⟨a3, rfl, rfl, rfl, w3⟩ := open_int Try.underlying3 (hval 3 3 v3 rfl rfl) h3
  obtain ⟨a4, len4, cap4, rfl⟩ := okWide_slice Try.underlying23 (hval 4 23 v4 rfl rfl)
  have lt4 : ∀ x ∈ p4, x.block < W.heap.size := by obtain ⟨m, hm⟩ := h4; exact DataW.trod_lt m _ _ _ hm
  obtain ⟨a5, len5, cap5, rfl⟩ := okWide_slice Try.underlying24 (hval 5 24 v5 rfl rfl)
  have lt5 : ∀ x ∈ p5, x.block < W.heap.size := by obtain ⟨m, hm⟩ := h5; exact DataW.trod_lt m _ _ _ hm
  obtain ⟨z5, k5, l5⟩ := ints_open h5
  obtain ⟨a6, len6, cap6, rfl⟩ := okWide_slice Try.underlying24 (hval 6 24 v6 rfl rfl)
  have lt6 : ∀ x ∈ p6, x.block < W.heap.size := by obtain ⟨m, hm⟩ := h6; exact DataW.trod_lt m _ _ _ hm
  obtain ⟨z6, k6, l6⟩ := ints_open h6
  obtain ⟨a7, rfl, rfl, rfl, w7⟩ := open_int Try.underlying3 (hval 7 3 v7 rfl rfl) h7
  obtain ⟨a8, rfl, rfl, rfl, w8⟩ := open_int Try.underlying3 (hval 8 3 v8 rfl rfl) h8
  clear hA0 hval0
  refine (split_walk a0 a3 a7 a8 a1 a2 a4 a5 a6 len1 len2 len4 len5 len6 cap1 cap2 cap4 cap5 cap6 z1 z2 z5 z6 W l1 l2 l5 l6 k1 k2 k5 k6).mono fun e W' ⟨he, bel⟩ => ?_
  subst he
  exact ⟨_, rfl, _, _, _, [], _, [], hW', trodAll_mk1 (shut_bool Try.underlying4 _), (trodAll_cons_mk (shut_int Try.underlying3 w0) (trodAll_cons_mk (Below.trod laidOut (by kernel_rfl) (of_decide_eq_true (by kernel_rfl)) h1 bel lt1) (trodAll_cons_mk (Below.trod laidOut (by kernel_rfl) (of_decide_eq_true (by kernel_rfl)) h2 bel lt2) (trodAll_cons_mk (shut_int Try.underlying3 w3) (trodAll_cons_mk (Below.trod laidOut (by kernel_rfl) (of_decide_eq_true (by kernel_rfl)) h4 bel lt4) (trodAll_cons_mk (Below.trod laidOut (by kernel_rfl) (of_decide_eq_true (by kernel_rfl)) h5 bel lt5) (trodAll_cons_mk (Below.trod laidOut (by kernel_rfl) (of_decide_eq_true (by kernel_rfl)) h6 bel lt6) (trodAll_cons_mk (shut_int Try.underlying3 w7) (trodAll_cons_mk (shut_int Try.underlying3 w8) trodAll_mk0))))))))), rfl, bel.frame _, fun h => by cases h⟩

theorem over : Rows.fnBodyFrameAtSplitsAtAnyCutRow.holds Try.pinned (OpenSpec.ofChange Rows.fnBodyFrameAtSplitsAtAnyCutSpec) :=
  OpenClaim.holds_of_wide 4 Try.f4 rfl rfl rfl rfl rfl rfl rfl ⟨rfl, rfl, rfl, rfl, rfl⟩ rfl rfl rfl rfl rfl (by kernel_rfl) Try.func4 (by kernel_rfl)
    (of_decide_eq_true (by kernel_rfl)) (by unfold Func.isWrapper; first | (rw [if_pos (by decide +kernel)]; kernel_rfl) | (rw [if_neg (by decide +kernel)]; exact ⟨rfl, rfl⟩))
    (fun os started H enc _ => lifted os started H enc)

/-- THE STATEMENT. -/
theorem proved : Rows.FnBodyFrameAtSplitsAtAnyCutSaid := over
#print axioms proved
end Go.Proofs.Qxb6627879a.fnBodyFrameAtSplitsAtAnyCut
