/- THE LAW 'FnBodyFrameAtIsFirstRunPastOffset' (function 3): its walk, out of the callees' contracts; the row's step; the statement. -/
import Derived.Test.Qxb6627879aOpen
namespace Go.Proofs.Qxb6627879a.fnBodyFrameAtIsFirstRunPastOffset
open Go.ChangeShapes Go.WideShapes Go.ChangeAt Go.RowKit
open Plain
set_option linter.unusedVariables false

set_option maxHeartbeats 400000 in
theorem first_walk (fr un off : Int) (na va ba fa ea : Option Addr) (ln lv lb lf le nc vc bc fc ec : Nat) (N V : Nat → ByteArray) (F E : Nat → Int) (w : World)
    (hln : ln ≤ maxLen) (hlv : lv ≤ maxLen) (hlf : lf ≤ maxLen) (hle : le ≤ maxLen) (hN : Strs w na ln N) (hV : Strs w va lv V) (hF : Ints w fa lf F) (hE : Ints w ea le E) :
    Calls Try.prog 3 #[.int .i64 fr, .slice na ln nc, .slice va lv vc, .int .i64 un, .slice ba lb bc, .slice fa lf fc, .slice ea le ec, .int .i64 off] w fun e w' =>
      e = .returned (.bool true) ∧ Below w.heap.size w w' := by
  have C5 := bytes5_any fr un off na va ba fa ea ln lv lb lf le nc vc bc fc ec N V w hln hlv hN hV
  have C6 := sizeOK_any na va ba fa ea ln lv lb lf le nc vc bc fc ec N V w hln hlv hN hV
  unfold maxLen at hln hlv hlf hle
  go_enter Try.func3, Try.ntmps3
  go_wp2_with fail
  refine C5.mono ?_
  rintro e w' ⟨b, rfl, rfl, -⟩
  cases b
  · go_wp2
    go_ret
    exact ⟨rfl, Below.refl _ _⟩
  go_wp2_with fail
  refine C6.mono ?_
  rintro e w' ⟨b, rfl, rfl, hq⟩
  cases b
  · go_wp2
    go_ret
    exact ⟨rfl, Below.refl _ _⟩
  clear C5 C6
  obtain ⟨q1, q2, q3, q4⟩ := hq rfl
  clear hq
  by_cases hA : ln = lv
  · subst hA
    by_cases hB : lf = le
    · subst hB
      go_wp2_with fail
      refine (messageOfRuns_any fr un na va ba fa ea ln lb lf nc vc bc fc ec 0 lf N V F E w q1 q3 hN hV hF hE (Nat.zero_le _) (Nat.le_refl _)).mono ?_
      rintro e w1 ⟨g0, g, rfl, hg0, hg, hcells, hbel⟩
      simp only [Nat.sub_zero, Nat.zero_add] at hcells
      go_wp2_with fail
      refine (bodyFrameAt_any fr un off _ _ _ _ _ _ g lf F E _ ?qg q3 ?qF ?qE).mono ?_
      case qg => simp; omega
      case qF => intro i hi; rw [World.cell?_alloc_lt _ _ _ hg]; exact (hcells i hi).1
      case qE => intro i hi; rw [World.cell?_alloc_lt _ _ _ hg]; exact (hcells i hi).2
      rintro e w2 ⟨rfl, hbel2⟩
      have hb : Below w.heap.size w w2 := ((hbel.alloc hbel.size _).trans (hbel2.mono (by have := hbel.size; simp; omega)))
      clear hbel hbel2 hcells hg hg0 hN hV
      by_cases hoff : off < 0
      · have hr : bfa F E off 0 lf = (0, false) := by simp [bfa, hoff]
        rw [hr]
        clear hr
        go_wp2
        go_ret
        exact ⟨rfl, hb⟩
      · have hr : bfa F E off 0 lf = bf F E off 0 lf := by simp [bfa, hoff]
        rw [hr]
        clear hr
        by_cases hn : lf = 0
        · have hr : bf F E off 0 lf = (0, false) := by rw [hn]; rfl
          rw [hr]
          clear hr
          subst hn
          go_wp2
          refine wp_loop_rounds 1 ?_
          rw [rounds_succ]
          go_wp2
          go_ret
          exact ⟨rfl, hb⟩
        · obtain ⟨f0, hr, HF0⟩ : ∃ f0, bf F E off 0 lf = (f0, decide (off < mx E (lf - 1))) ∧ Hid (f0 = (bf F E off 0 lf).1) := ⟨_, Prod.ext rfl (bf_ok F E off lf (by omega)), rfl⟩
          rw [hr]
          clear hr
          obtain ⟨fb, fo, rfl, hfb, hFc⟩ := hF (by omega)
          obtain ⟨eb, eo, rfl, heb, hEc⟩ := hE (by omega)
          have cE : ∀ i, i < lf → w2.cell? ⟨eb, eo + i, none⟩ = some (.int .i64 (E i)) := fun i hi => (hb.cell heb).trans (hEc i hi)
          have cF : ∀ i, i < lf → w2.cell? ⟨fb, fo + i, none⟩ = some (.int .i64 (F i)) := fun i hi => (hb.cell hfb).trans (hFc i hi)
          have cE0 := cE 0 (by omega)
          have CE := hide cE
          have CF := hide cF
          have HB := hide hb
          clear hF hE hFc hEc cE cF hb
          simp only [Nat.add_zero] at cE0
          go_wp2
          go_loop [22, 23] (fun m i => ∃ k : Nat, 1 ≤ k ∧ k ≤ lf ∧ i = .int .i64 k ∧ m = .int .i64 (mx E (k - 1))) (fun _ i => lf - (intOf i).toNat)
          case atStart => exact ⟨1, Nat.le_refl _, by omega, rfl, rfl⟩
          case round =>
            obtain ⟨k, hk1, hk, rfl, rfl⟩ := hrel
            by_cases hlt : k < lf
            · have c := CE.out k hlt
              have hm : mx E k = if mx E (k - 1) < E k then E k else mx E (k - 1) := by
                obtain ⟨k', rfl⟩ : ∃ k', k = k' + 1 := ⟨k - 1, by omega⟩
                rfl
              have HM := hide hm
              clear hm
              by_cases hc : mx E (k - 1) < E k
              · go_wp2
                go_round
                case rel => exact ⟨k + 1, by omega, by omega, by go_num, by simp only [Nat.add_sub_cancel]; rw [HM.out, if_pos hc]⟩
                case measure => simp [intOf]; omega
              · go_wp2
                go_round
                case rel => exact ⟨k + 1, by omega, by omega, by go_num, by simp only [Nat.add_sub_cancel]; rw [HM.out, if_neg hc]⟩
                case measure => simp [intOf]; omega
            · have hkl : k = lf := by omega
              subst hkl
              go_wp2
              go_loop [24, 25] (fun f i => ∃ j : Nat, ∃ fv : Int, j ≤ k ∧ i = .int .i64 ((j : Int) - 1) ∧ f = .int .i64 fv ∧ Hid (fv = (bf F E off j (k - j)).1)) (fun _ i => (intOf i + 1).toNat)
              case atStart => exact ⟨k, 0, Nat.le_refl _, rfl, rfl, by rw [Nat.sub_self]; rfl⟩
              case round =>
                obtain ⟨j, fv, hj, rfl, rfl, HF⟩ := hrel
                by_cases hj0 : j = 0
                · have hfv : fv = f0 := by rw [HF.out, HF0.out, hj0]; rfl
                  subst hfv
                  subst hj0
                  go_wp2
                  go_ret
                  exact ⟨rfl, HB.out⟩
                · have c := CE.out (j - 1) (by omega)
                  have c' := CF.out (j - 1) (by omega)
                  have hti : ((j : Int) - 1).toNat = j - 1 := by omega
                  by_cases hc : off < E (j - 1)
                  · have hs : F (j - 1) = (bf F E off (j - 1) (k - (j - 1))).1 := by rw [bf_hit (by omega) hc]
                    have HS := hide hs
                    clear hs
                    go_wp2
                    go_round
                    case rel => exact ⟨j - 1, _, by omega, by go_num, rfl, HS.out⟩
                    case measure => simp [intOf]; omega
                  · have hs : (bf F E off (j - 1) (k - (j - 1))).1 = (bf F E off j (k - j)).1 := by rw [bf_miss (by omega) hc, show j - 1 + 1 = j from by omega, show k - (j - 1) - 1 = k - j from by omega]
                    have HS := hide hs
                    clear hs
                    go_wp2
                    go_round
                    case rel => exact ⟨j - 1, _, by omega, by go_num, rfl, HF.out.trans HS.out.symm⟩
                    case measure => simp [intOf]; omega
    · go_wp2_with fail
      go_ret
      exact ⟨rfl, Below.refl _ _⟩
  · go_wp2_with fail
    go_ret
    exact ⟨rfl, Below.refl _ _⟩

set_option maxRecDepth 100000 in
/-- THE ROW's STEP (the guide's own frame at this function's number and types). -/
theorem lifted (os : Os) (started : os.Started) (H : Type) (enc : TypeId × Value → H) :
    ReturnsInHanded {} Try.checked os 3 .any (Rows.fnBodyFrameAtIsFirstRunPastOffsetSpec.pre6 enc Try.prog Try.f3 Rows.fnBodyFrameAtIsFirstRunPastOffsetRow.domain false) (Rows.fnBodyFrameAtIsFirstRunPastOffsetSpec.post enc Try.prog Try.f3 false true false false) := by
  refine returnsInHanded_of_change (C := Try.checked) own started (by kernel_rfl) Try.func3
    (ChangeSpec.witness6 (enc := enc) (C := Try.checked) false ⟨#[], #[.int .i64 0, .slice none 0 0, .slice none 0 0, .int .i64 0, .slice none 0 0, .slice none 0 0, .slice none 0 0, .int .i64 0], []⟩ 8 (by kernel_rfl) (by kernel_rfl) (by kernel_rfl) (by kernel_rfl)) ?_
  intro W base args ds gs before hval0 hW hcnd _
  have hval : ∀ (j : Nat) t v, Try.f3.params[j]? = some t → args[j]? = some v → Value.okWide Try.prog W .any base t v := hval0
  have hW' := hW
  obtain ⟨p, q, hA0, hV, rfl, hfz, hnd⟩ := hW
  have hA : DataW.TrodAll enc Try.prog W 0 (fun _ => true) true Try.f3.params.toList args.toList ds p := hA0
  rw [Try.params3] at hA hval
  obtain ⟨v0, vs0, d0, ds0, p0, q0, hargs, rfl, rfl, h0, r0⟩ := trodAll_cons hA
  obtain ⟨v1, vs1, d1, ds1, p1, q1, rfl, rfl, rfl, h1, r1⟩ := trodAll_cons r0
  obtain ⟨v2, vs2, d2, ds2, p2, q2, rfl, rfl, rfl, h2, r2⟩ := trodAll_cons r1
  obtain ⟨v3, vs3, d3, ds3, p3, q3, rfl, rfl, rfl, h3, r3⟩ := trodAll_cons r2
  obtain ⟨v4, vs4, d4, ds4, p4, q4, rfl, rfl, rfl, h4, r4⟩ := trodAll_cons r3
  obtain ⟨v5, vs5, d5, ds5, p5, q5, rfl, rfl, rfl, h5, r5⟩ := trodAll_cons r4
  obtain ⟨v6, vs6, d6, ds6, p6, q6, rfl, rfl, rfl, h6, r6⟩ := trodAll_cons r5
  obtain ⟨v7, vs7, d7, ds7, p7, q7, rfl, rfl, rfl, h7, r7⟩ := trodAll_cons r6
  obtain ⟨rfl, rfl, rfl⟩ := trodAll_nil r7
  obtain rfl : args = #[v0, v1, v2, v3, v4, v5, v6, v7] := by cases args; simp_all
  obtain ⟨rfl, rfl⟩ := trodVars_none hV
  obtain ⟨a0, rfl, rfl, rfl, w0⟩ := open_int Try.underlying3 (hval 0 3 v0 rfl rfl) h0
  obtain ⟨a1, len1, cap1, rfl⟩ := okWide_slice Try.underlying22 (hval 1 22 v1 rfl rfl)
  have lt1 : ∀ x ∈ p1, x.block < W.heap.size := by obtain ⟨m, hm⟩ := h1; exact DataW.trod_lt m _ _ _ hm
  obtain ⟨z1, k1, l1⟩ := strs_open h1
  obtain ⟨a2, len2, cap2, rfl⟩ := okWide_slice Try.underlying22 (hval 2 22 v2 rfl rfl)
  have lt2 : ∀ x ∈ p2, x.block < W.heap.size := by obtain ⟨m, hm⟩ := h2; exact DataW.trod_lt m _ _ _ hm
  obtain ⟨z2, k2, l2⟩ := strs_open h2
  obtain ⟨a3, rfl, rfl, rfl, w3⟩ := open_int Try.underlying3 (hval 3 3 v3 rfl rfl) h3
  obtain ⟨a4, len4, cap4, rfl⟩ := okWide_slice Try.underlying23 (hval 4 23 v4 rfl rfl)
  have lt4 : ∀ x ∈ p4, x.block < W.heap.size := by obtain ⟨m, hm⟩ := h4; exact DataW.trod_lt m _ _ _ hm
  obtain ⟨a5, len5, cap5, rfl⟩ := okWide_slice Try.underlying24 (hval 5 24 v5 rfl rfl)
  have lt5 : ∀ x ∈ p5, x.block < W.heap.size := by obtain ⟨m, hm⟩ := h5; exact DataW.trod_lt m _ _ _ hm
  obtain ⟨z5, k5, l5⟩ := ints_open h5
  obtain ⟨a6, len6, cap6, rfl⟩ := okWide_slice Try.underlying24 (hval 6 24 v6 rfl rfl)
  have lt6 : ∀ x ∈ p6, x.block < W.heap.size := by obtain ⟨m, hm⟩ := h6; exact DataW.trod_lt m _ _ _ hm
  obtain ⟨z6, k6, l6⟩ := ints_open h6
  obtain ⟨a7, rfl, rfl, rfl, w7⟩ := open_int Try.underlying3 (hval 7 3 v7 rfl rfl) h7
  clear hA0 hval0
  refine (first_walk a0 a3 a7 a1 a2 a4 a5 a6 len1 len2 len4 len5 len6 cap1 cap2 cap4 cap5 cap6 z1 z2 z5 z6 W l1 l2 l5 l6 k1 k2 k5 k6).mono fun e W' ⟨he, bel⟩ => ?_
  subst he
  exact ⟨_, rfl, _, _, _, [], _, [], hW', trodAll_mk1 (shut_bool Try.underlying4 _), (trodAll_cons_mk (shut_int Try.underlying3 w0) (trodAll_cons_mk (Below.trod laidOut (by kernel_rfl) (of_decide_eq_true (by kernel_rfl)) h1 bel lt1) (trodAll_cons_mk (Below.trod laidOut (by kernel_rfl) (of_decide_eq_true (by kernel_rfl)) h2 bel lt2) (trodAll_cons_mk (shut_int Try.underlying3 w3) (trodAll_cons_mk (Below.trod laidOut (by kernel_rfl) (of_decide_eq_true (by kernel_rfl)) h4 bel lt4) (trodAll_cons_mk (Below.trod laidOut (by kernel_rfl) (of_decide_eq_true (by kernel_rfl)) h5 bel lt5) (trodAll_cons_mk (Below.trod laidOut (by kernel_rfl) (of_decide_eq_true (by kernel_rfl)) h6 bel lt6) (trodAll_cons_mk (shut_int Try.underlying3 w7) trodAll_mk0)))))))), rfl, bel.frame _, fun h => by cases h⟩

theorem over : Rows.fnBodyFrameAtIsFirstRunPastOffsetRow.holds Try.pinned (OpenSpec.ofChange Rows.fnBodyFrameAtIsFirstRunPastOffsetSpec) :=
  OpenClaim.holds_of_wide 3 Try.f3 rfl rfl rfl rfl rfl rfl rfl ⟨rfl, rfl, rfl, rfl, rfl⟩ rfl rfl rfl rfl rfl (by kernel_rfl) Try.func3 (by kernel_rfl)
    (of_decide_eq_true (by kernel_rfl)) (by unfold Func.isWrapper; first | (rw [if_pos (by decide +kernel)]; kernel_rfl) | (rw [if_neg (by decide +kernel)]; exact ⟨rfl, rfl⟩))
    (fun os started H enc _ => lifted os started H enc)

/-- THE STATEMENT. -/
theorem proved : Rows.FnBodyFrameAtIsFirstRunPastOffsetSaid := over
#print axioms proved
end Go.Proofs.Qxb6627879a.fnBodyFrameAtIsFirstRunPastOffset
