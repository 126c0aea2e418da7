/- THE LAW 'FnDigitsSplitsAtAnyCut' (4): its walk, the row's step, the statement. -/
import Derived.Test.Qxb6628338aDigits
import Derived.ProofKit
import Derived.OpenShut
import Derived.ShutString
namespace Go.Proofs.Qxb6628338a.fnDigitsSplitsAtAnyCut
open Go.ChangeShapes Go.WideShapes Go.ChangeAt Go.RowKit
open Go.ChangeMaps (open_string shut_string)
open Plain
set_option linter.unusedVariables false

theorem own : ownKnob Try.prog.godebug = none := by kernel_rfl

set_option maxRecDepth 100000 in
set_option maxHeartbeats 1000000 in
theorem walk_same (a0 : ByteArray) (a1 : Int) (w0 : a0.size ≤ maxLen) (w : World) :
    Calls Try.prog 4 #[.string a0, .int .i64 a1] w fun e w' => e = .returned (.bool true) ∧ w = w' := by
  have C8 := bytes8_any a0 a1 w w0
  unfold maxLen at w0
  by_cases hb : a0.size ≤ 1048576
  · rw [decide_eq_true hb] at C8
    by_cases hk1 : a1 < 1
    · go_enter Try.func4, Try.ntmps4
      go_wp2_with fail
      refine C8.mono ?_
      rintro e w' ⟨rfl, rfl⟩
      go_wp2
      go_ret
      exact ⟨rfl, rfl⟩
    by_cases hk2 : (a0.size : Int) ≤ a1
    · go_enter Try.func4, Try.ntmps4
      go_wp2_with fail
      refine C8.mono ?_
      rintro e w' ⟨rfl, rfl⟩
      go_wp2
      go_ret
      exact ⟨rfl, rfl⟩
    obtain ⟨k, rfl⟩ := Int.eq_ofNat_of_zero_le (show 0 ≤ a1 by omega)
    have k1 : 1 ≤ k := by omega
    have k2 : k < a0.size := by omega
    clear hk1 hk2
    have C6 := digits_any a0 w hb
    have C7 := hide (all_any a0 w hb)
    by_cases h18 : 18 < a0.size
    · rw [dg_bad (.inr (.inl h18))] at C6
      have HC6 := hide C6
      clear C6
      go_enter Try.func4, Try.ntmps4
      go_wp2_with fail
      refine C8.mono ?_
      rintro e w' ⟨rfl, rfl⟩
      clear C8
      go_wp2_with fail
      refine HC6.out.mono ?_
      rintro e w' ⟨rfl, rfl⟩
      go_wp2
      go_ret
      exact ⟨rfl, rfl⟩
    · have h18' : a0.size ≤ 18 := by omega
      clear h18
      cases hA : ad (byt a0) a0.size
      · rw [dg_bad (.inr (.inr hA))] at C6
        have HC6 := hide C6
        clear C6
        go_enter Try.func4, Try.ntmps4
        go_wp2_with fail
        refine C8.mono ?_
        rintro e w' ⟨rfl, rfl⟩
        clear C8
        go_wp2_with fail
        refine HC6.out.mono ?_
        rintro e w' ⟨rfl, rfl⟩
        clear HC6
        go_wp2_with fail
        refine C7.out.mono ?_
        rintro e w' ⟨rfl, rfl⟩
        rw [hA]
        go_wp2
        go_ret
        exact ⟨rfl, rfl⟩
      · rw [dg_good (by omega) h18' hA] at C6
        have HC6 := hide C6
        clear C6
        have CA := digits_any (a0.extract 0 k) w (by rw [ByteArray.size_extract]; omega)
        have CB := digits_any (a0.extract k a0.size) w (by rw [ByteArray.size_extract]; omega)
        have sA : (a0.extract 0 k).size = k := by rw [ByteArray.size_extract]; omega
        have sB : (a0.extract k a0.size).size = a0.size - k := by rw [ByteArray.size_extract]; omega
        have dA : dg (byt (a0.extract 0 k)) k = (vl (byt a0) k, true) := by
          rw [dg_congr (g := byt a0) k (fun i hi => by rw [byt_cut a0 0 k i (by omega) (by omega), Nat.zero_add]), dg_good (by omega) (by omega) (ad_of_le (Nat.le_of_lt k2) hA)]
        have dB : dg (byt (a0.extract k a0.size)) (a0.size - k) = (vl (fun i => byt a0 (k + i)) (a0.size - k), true) := by
          rw [dg_congr (g := fun i => byt a0 (k + i)) (a0.size - k) (fun i hi => byt_cut a0 k a0.size i (by omega) (by omega)), dg_good (by omega) (by omega) (ad_shift _ (by rw [show k + (a0.size - k) = a0.size from by omega]; exact hA))]
        rw [sA, dA] at CA
        rw [sB, dB] at CB
        have HCA := hide CA
        have HCB := hide CB
        clear CA CB dA dB sA sB
        have hz1 : decide ((18 : Int) < (a0.size : Int)) = false := decide_eq_false (by omega)
        have hr := vl_range (f := byt a0) a0.size hA
        have hlast := ad_at (k := a0.size - 1) (by omega) hA
        have HAD := hide hA
        go_enter Try.func4, Try.ntmps4
        go_wp2_with fail
        refine C8.mono ?_
        rintro e w' ⟨rfl, rfl⟩
        clear C8
        go_wp2_with fail
        refine HC6.out.mono ?_
        rintro e w' ⟨rfl, rfl⟩
        clear HC6
        go_wp2_with fail
        refine C7.out.mono ?_
        rintro e w' ⟨rfl, rfl⟩
        clear C7
        rw [hA]
        clear hA
        go_wp2_with fail
        refine HCA.out.mono ?_
        rintro e w' ⟨rfl, rfl⟩
        clear HCA
        go_wp2_with fail
        refine HCB.out.mono ?_
        rintro e w' ⟨rfl, rfl⟩
        clear HCB
        have HS : Hid (vl (byt a0) a0.size = vl (byt a0) k * pw (a0.size - k) + vl (fun i => byt a0 (k + i)) (a0.size - k)) := by
          have := vl_split (byt a0) k (a0.size - k)
          rw [show k + (a0.size - k) = a0.size from by omega] at this
          exact this
        have HL : Hid (vl (byt a0) a0.size % 10 = (byt a0 (a0.size - 1) : Int) - 48) := by
          have e : vl (byt a0) a0.size = vl (byt a0) (a0.size - 1) * 10 + ((byt a0 (a0.size - 1) : Int) - 48) := by
            obtain ⟨z, hz⟩ : ∃ z, a0.size = z + 1 := ⟨a0.size - 1, by omega⟩
            rw [hz]
            rfl
          show _ = _
          rw [e]
          omega
        have hpl := pw_le (k := a0.size) (n := 18) h18'
        rw [pw18] at hpl
        have hr2 := vl_range (f := byt a0) k (ad_of_le (Nat.le_of_lt k2) HAD.out)
        have hr3 := vl_range (f := fun i => byt a0 (k + i)) (a0.size - k) (ad_shift _ (by rw [show k + (a0.size - k) = a0.size from by omega]; exact HAD.out))
        have n1 : 0 ≤ vl (byt a0) a0.size := hr.1
        have n2 : vl (byt a0) a0.size < 1000000000000000000 := by omega
        have n3 : 0 ≤ vl (byt a0) k := hr2.1
        have n4 : 0 ≤ vl (fun i => byt a0 (k + i)) (a0.size - k) := hr3.1
        clear hpl hr hr2 hr3 HAD
        generalize vl (byt a0) a0.size = N at *
        generalize vl (byt a0) k = A at *
        generalize vl (fun i => byt a0 (k + i)) (a0.size - k) = Bv at *
        go_wp2
        go_loop [11, 12] (fun p i => ∃ (j : Nat) (P : Int), j ≤ a0.size - k ∧ i = .int .i64 j ∧ p = .int .i64 P ∧ Hid (P = pw j)) (fun _ i => a0.size - k - (intOf i).toNat)
        case atStart => exact ⟨0, 1, Nat.zero_le _, rfl, rfl, rfl⟩
        case round =>
          obtain ⟨j, P, hj, rfl, rfl, HP⟩ := hrel
          by_cases hlt : j < a0.size - k
          · have p1 : 1 ≤ P := by rw [HP.out]; exact pw_pos j
            have p2 : P ≤ 1000000000000000000 / 10 := by
              have := pw_le (k := j + 1) (n := 18) (by omega)
              rw [pw18, pw, ← HP.out] at this
              omega
            have hlt' : (j : Int) < (a0.size : Int) - (k : Int) := by omega
            go_wp2
            go_round
            case rel => exact ⟨j + 1, P * 10, by omega, by go_num, rfl, by rw [HP.out]; rfl⟩
            case measure => simp [intOf]; omega
          · obtain rfl : j = a0.size - k := by omega
            have hNP : N = A * P + Bv := by rw [HS.out, HP.out]
            have hge : ¬ (((a0.size - k : Nat) : Int) < (a0.size : Int) - (k : Int)) := by omega
            have p1 : 1 ≤ P := by rw [HP.out]; exact pw_pos _
            have hAP : 0 ≤ A * P := Int.mul_nonneg n3 (by omega)
            have hAP2 : A * P < 1000000000000000000 := by omega
            have hti : ((a0.size : Int) - 1).toNat = a0.size - 1 := by omega
            have hbe := byt_eq a0 (a0.size - 1) (by omega)
            rw [hbe] at hlast
            have HL2 : Hid (N % 10 = ((a0[a0.size - 1]'(by omega)).toNat : Int) - 48) := by rw [← hbe]; exact HL.out
            obtain ⟨l1, l2⟩ := hlast
            have l1' : (48 : Int) ≤ ((a0[a0.size - 1]'(by omega)).toNat : Int) := by omega
            have l2' : ((a0[a0.size - 1]'(by omega)).toNat : Int) ≤ 57 := by omega
            have hq : (N == wrap64 (A * P + Bv)) = true := by
              rw [beq_iff_eq, ← hNP]
              unfold wrap64
              omega
            have hq2 : (N % 10 == ((a0[a0.size - 1]'(by omega)).toNat : Int) - 48) = true := by rw [beq_iff_eq]; exact HL2.out
            clear hNP hbe l1 l2
            go_wp2
            go_ret
            exact ⟨rfl, rfl⟩
  · rw [decide_eq_false hb] at C8
    go_enter Try.func4, Try.ntmps4
    go_wp2_with fail
    refine C8.mono ?_
    rintro e w' ⟨rfl, rfl⟩
    go_wp2
    go_ret
    exact ⟨rfl, rfl⟩

theorem walk (a0 : ByteArray) (a1 : Int) (w0 : a0.size ≤ maxLen) (w1 : (Lit.int .i64 a1).wf = true) (w : World) :
    Calls Try.prog 4 #[.string a0, .int .i64 a1] w fun e w' => e = .returned (.bool true) ∧ Grown w w' :=
  (walk_same a0 a1 w0 w).mono fun e w' ⟨h1, h2⟩ => ⟨h1, by rw [← h2]; exact Grown.refl _⟩

/-! ### THE ROW's STEP (the guide's own frame at this function's number and types) -/
set_option maxRecDepth 100000 in
theorem lifted (os : Os) (started : os.Started) (H : Type) (enc : TypeId × Value → H) :
    ReturnsInHanded {} Try.checked os 4 .any (Rows.fnDigitsSplitsAtAnyCutSpec.pre6 enc Try.prog Try.f4 Rows.fnDigitsSplitsAtAnyCutRow.domain false) (Rows.fnDigitsSplitsAtAnyCutSpec.post enc Try.prog Try.f4 false true false false) := by
  refine returnsInHanded_of_change (C := Try.checked) own started (by kernel_rfl) Try.func4
    (ChangeSpec.witness6 (enc := enc) (C := Try.checked) false ⟨#[], #[.string ByteArray.empty, .int .i64 0], []⟩ 8 (by kernel_rfl) (by kernel_rfl) (by kernel_rfl) (by kernel_rfl)) ?_
  intro W base args ds gs before hval0 hW hcnd _
  have hval : ∀ (j : Nat) t v, Try.f4.params[j]? = some t → args[j]? = some v → Value.okWide Try.prog W .any base t v := hval0
  have hW' := hW
  obtain ⟨p, q, hA0, hV, rfl, hfz, hnd⟩ := hW
  have hA : DataW.TrodAll enc Try.prog W 0 (fun _ => true) true Try.f4.params.toList args.toList ds p := hA0
  rw [Try.params4] at hA hval
  obtain ⟨v0, vs0, d0, ds0, p0, q0, hargs, rfl, rfl, h0, r0⟩ := trodAll_cons hA
  obtain ⟨v1, vs1, d1, ds1, p1, q1, rfl, rfl, rfl, h1, r1⟩ := trodAll_cons r0
  obtain ⟨rfl, rfl, rfl⟩ := trodAll_nil r1
  obtain rfl : args = #[v0, v1] := by cases args; simp_all
  obtain ⟨rfl, rfl⟩ := trodVars_none hV
  obtain ⟨a0, rfl, rfl, rfl, w0⟩ := open_string Try.underlying9 (hval 0 9 v0 rfl rfl) h0
  obtain ⟨a1, rfl, rfl, rfl, w1⟩ := open_int Try.underlying3 (hval 1 3 v1 rfl rfl) h1
  clear hA0 hval0
  simp only [List.append_nil] at hW'
  refine (walk a0 a1 w0 w1 W).mono fun e W' ⟨he, hg⟩ => ?_
  subst he
  exact ⟨_, rfl, post_of_same (pa := []) (pv := []) hW' (fun _ _ _ => (trodAll_cons_mk (shut_bool Try.underlying4 _) trodAll_mk0)) (fun sp _ => (trodAll_cons_mk (shut_string Try.underlying9 w0) (trodAll_cons_mk (shut_int Try.underlying3 w1) trodAll_mk0))) (fun _ _ => rfl) rfl
    (hg.frame _) hg.2.1 (ok_one (by kernel_rfl) rfl (okWide_bool_mk Try.underlying4 _))⟩

theorem over : Rows.fnDigitsSplitsAtAnyCutRow.holds Try.pinned (OpenSpec.ofChange Rows.fnDigitsSplitsAtAnyCutSpec) :=
  OpenClaim.holds_of_wide 4 Try.f4 rfl rfl rfl rfl rfl rfl rfl ⟨rfl, rfl, rfl, rfl, rfl⟩ rfl rfl rfl rfl rfl (by kernel_rfl) Try.func4 (by kernel_rfl)
    (of_decide_eq_true (by kernel_rfl)) (by unfold Func.isWrapper; first | (rw [if_pos (by decide +kernel)]; kernel_rfl) | (rw [if_neg (by decide +kernel)]; exact ⟨rfl, rfl⟩))
    (fun os started H enc _ => lifted os started H enc)

/-- THE STATEMENT -/
theorem proved : Rows.FnDigitsSplitsAtAnyCutSaid :=
  over
#print axioms proved
end Go.Proofs.Qxb6628338a.fnDigitsSplitsAtAnyCut
