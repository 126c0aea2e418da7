/- THE LAW 'FnDigitsReadsExactlyItsDecimalText' (3): its walk, the row's step, the statement. -/
import Derived.Test.Qxb6628338aDigits
import Derived.ProofKit
import Derived.OpenShut
import Derived.ShutString
import Derived.ChangeOld
import Derived.Below
namespace Go.Proofs.Qxb6628338a.fnDigitsReadsExactlyItsDecimalText
open Go.ChangeShapes Go.WideShapes Go.ChangeAt Go.RowKit
open Go.ChangeMaps (open_string shut_string)
open Plain
set_option linter.unusedVariables false

theorem own : ownKnob Try.prog.godebug = none := by kernel_rfl

theorem Try.info5 : (Try.prog.info? 5).map (fun i => (i.zero, i.size, i.bytes)) = some (some (.int .u8 0), 1, 1) := by kernel_rfl

/-- One step of writing the number down: the last digit, and the rest. -/
theorem digit_step {f : Nat → Nat} {j : Nat} {V : Int} (hV : V = vl f j) (hj : 0 < j) (hd : 48 ≤ f (j - 1) ∧ f (j - 1) ≤ 57) : V / 10 = vl f (j - 1) ∧ 48 + V % 10 = (f (j - 1) : Int) := by
  obtain ⟨i, rfl⟩ : ∃ i, j = i + 1 := ⟨j - 1, by omega⟩
  simp only [vl, Nat.add_sub_cancel] at hV hd ⊢
  omega
theorem set_more {xs : List Value} {n j : Nat} {f : Nat → Nat} {y : Int} (hl : j - 1 < xs.length) (hy : y = (f (j - 1) : Int)) (h : ∀ t, j ≤ t → t < n → xs[t]? = some (.int .u8 (f t))) :
    ∀ t, j - 1 ≤ t → t < n → (xs.set (j - 1) (.int .u8 y))[t]? = some (.int .u8 (f t)) := by
  intro t h1 h2
  by_cases e : t = j - 1
  · subst e
    rw [List.getElem?_set_self hl, hy]
  · rw [List.getElem?_set_ne (by omega)]
    exact h t (by omega) h2

set_option maxRecDepth 100000 in
set_option maxHeartbeats 1000000 in
theorem walk (a0 : ByteArray) (w0 : a0.size ≤ maxLen) (w : World) :
    Calls Try.prog 3 #[.string a0] w fun e w' => e = .returned (.bool true) ∧ Below w.heap.size w w' := by
  have C5 := bytes5_any a0 w w0
  unfold maxLen at w0
  by_cases hb : a0.size ≤ 1048576
  · rw [decide_eq_true hb] at C5
    have C6 := digits_any a0 w hb
    have C7 := hide (all_any a0 w hb)
    by_cases h0 : a0.size = 0
    · rw [dg_bad (.inl h0)] at C6
      have HC6 := hide C6
      clear C6
      go_enter Try.func3, Try.ntmps3
      go_wp2_with fail
      refine C5.mono ?_
      rintro e w' ⟨rfl, rfl⟩
      clear C5
      go_wp2_with fail
      refine HC6.out.mono ?_
      rintro e w' ⟨rfl, rfl⟩
      go_wp2
      go_ret
      exact ⟨rfl, Below.refl _ _⟩
    · by_cases h18 : 18 < a0.size
      · rw [dg_bad (.inr (.inl h18))] at C6
        have HC6 := hide C6
        clear C6
        go_enter Try.func3, Try.ntmps3
        go_wp2_with fail
        refine C5.mono ?_
        rintro e w' ⟨rfl, rfl⟩
        clear C5
        go_wp2_with fail
        refine HC6.out.mono ?_
        rintro e w' ⟨rfl, rfl⟩
        go_wp2
        go_ret
        exact ⟨rfl, Below.refl _ _⟩
      · cases hA : ad (byt a0) a0.size
        · rw [dg_bad (.inr (.inr hA))] at C6
          have HC6 := hide C6
          clear C6
          go_enter Try.func3, Try.ntmps3
          go_wp2_with fail
          refine C5.mono ?_
          rintro e w' ⟨rfl, rfl⟩
          clear C5
          go_wp2_with fail
          refine HC6.out.mono ?_
          rintro e w' ⟨rfl, rfl⟩
          clear HC6
          go_wp2_with fail
          refine C7.out.mono ?_
          rintro e w' ⟨rfl, rfl⟩
          rw [hA]
          go_wp2
          go_ret
          exact ⟨rfl, Below.refl _ _⟩
        · rw [dg_good h0 (by omega) hA] at C6
          have HC6 := hide C6
          have hr := vl_range (f := byt a0) a0.size hA
          have hz0 : ((a0.size : Int) == 0) = false := beq_eq_false_iff_ne.2 (by omega)
          have hz1 : decide ((18 : Int) < (a0.size : Int)) = false := decide_eq_false (by omega)
          have hsz : 0 < a0.size := by omega
          have h18' : a0.size ≤ 18 := by omega
          clear h0 h18
          obtain ⟨i5, hi5, hz5, hs5, hb5⟩ := info_parts Try.info5
          clear C6
          go_enter Try.func3, Try.ntmps3
          go_wp2_with fail
          refine C5.mono ?_
          rintro e w' ⟨rfl, rfl⟩
          clear C5
          go_wp2_with fail
          refine HC6.out.mono ?_
          rintro e w' ⟨rfl, rfl⟩
          clear HC6
          go_wp2_with fail
          refine C7.out.mono ?_
          rintro e w' ⟨rfl, rfl⟩
          clear C7
          rw [hA]
          have HAD := hide hA
          clear hA
          obtain ⟨hr1, hr2⟩ := hr
          go_wp2_with (at_make; refine wpList_make_full _ rfl _ _ 25 rfl w.heap.size 5 i5 _ 1 Try.underlying25 hi5 hz5 hs5 .i64 .i64 _ _ a0.size rfl rfl rfl rfl ?b2 ?b3 ?b4 ?_)
          case b2 => rw [hb5]; omega
          case b3 => unfold maxLen; omega
          case b4 => exact Nat.le_refl _
          intro w1 hown hgrow
          have hbel : Below w.heap.size w w1 := (Below.refl _ _).grown hgrow (Nat.le_refl _) (by simp)
          clear hgrow
          have HO := hide hown
          have HB := hide hbel
          clear hown hbel
          go_wp2_with fail
          go_loopw [6, 7] (fun m i wr => ∃ (j : Nat) (xs : List Value) (V : Int), j ≤ a0.size ∧ i = .int .i64 ((j : Int) - 1) ∧ m = .int .i64 V ∧ Hid (V = vl (byt a0) j) ∧ wr.ownsRow w.heap.size 5 1 (.slice (some ⟨w.heap.size, 0, none⟩) a0.size a0.size) a0.size xs ∧ Below w.heap.size w wr ∧ ∀ t, j ≤ t → t < a0.size → xs[t]? = some (.int .u8 (byt a0 t))) (fun _ i _ => (intOf i + 1).toNat)
          case atStart => exact ⟨a0.size, _, _, Nat.le_refl _, rfl, rfl, rfl, by simpa using HO.out, HB.out, fun t h1 h2 => by omega⟩
          case round =>
            obtain ⟨j, xs, V, hj, rfl, rfl, HV, howr, hbr, hxs⟩ := hrel
            by_cases hj0 : j = 0
            · subst hj0
              have hV0 : V = 0 := HV.out
              subst hV0
              have HO2 := hide howr
              have HB2 := hide hbr
              have HX := hide hxs
              clear howr hbr hxs HO HB
              go_wp2_with fail
              go_loopw [8] (fun i wi => ∃ t : Nat, t ≤ a0.size ∧ i = .int .i64 t ∧ ∃ n, wi = wr.drewN n) (fun i _ => a0.size - (intOf i).toNat)
              case atStart => exact ⟨0, Nat.zero_le _, rfl, 0, rfl⟩
              case round =>
                obtain ⟨t, ht, rfl, n, rfl⟩ := hrel
                by_cases hlt : t < a0.size
                · have c0 : wr.cell? ⟨w.heap.size, t, none⟩ = some (.int .u8 ((a0[t]'hlt).toNat : Int)) := by
                    rw [HO2.out.cellAt t (by omega), HX.out t (Nat.zero_le _) hlt, byt_eq a0 t hlt]
                  go_wp2_with fail
                  go_quiet (fail)
                  go_wp2
                  go_roundw
                  case rel => exact ⟨t + 1, by omega, by go_num, _, rfl⟩
                  case measure => simp [intOf]; omega
                · go_wp2
                  go_ret
                  exact ⟨rfl, below_drewN HB2.out _⟩
            · have hti : ((j : Int) - 1).toNat = j - 1 := by omega
              have hxl := howr.1
              have c0 : wr.cell? ⟨w.heap.size, j - 1, none⟩ = some (xs[j - 1]'(by omega)) := by rw [howr.cellAt (j - 1) (by omega)]; simp
              have z0 := howr.frozenAt (j - 1)
              have hvr := vl_range (f := byt a0) j (ad_of_le hj HAD.out)
              have hpl := pw_le (k := j) (n := 18) (by omega)
              rw [pw18] at hpl
              rw [← HV.out] at hvr
              obtain ⟨v1, v2⟩ := hvr
              have v3 : V < 1000000000000000000 := by omega
              have HO2 := hide howr
              have HB2 := hide hbr
              have HX := hide hxs
              clear v2 hpl howr hbr hxs HO HB
              go_wp2
              go_roundw
              case rel =>
                have R := digit_step (HV.out.trans rfl) (by omega) (ad_at (k := j - 1) (by omega) HAD.out)
                exact ⟨j - 1, _, V / 10, by omega, by go_num, rfl, R.1, (HO2.out.stored (j - 1) _).1, HB2.out.setCell (Nat.le_refl _) _, set_more (by omega) R.2 HX.out⟩
              case measure => simp [intOf]; omega
  · rw [decide_eq_false hb] at C5
    go_enter Try.func3, Try.ntmps3
    go_wp2_with fail
    refine C5.mono ?_
    rintro e w' ⟨rfl, rfl⟩
    go_wp2
    go_ret
    exact ⟨rfl, Below.refl _ _⟩

/-! ### THE ROW's STEP (the guide's own frame at this function's number and types; 'Below' in the place of 'Grown', for the call writes into a slice of its own) -/
set_option maxRecDepth 100000 in
theorem lifted (os : Os) (started : os.Started) (H : Type) (enc : TypeId × Value → H) :
    ReturnsInHanded {} Try.checked os 3 .any (Rows.fnDigitsReadsExactlyItsDecimalTextSpec.pre6 enc Try.prog Try.f3 Rows.fnDigitsReadsExactlyItsDecimalTextRow.domain false) (Rows.fnDigitsReadsExactlyItsDecimalTextSpec.post enc Try.prog Try.f3 false true false false) := by
  refine returnsInHanded_of_change (C := Try.checked) own started (by kernel_rfl) Try.func3
    (ChangeSpec.witness6 (enc := enc) (C := Try.checked) false ⟨#[], #[.string ByteArray.empty], []⟩ 8 (by kernel_rfl) (by kernel_rfl) (by kernel_rfl) (by kernel_rfl)) ?_
  intro W base args ds gs before hval0 hW hcnd _
  have hval : ∀ (j : Nat) t v, Try.f3.params[j]? = some t → args[j]? = some v → Value.okWide Try.prog W .any base t v := hval0
  have hW' := hW
  obtain ⟨p, q, hA0, hV, rfl, hfz, hnd⟩ := hW
  have hA : DataW.TrodAll enc Try.prog W 0 (fun _ => true) true Try.f3.params.toList args.toList ds p := hA0
  rw [Try.params3] at hA hval
  obtain ⟨v0, vs0, d0, ds0, p0, q0, hargs, rfl, rfl, h0, r0⟩ := trodAll_cons hA
  obtain ⟨rfl, rfl, rfl⟩ := trodAll_nil r0
  obtain rfl : args = #[v0] := by cases args; simp_all
  obtain ⟨rfl, rfl⟩ := trodVars_none hV
  obtain ⟨a0, rfl, rfl, rfl, w0⟩ := open_string Try.underlying9 (hval 0 9 v0 rfl rfl) h0
  clear hA0 hval0
  refine (walk a0 w0 W).mono fun e W' ⟨he, bel⟩ => ?_
  subst he
  exact ⟨_, rfl, _, _, _, [], _, [], hW', trodAll_mk1 (shut_bool Try.underlying4 _), (trodAll_cons_mk (shut_string Try.underlying9 w0) trodAll_mk0), rfl, bel.frame _, fun h => by cases h⟩

theorem over : Rows.fnDigitsReadsExactlyItsDecimalTextRow.holds Try.pinned (OpenSpec.ofChange Rows.fnDigitsReadsExactlyItsDecimalTextSpec) :=
  OpenClaim.holds_of_wide 3 Try.f3 rfl rfl rfl rfl rfl rfl rfl ⟨rfl, rfl, rfl, rfl, rfl⟩ rfl rfl rfl rfl rfl (by kernel_rfl) Try.func3 (by kernel_rfl)
    (of_decide_eq_true (by kernel_rfl)) (by unfold Func.isWrapper; first | (rw [if_pos (by decide +kernel)]; kernel_rfl) | (rw [if_neg (by decide +kernel)]; exact ⟨rfl, rfl⟩))
    (fun os started H enc _ => lifted os started H enc)

/-- THE STATEMENT -/
theorem proved : Rows.FnDigitsReadsExactlyItsDecimalTextSaid :=
  over
#print axioms proved
end Go.Proofs.Qxb6628338a.fnDigitsReadsExactlyItsDecimalText
