/- THE LAW 'FnParentsChainAndCount' (function 3): its walk, the row's step, the statement. -/
import Derived.Test.Qxb6628211aWalks2
import Derived.Deep.QuietTactic
import Derived.BigQuiet
import Derived.ProofKit
import Derived.OpenShut
import Derived.ShutString
import Derived.ChangeOld
import Derived.Below
namespace Go.Proofs.Qxb6628211a.fnParentsChainAndCount
open Go.ChangeShapes Go.WideShapes Go.ChangeAt Go.RowKit
open Go.ChangeMaps (open_string shut_string)
open Plain
set_option linter.unusedVariables false

theorem own : ownKnob Try.prog.godebug = none := by kernel_rfl

set_option maxHeartbeats 400000 in
theorem walk (a0 : ByteArray) (w0 : a0.size ≤ maxLen) (w : World) :
    Calls Try.prog 3 #[.string a0] w fun e w' => e = .returned (.bool true) ∧ Below w.heap.size w w' := by
  have C4 := bytes_any a0 w w0
  unfold maxLen at w0
  by_cases hb : a0.size ≤ 1048576
  · rw [decide_eq_true hb] at C4
    by_cases hs : a0.size ≤ 4096
    · have C5 := parents_any a0 w hs
      have HC5 := hide C5
      clear C5
      go_enter Try.func3, Try.ntmps3
      go_wp2_with fail
      refine C4.mono ?_
      rintro e w' ⟨rfl, rfl⟩
      clear C4
      go_wp2_with fail
      refine HC5.out.mono ?_
      rintro e w1 ⟨a, cap, rfl, hstr, hbel⟩
      have HSt := hide hstr
      have HB := hide hbel
      clear hstr hbel HC5
      have hnl := sl_len a0 a0.size
      go_wp2
      go_loop [4, 5] (fun n i => ∃ k : Nat, k ≤ a0.size ∧ i = .int .i64 k ∧ n = .int .i64 (sl a0 k).length) (fun _ i => a0.size - (intOf i).toNat)
      case atStart => exact ⟨0, Nat.zero_le _, rfl, rfl⟩
      case round =>
        obtain ⟨k, hk, rfl, rfl⟩ := hrel
        have hkl := sl_len a0 k
        by_cases hlt : k < a0.size
        · have hbe := byt_eq a0 k hlt
          by_cases h47 : byt a0 k = 47
          · have ht : (((a0[k]'hlt).toNat : Int) == 47) = true := by rw [← hbe, h47]; rfl
            have HN : Hid ((sl a0 (k + 1)).length = (sl a0 k).length + 1) := by rw [sl_hit a0 k h47, List.length_append]; rfl
            clear hbe h47
            go_wp2
            go_round
            case rel => exact ⟨k + 1, by omega, by go_num, by rw [HN.out]; go_num⟩
            case measure => simp [intOf]; omega
          · have ht : (((a0[k]'hlt).toNat : Int) == 47) = false := by rw [← hbe, beq_eq_false_iff_ne]; omega
            have HN : Hid ((sl a0 (k + 1)).length = (sl a0 k).length) := by rw [sl, if_neg h47]; rfl
            clear hbe h47
            go_wp2
            go_round
            case rel => exact ⟨k + 1, by omega, by go_num, by rw [HN.out]⟩
            case measure => simp [intOf]; omega
        · obtain rfl : k = a0.size := by omega
          have CH : Hid (∀ k, k < (sl a0 a0.size).length → (dir a0 k).size ≤ a0.size ∧ (sl (dir a0 k) (dir a0 k).size).length = k ∧ ∀ j, j < k → dir (dir a0 k) j = dir a0 j) := fun k hk => chain a0 k hk
          clear hkl hk hlt
          go_wp2
          generalize (sl a0 a0.size).length = n at *
          go_loopw [6] (fun i wr => ∃ k : Nat, k ≤ n ∧ i = .int .i64 k ∧ Below w.heap.size w wr ∧ Strs wr a n (dir a0)) (fun i _ => n - (intOf i).toNat)
          case atStart => exact ⟨0, Nat.zero_le _, rfl, HB.out, HSt.out⟩
          case round =>
            obtain ⟨k, hk, rfl, hbr, hsr⟩ := hrel
            by_cases hlt : k < n
            · obtain ⟨q1, q2, q3⟩ := CH.out k hlt
              obtain ⟨b, rfl, hbl, hc⟩ := hsr (by omega)
              have c0 := hc k hlt
              have C5 := parents_any (dir a0 k) wr (by omega)
              rw [q2] at C5
              have HC5 := hide C5
              have HC := hide hc
              have Q3 := hide q3
              have HBr := hide hbr
              have HSr := hide hsr
              clear C5 hc q2 q3 hbr hsr
              go_wp2_with fail
              refine HC5.out.mono ?_
              rintro e w2 ⟨a2, cap2, rfl, hs2, hb2⟩
              have HS2 := hide hs2
              have HB2 := hide hb2
              clear HC5 hs2 hb2
              go_wp2
              go_loopw [8] (fun i wi => ∃ j : Nat, j ≤ k ∧ i = .int .i64 j ∧ Below w2.heap.size w2 wi) (fun i _ => k - (intOf i).toNat)
              case atStart => exact ⟨0, Nat.zero_le _, rfl, Below.refl _ _⟩
              case round =>
                obtain ⟨j, hj, rfl, hbi⟩ := hrel
                by_cases hjk : j < k
                · obtain ⟨b2, rfl, hbl2, hc2⟩ := HS2.out (by omega)
                  have e0 : wr.cell? ⟨b2, j, none⟩ = some (.string (dir a0 j)) := (hbi.cell hbl2).trans ((hc2 j hjk).trans (by rw [Q3.out j hjk]))
                  have e1 : wr.cell? ⟨b, j, none⟩ = some (.string (dir a0 j)) := (hbi.cell (Nat.lt_of_lt_of_le hbl HB2.out.size)).trans ((HB2.out.cell hbl).trans (HC.out j (by omega)))
                  clear hc2 c0
                  go_wp2_with fail
                  go_quiet (fail)
                  go_wp2
                  go_roundw
                  case rel => exact ⟨j + 1, by omega, by go_num, below_drewN hbi _⟩
                  case measure => simp [intOf]; omega
                · go_wp2
                  go_roundw
                  case rel => exact ⟨k + 1, by omega, by go_num, HBr.out.trans ((HB2.out.mono HBr.out.size).trans (hbi.mono (Nat.le_trans HBr.out.size HB2.out.size))), strs_later (strs_later HSr.out HB2.out) hbi⟩
                  case measure => simp [intOf]; omega
            · go_wp2
              go_ret
              exact ⟨rfl, hbr⟩
    · go_enter Try.func3, Try.ntmps3
      go_wp2_with fail
      refine C4.mono ?_
      rintro e w' ⟨rfl, rfl⟩
      go_wp2
      go_ret
      exact ⟨rfl, Below.refl _ _⟩
  · rw [decide_eq_false hb] at C4
    go_enter Try.func3, Try.ntmps3
    go_wp2_with fail
    refine C4.mono ?_
    rintro e w' ⟨rfl, rfl⟩
    go_wp2
    go_ret
    exact ⟨rfl, Below.refl _ _⟩

/-! ### THE ROW's STEP (the guide's own frame at this function's number and types; 'Below' in the place of 'Grown', for the call appends to slices of its own) -/
set_option maxRecDepth 100000 in
theorem lifted (os : Os) (started : os.Started) (H : Type) (enc : TypeId × Value → H) :
    ReturnsInHanded {} Try.checked os 3 .any (Rows.fnParentsChainAndCountSpec.pre6 enc Try.prog Try.f3 Rows.fnParentsChainAndCountRow.domain false) (Rows.fnParentsChainAndCountSpec.post enc Try.prog Try.f3 false true false false) := by
  refine returnsInHanded_of_change (C := Try.checked) own started (by kernel_rfl) Try.func3
    (ChangeSpec.witness6 (enc := enc) (C := Try.checked) false ⟨#[], #[.string ByteArray.empty], []⟩ 8 (by kernel_rfl) (by kernel_rfl) (by kernel_rfl) (by kernel_rfl)) ?_
  intro W base args ds gs before hval0 hW hcnd _
  have hval : ∀ (j : Nat) t v, Try.f3.params[j]? = some t → args[j]? = some v → Value.okWide Try.prog W .any base t v := hval0
  have hW' := hW
  obtain ⟨p, q, hA0, hV, rfl, hfz, hnd⟩ := hW
  have hA : DataW.TrodAll enc Try.prog W 0 (fun _ => true) true Try.f3.params.toList args.toList ds p := hA0
  rw [Try.params3] at hA hval
  obtain ⟨v0, vs0, d0, ds0, p0, q0, hargs, rfl, rfl, h0, r0⟩ := trodAll_cons hA
  obtain ⟨rfl, rfl, rfl⟩ := trodAll_nil r0
  obtain rfl : args = #[v0] := by cases args; simp_all
  obtain ⟨rfl, rfl⟩ := trodVars_none hV
  obtain ⟨a0, rfl, rfl, rfl, w0⟩ := open_string Try.underlying9 (hval 0 9 v0 rfl rfl) h0
  clear hA0 hval0
  refine (walk a0 w0 W).mono fun e W' ⟨he, bel⟩ => ?_
  subst he
  exact ⟨_, rfl, _, _, _, [], _, [], hW', trodAll_mk1 (shut_bool Try.underlying4 _), (trodAll_cons_mk (shut_string Try.underlying9 w0) trodAll_mk0), rfl, bel.frame _, fun h => by cases h⟩

theorem over : Rows.fnParentsChainAndCountRow.holds Try.pinned (OpenSpec.ofChange Rows.fnParentsChainAndCountSpec) :=
  OpenClaim.holds_of_wide 3 Try.f3 rfl rfl rfl rfl rfl rfl rfl ⟨rfl, rfl, rfl, rfl, rfl⟩ rfl rfl rfl rfl rfl (by kernel_rfl) Try.func3 (by kernel_rfl)
    (of_decide_eq_true (by kernel_rfl)) (by unfold Func.isWrapper; first | (rw [if_pos (by decide +kernel)]; kernel_rfl) | (rw [if_neg (by decide +kernel)]; exact ⟨rfl, rfl⟩))
    (fun os started H enc _ => lifted os started H enc)

/-- THE STATEMENT. -/
theorem proved : Rows.FnParentsChainAndCountSaid := over
#print axioms proved
end Go.Proofs.Qxb6628211a.fnParentsChainAndCount
