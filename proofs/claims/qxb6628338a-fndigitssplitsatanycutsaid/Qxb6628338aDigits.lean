/- THE WALKS OF 'Digits' (6), 'allDecimalBytes' (7) AND THE GUARDS (5, 8). -/
import Derived.Test.Qxb6628338aRows
import Derived.Test.Qxb6628338aPlain
import Derived.WalkKit
import Derived.WalkSpells
import Derived.WalkLawsBesides
import Derived.Deep.QuietTactic
import Derived.BigQuiet
namespace Go.Proofs.Qxb6628338a
open Go.RowKit
open Plain

theorem hide {p : Prop} (h : p) : Hid p := h

set_option maxHeartbeats 400000 in
theorem bytes5_any (s : ByteArray) (w : World) (hs : s.size ≤ maxLen) :
    Calls Try.prog 5 #[.string s] w fun e w' => e = .returned (.bool (decide (s.size ≤ 1048576))) ∧ w = w' := by
  unfold maxLen at hs
  by_cases h : s.size ≤ 1048576
  · rw [decide_eq_true h]
    go_enter Try.func5, Try.ntmps5
    go_wp2
    go_ret
    exact ⟨rfl, rfl⟩
  · rw [decide_eq_false h]
    go_enter Try.func5, Try.ntmps5
    go_wp2
    go_ret
    exact ⟨rfl, rfl⟩

set_option maxHeartbeats 400000 in
theorem bytes8_any (s : ByteArray) (k : Int) (w : World) (hs : s.size ≤ maxLen) :
    Calls Try.prog 8 #[.string s, .int .i64 k] w fun e w' => e = .returned (.bool (decide (s.size ≤ 1048576))) ∧ w = w' := by
  unfold maxLen at hs
  by_cases h : s.size ≤ 1048576
  · rw [decide_eq_true h]
    go_enter Try.func8, Try.ntmps8
    go_wp2
    go_ret
    exact ⟨rfl, rfl⟩
  · rw [decide_eq_false h]
    go_enter Try.func8, Try.ntmps8
    go_wp2
    go_ret
    exact ⟨rfl, rfl⟩

set_option maxHeartbeats 400000 in
theorem all_any (s : ByteArray) (w : World) (hs : s.size ≤ 1048576) :
    Calls Try.prog 7 #[.string s] w fun e w' => e = .returned (.bool (ad (byt s) s.size)) ∧ w = w' := by
  obtain ⟨A, hA⟩ : ∃ A, A = ad (byt s) s.size := ⟨_, rfl⟩
  rw [← hA]
  have HA := hide hA
  clear hA
  go_enter Try.func7, Try.ntmps7
  go_wp2
  go_loop [3] (fun i => ∃ k : Nat, k ≤ s.size ∧ i = .int .i64 k ∧ Hid (ad (byt s) k = true)) (fun i => s.size - (intOf i).toNat)
  case atStart => exact ⟨0, Nat.zero_le _, rfl, rfl⟩
  case round =>
    obtain ⟨k, hk, rfl, HK⟩ := hrel
    by_cases hlt : k < s.size
    · have hbe := byt_eq s k hlt
      by_cases h1 : byt s k < 48
      · have hno : false = A := by rw [HA.out, ad_le (k := k + 1) hlt (ad_bad (.inl h1))]
        subst hno
        have h1' : ((s[k]'hlt).toNat : Int) < 48 := by omega
        clear hbe h1 HA
        go_wp2
        go_ret
        exact ⟨rfl, rfl⟩
      · by_cases h2 : 57 < byt s k
        · have hno : false = A := by rw [HA.out, ad_le (k := k + 1) hlt (ad_bad (.inr h2))]
          subst hno
          have h1' : (57 : Int) < ((s[k]'hlt).toNat : Int) := by omega
          clear hbe h1 h2 HA
          go_wp2
          go_ret
          exact ⟨rfl, rfl⟩
        · have HK1 := hide (ad_step HK.out (by omega) (by omega))
          have h1' : (48 : Int) ≤ ((s[k]'hlt).toNat : Int) := by omega
          have h2' : ((s[k]'hlt).toNat : Int) ≤ 57 := by omega
          clear hbe h1 h2
          go_wp2
          go_round
          case rel => exact ⟨k + 1, by omega, by go_num, HK1.out⟩
          case measure => simp [intOf]; omega
    · obtain rfl : k = s.size := by omega
      have hyes : true = A := by rw [HA.out, HK.out]
      subst hyes
      go_wp2
      go_ret
      exact ⟨rfl, rfl⟩

theorem isEmpty_eq (s : ByteArray) : s.toList.isEmpty = decide (s.size = 0) := by
  rw [← decide_eq_emptyBytes s (inst := inferInstance)]
  simp

set_option maxHeartbeats 400000 in
theorem digits_any (s : ByteArray) (w : World) (hs : s.size ≤ 1048576) :
    Calls Try.prog 6 #[.string s] w fun e w' => e = .returned (.tuple #[.int .i64 (dg (byt s) s.size).1, .bool (dg (byt s) s.size).2]) ∧ w = w' := by
  by_cases h0 : s.size = 0
  · have hd := dg_bad (f := byt s) (n := s.size) (.inl h0)
    rw [hd]
    clear hd
    have he : s.toList.isEmpty = true := by rw [isEmpty_eq, decide_eq_true h0]
    go_enter Try.func6, Try.ntmps6
    go_wp2
    go_ret2
    exact ⟨rfl, rfl⟩
  · have he : s.toList.isEmpty = false := by rw [isEmpty_eq, decide_eq_false h0]
    by_cases h18 : 18 < s.size
    · have hd := dg_bad (f := byt s) (n := s.size) (.inr (.inl h18))
      rw [hd]
      clear hd
      go_enter Try.func6, Try.ntmps6
      go_wp2
      go_ret2
      exact ⟨rfl, rfl⟩
    · have h18' : s.size ≤ 18 := by omega
      clear h18
      obtain ⟨D, hD⟩ : ∃ D, D = dg (byt s) s.size := ⟨_, rfl⟩
      rw [← hD]
      have HD := hide hD
      clear hD
      go_enter Try.func6, Try.ntmps6
      go_wp2
      go_loop [4, 16] (fun n i => ∃ k : Nat, k ≤ s.size ∧ i = .int .i64 k ∧ n = .int .i64 (vl (byt s) k) ∧ Hid (ad (byt s) k = true)) (fun _ i => s.size - (intOf i).toNat)
      case atStart => exact ⟨0, Nat.zero_le _, rfl, rfl, rfl⟩
      case round =>
        obtain ⟨k, hk, rfl, rfl, HK⟩ := hrel
        have hr := vl_range (f := byt s) k HK.out
        by_cases hlt : k < s.size
        · have hbe := byt_eq s k hlt
          have hpl := pw_le (k := k) (n := 17) (by omega)
          have hp17 : pw 17 = 100000000000000000 := by decide
          rw [hp17] at hpl
          obtain ⟨hr1, hr2⟩ := hr
          have hr3 : vl (byt s) k ≤ 100000000000000000 := by omega
          clear hp17
          by_cases h1 : byt s k < 48
          · have hno : (0, false) = D := by rw [HD.out, dg_bad (.inr (.inr (ad_le (k := k + 1) hlt (ad_bad (.inl h1)))))]
            subst hno
            have h1' : ((s[k]'hlt).toNat : Int) < 48 := by omega
            clear hbe h1 HD
            go_wp2
            go_ret2
            exact ⟨rfl, rfl⟩
          · by_cases h2 : 57 < byt s k
            · have hno : (0, false) = D := by rw [HD.out, dg_bad (.inr (.inr (ad_le (k := k + 1) hlt (ad_bad (.inr h2)))))]
              subst hno
              have h1' : (57 : Int) < ((s[k]'hlt).toNat : Int) := by omega
              clear hbe h1 h2 HD
              go_wp2
              go_ret2
              exact ⟨rfl, rfl⟩
            · have HK1 := hide (ad_step HK.out (by omega) (by omega))
              have h1' : (48 : Int) ≤ ((s[k]'hlt).toNat : Int) := by omega
              have h2' : ((s[k]'hlt).toNat : Int) ≤ 57 := by omega
              have HV : Hid (vl (byt s) (k + 1) = vl (byt s) k * 10 + (((s[k]'hlt).toNat : Int) - 48)) := by
                show _ = _
                rw [vl, hbe]
              clear hbe h1 h2 hr2 hpl
              go_wp2
              go_round
              case rel => exact ⟨k + 1, by omega, by go_num, by rw [HV.out], HK1.out⟩
              case measure => simp [intOf]; omega
        · obtain rfl : k = s.size := by omega
          have hyes : (vl (byt s) s.size, true) = D := by rw [HD.out, dg_good h0 h18' HK.out]
          subst hyes
          clear hr
          go_wp2
          go_ret2
          exact ⟨rfl, rfl⟩
end Go.Proofs.Qxb6628338a
