/- THE WALKS OF THE SIZE GUARDS: zzBodyFrameSizeOK (6), the two zzBytes_ (5, 9). -/
import Derived.Test.Qxb6627879aWalkB
namespace Go.Proofs.Qxb6627879a
open Go.RowKit

/-- It returns some bool, turns nothing; and if it says true, Q holds. -/
def Says (w : World) (Q : Prop) (e : Ending) (w' : World) : Prop := ∃ b, e = .returned (.bool b) ∧ w = w' ∧ (b = true → Q)
theorem Says.no {w : World} {Q : Prop} : Says w Q (.returned (.bool false)) w := ⟨false, rfl, rfl, by simp⟩
theorem Says.yes {w : World} {Q : Prop} (h : Q) : Says w Q (.returned (.bool true)) w := ⟨true, rfl, rfl, fun _ => h⟩

set_option maxHeartbeats 400000 in
theorem sizeOK_any (na va ba fa ea : Option Addr) (ln lv lb lf le nc vc bc fc ec : Nat) (N V : Nat → ByteArray) (w : World)
    (hln : ln ≤ maxLen) (hlv : lv ≤ maxLen) (hN : Strs w na ln N) (hV : Strs w va lv V) :
    Calls Try.prog 6 #[.slice na ln nc, .slice va lv vc, .slice ba lb bc, .slice fa lf fc, .slice ea le ec] w
      (Says w (ln ≤ 65536 ∧ lv ≤ 65536 ∧ lf ≤ 65536 ∧ le ≤ 65536)) := by
  unfold maxLen at hln hlv
  go_enter Try.func6, Try.ntmps6
  go_wp2
  all_goals first | (go_ret; exact Says.no) | skip
  have hq : ln ≤ 65536 ∧ lv ≤ 65536 ∧ lf ≤ 65536 ∧ le ≤ 65536 := by omega
  obtain ⟨q1, q2, q3, q4⟩ := hq
  go_loop [11, 12] (fun t i => ∃ k : Nat, ∃ s : Int, k ≤ ln ∧ i = .int .i64 k ∧ t = .int .i64 s) (fun _ i => ln - (intOf i).toNat)
  case atStart => exact ⟨0, _, Nat.zero_le _, rfl, rfl⟩
  case round =>
    obtain ⟨k, s, hk, rfl, rfl⟩ := hrel
    by_cases hlt : k < ln
    · obtain ⟨nb, no, rfl, hnb, hNc⟩ := hN (by omega)
      have c0 := hNc k hlt
      clear hNc
      go_wp2
      · go_ret; exact Says.no
      · go_round
        case rel => exact ⟨k + 1, _, by omega, by go_num, rfl⟩
        case measure => simp [intOf]; omega
    · go_wp2
      go_loop [11, 13] (fun t i => ∃ k : Nat, ∃ s : Int, k ≤ lv ∧ i = .int .i64 k ∧ t = .int .i64 s) (fun _ i => lv - (intOf i).toNat)
      case atStart => exact ⟨0, _, Nat.zero_le _, rfl, rfl⟩
      case round =>
        obtain ⟨k, s, hk, rfl, rfl⟩ := hrel
        by_cases hlt : k < lv
        · obtain ⟨nb, no, rfl, hnb, hNc⟩ := hV (by omega)
          have c0 := hNc k hlt
          clear hNc
          go_wp2
          · go_ret; exact Says.no
          · go_round
            case rel => exact ⟨k + 1, _, by omega, by go_num, rfl⟩
            case measure => simp [intOf]; omega
        · go_wp2
          go_ret
          exact Says.yes (by first | exact trivial | exact ⟨q1, q2, q3, q4⟩)

set_option maxHeartbeats 1000000 in
theorem bytes5_any (fr un off : Int) (na va ba fa ea : Option Addr) (ln lv lb lf le nc vc bc fc ec : Nat) (N V : Nat → ByteArray) (w : World)
    (hln : ln ≤ maxLen) (hlv : lv ≤ maxLen) (hN : Strs w na ln N) (hV : Strs w va lv V) :
    Calls Try.prog 5 #[.int .i64 fr, .slice na ln nc, .slice va lv vc, .int .i64 un, .slice ba lb bc, .slice fa lf fc, .slice ea le ec, .int .i64 off] w (Says w True) := by
  unfold maxLen at hln hlv
  go_enter Try.func5, Try.ntmps5
  go_wp2
  all_goals first | (go_ret; exact Says.no) | skip
  go_loop [17, 18] (fun t i => ∃ k : Nat, ∃ s : Int, k ≤ ln ∧ i = .int .i64 k ∧ t = .int .i64 s) (fun _ i => ln - (intOf i).toNat)
  case atStart => exact ⟨0, _, Nat.zero_le _, rfl, rfl⟩
  case round =>
    obtain ⟨k, s, hk, rfl, rfl⟩ := hrel
    by_cases hlt : k < ln
    · obtain ⟨nb, no, rfl, hnb, hNc⟩ := hN (by omega)
      have c0 := hNc k hlt
      clear hNc
      go_wp2
      · go_ret; exact Says.no
      · go_ret; exact Says.no
      · go_round
        case rel => exact ⟨k + 1, _, by omega, by go_num, rfl⟩
        case measure => simp [intOf]; omega
    · go_wp2
      all_goals first | (go_ret; exact Says.no) | skip
      go_loop [17, 19] (fun t i => ∃ k : Nat, ∃ s : Int, k ≤ lv ∧ i = .int .i64 k ∧ t = .int .i64 s) (fun _ i => lv - (intOf i).toNat)
      case atStart => exact ⟨0, _, Nat.zero_le _, rfl, rfl⟩
      case round =>
        obtain ⟨k, s, hk, rfl, rfl⟩ := hrel
        by_cases hlt : k < lv
        · obtain ⟨nb, no, rfl, hnb, hNc⟩ := hV (by omega)
          have c0 := hNc k hlt
          clear hNc
          go_wp2
          · go_ret; exact Says.no
          · go_ret; exact Says.no
          · go_round
            case rel => exact ⟨k + 1, _, by omega, by go_num, rfl⟩
            case measure => simp [intOf]; omega
        · go_wp2
          all_goals first | (go_ret; exact Says.no) | (go_ret; exact Says.yes trivial)

set_option maxHeartbeats 1000000 in
theorem bytes9_any (fr un off kk : Int) (na va ba fa ea : Option Addr) (ln lv lb lf le nc vc bc fc ec : Nat) (N V : Nat → ByteArray) (w : World)
    (hln : ln ≤ maxLen) (hlv : lv ≤ maxLen) (hN : Strs w na ln N) (hV : Strs w va lv V) :
    Calls Try.prog 9 #[.int .i64 fr, .slice na ln nc, .slice va lv vc, .int .i64 un, .slice ba lb bc, .slice fa lf fc, .slice ea le ec, .int .i64 off, .int .i64 kk] w (Says w True) := by
  unfold maxLen at hln hlv
  go_enter Try.func9, Try.ntmps9
  go_wp2
  all_goals first | (go_ret; exact Says.no) | skip
  go_loop [19, 20] (fun t i => ∃ k : Nat, ∃ s : Int, k ≤ ln ∧ i = .int .i64 k ∧ t = .int .i64 s) (fun _ i => ln - (intOf i).toNat)
  case atStart => exact ⟨0, _, Nat.zero_le _, rfl, rfl⟩
  case round =>
    obtain ⟨k, s, hk, rfl, rfl⟩ := hrel
    by_cases hlt : k < ln
    · obtain ⟨nb, no, rfl, hnb, hNc⟩ := hN (by omega)
      have c0 := hNc k hlt
      clear hNc
      go_wp2
      · go_ret; exact Says.no
      · go_ret; exact Says.no
      · go_round
        case rel => exact ⟨k + 1, _, by omega, by go_num, rfl⟩
        case measure => simp [intOf]; omega
    · go_wp2
      all_goals first | (go_ret; exact Says.no) | skip
      go_loop [19, 21] (fun t i => ∃ k : Nat, ∃ s : Int, k ≤ lv ∧ i = .int .i64 k ∧ t = .int .i64 s) (fun _ i => lv - (intOf i).toNat)
      case atStart => exact ⟨0, _, Nat.zero_le _, rfl, rfl⟩
      case round =>
        obtain ⟨k, s, hk, rfl, rfl⟩ := hrel
        by_cases hlt : k < lv
        · obtain ⟨nb, no, rfl, hnb, hNc⟩ := hV (by omega)
          have c0 := hNc k hlt
          clear hNc
          go_wp2
          · go_ret; exact Says.no
          · go_ret; exact Says.no
          · go_round
            case rel => exact ⟨k + 1, _, by omega, by go_num, rfl⟩
            case measure => simp [intOf]; omega
        · go_wp2
          all_goals first | (go_ret; exact Says.no) | (go_ret; exact Says.yes trivial)

end Go.Proofs.Qxb6627879a
