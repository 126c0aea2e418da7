/- THE WALK OF THE LAW 'FnAppendDeltaCopySplitsAtWholeCopies' (4), out of the callees' contracts. -/
import Derived.Test.Qxb6628310aDecode
namespace Go.Proofs.Qxb6628310a.fnAppendDeltaCopySplitsAtWholeCopies
open Go.RowKit
open Plain

theorem clone_later {w w' : World} {a : Option Addr} {len : Nat} {Z : Nat → Int} (h : ∀ x, a = some x → ∀ i, i < len → w.cell? (x.add i) = some (.int .u8 (Z i))) (hb : Below w.heap.size w w') :
    ∀ x, a = some x → ∀ i, i < len → w'.cell? (x.add i) = some (.int .u8 (Z i)) :=
  fun x hx i hi => (hb.cell (World.block_lt_of_cell? _ _ (h x hx i hi))).trans (h x hx i hi)

theorem has_drewN {w : World} {a : Option Addr} {len : Nat} {Z : Nat → Int} (m : Nat) (h : HasBytes w a len Z) : HasBytes (w.drewN m) a len Z := h

theorem enc_cut (k : Nat) (off o n : Int) (hk : k ≤ 65536) (hm : (k : Int) * 65536 ≤ n) (hn : n ≤ 4294967296) (ho : o % 4294967296 = (off + (k : Int) * 65536) % 4294967296) :
    enc 65536 off ((k : Int) * 65536) ++ enc 65536 o (n - (k : Int) * 65536) = enc 65536 off n := by
  have h := enc_split k (65536 - k) off n (by omega)
  rw [show k + (65536 - k) = 65536 from by omega] at h
  rw [h, Int.mul_comm, enc_fuel k 65536 off _ (by omega) hk, enc_fuel (65536 - k) 65536 o _ (by omega) (by omega), enc_congr (65536 - k) (off := o) (off' := off + 65536 * (k : Int)) (by rw [Int.mul_comm] at ho; exact ho)]

set_option maxRecDepth 100000 in
set_option maxHeartbeats 1000000 in
theorem split_walk (a : Option Addr) (len cap : Nat) (Z : Nat → Int) (off n kk : Int) (w : World) (hlen : len ≤ maxLen) (ha : a = none → len = 0 ∧ cap = 0) (hZ : ∀ x, a = some x → ∀ i, i < len → w.cell? (x.add i) = some (.int .u8 (Z i))) (hb : HasBytes w a len Z) :
    Calls Try.prog 4 #[.slice a len cap, .int .i64 off, .int .i64 n, .int .i64 kk] w fun e w' => e = .returned (.bool true) ∧ Below w.heap.size w w' := by
  have C9 := bytes9_any a len cap off n kk w hlen
  by_cases h1 : len ≤ 524288
  · rw [decide_eq_true (show len ≤ 1048576 by omega)] at C9
    by_cases h2 : n ≤ 4294967296
    · by_cases k0 : kk < 0
      · go_enter Try.func4, Try.ntmps4
        go_wp2_with fail
        refine C9.mono ?_
        rintro e w' ⟨rfl, rfl⟩
        go_wp2
        go_ret
        exact ⟨rfl, Below.refl _ _⟩
      by_cases k1 : 65536 < kk
      · go_enter Try.func4, Try.ntmps4
        go_wp2_with fail
        refine C9.mono ?_
        rintro e w' ⟨rfl, rfl⟩
        go_wp2
        go_ret
        exact ⟨rfl, Below.refl _ _⟩
      obtain ⟨k, rfl⟩ := Int.eq_ofNat_of_zero_le (Int.not_lt.1 k0)
      have hk : k ≤ 65536 := by omega
      clear k0 k1
      by_cases hm : (k : Int) * 65536 ≤ n
      · have C6 := hide (clone_any a len cap Z w (by omega) ha hZ)
        have HZ := hide hb
        have HA := hide ha
        have HZZ := hide hZ
        clear hb ha hZ
        go_enter Try.func4, Try.ntmps4
        go_wp2_with fail
        refine C9.mono ?_
        rintro e w' ⟨rfl, rfl⟩
        clear C9
        go_wp2_with fail
        refine C6.out.mono ?_
        rintro e w1 ⟨v1, rfl, hown1, hbel1⟩
        have HB1 := hide hbel1
        have HO1 := hide hown1
        clear C6 hbel1 hown1
        go_wp2_with fail
        have hfl : (firsts len Z).length = len := by simp [firsts]
        refine (append_any w.heap.size v1 (firsts len Z) off n w1 (by rw [hfl]; exact HO1.out) HB1.out.size h2 (by omega)).mono ?_
        rintro e w2 ⟨v2, rfl, hown2, hbel2⟩
        obtain ⟨T, hT⟩ : ∃ T, T = firsts len Z ++ enc 65536 off n := ⟨_, rfl⟩
        rw [← hT] at hown2
        obtain ⟨a2, cap2, rfl⟩ := owns_shape hown2
        have HB2 : Hid (Below w.heap.size w w2) := HB1.out.trans hbel2
        have HH2 := hide (has_of_owns hown2)
        have hn0 : 0 ≤ n := by omega
        have hel := enc_len 65536 off n (by omega) hn0
        have hTl : (T.length : Int) = (len : Int) + ((enc 65536 off n).length : Int) := by rw [hT, List.length_append, hfl]; omega
        have t1 : len ≤ T.length := by omega
        have t2 : T.length ≤ 4194304 := by omega
        have t3 : (n + 65535) / 65536 ≤ (T.length : Int) - (len : Int) := by omega
        have t4 : (T.length : Int) - (len : Int) ≤ 7 * ((n + 65535) / 65536) := by omega
        have hgd : Hid (∀ i, i < len → T.getD i 0 = Z i) := by
          intro i hi
          rw [hT, List.getD, List.getElem?_append_left (by omega)]
          simp [firsts, hi]
        have HT := hide hT
        have C6 := hide (clone_any a len cap Z w2 (by omega) HA.out (clone_later HZZ.out HB2.out))
        clear hel hTl hT hown2 hbel2 HO1 HB1
        go_wp2_with fail
        refine C6.out.mono ?_
        rintro e w3 ⟨v3, rfl, hown3, hbel3⟩
        have HO3 := hide hown3
        have HB3 := hide hbel3
        clear C6 hown3 hbel3
        go_wp2_with fail
        refine (append_any w2.heap.size v3 (firsts len Z) off ((k : Int) * 65536) w3 (by rw [hfl]; exact HO3.out) HB3.out.size (by omega) (by omega)).mono ?_
        rintro e w4 ⟨v4, rfl, hown4, hbel4⟩
        obtain ⟨L, hL⟩ : ∃ L, L = firsts len Z ++ enc 65536 off ((k : Int) * 65536) := ⟨_, rfl⟩
        rw [← hL] at hown4
        have hLl : L.length ≤ 4194304 := by
          have := enc_le 65536 off ((k : Int) * 65536)
          rw [hL, List.length_append, hfl]
          omega
        have HL := hide hL
        have HO4 := hide hown4
        have HB4 : Hid (Below w2.heap.size w2 w4) := HB3.out.trans hbel4
        clear hL hown4 hbel4 HO3 HB3
        go_wp2_with fail
        refine (append_any w2.heap.size v4 L (wrap64 (off + (k : Int) * 65536)) (n - (k : Int) * 65536) w4 HO4.out HB4.out.size (by omega) hLl).mono ?_
        rintro e w5 ⟨v5, rfl, hown5, hbel5⟩
        have hLT : L ++ enc 65536 (wrap64 (off + (k : Int) * 65536)) (n - (k : Int) * 65536) = T := by
          rw [HL.out, HT.out, List.append_assoc, enc_cut k off _ n hk hm h2 (wrap64_mod _)]
        rw [hLT] at hown5
        obtain ⟨a5, cap5, rfl⟩ := owns_shape hown5
        have HH5 := hide (has_of_owns hown5)
        have hb25 : Below w2.heap.size w2 w5 := HB4.out.trans hbel5
        have HB5 : Hid (Below w.heap.size w w5) := HB2.out.trans (hb25.mono HB2.out.size)
        have C10 := hide (same_true a5 a2 T.length cap5 cap2 (fun i => T.getD i 0) w5 (by omega) (has_later HH2.out hb25) HH5.out)
        have C8 := hide (fun m => prefix_true a2 a T.length cap2 len cap (fun i => T.getD i 0) Z (w5.drewN m) t1 (by omega) (has_drewN m (has_later HZ.out HB5.out)) (has_drewN m (has_later HH2.out hb25)) hgd.out)
        clear hLT hown5 hbel5 hb25 HL HO4 HB4 HH2 HH5 HZ HZZ HA HB2 hgd
        go_wp2_with fail
        refine C10.out.mono ?_
        rintro e w6 ⟨rfl, m, rfl⟩
        go_wp2_with fail
        refine (C8.out m).mono ?_
        rintro e w7 ⟨rfl, m', rfl⟩
        clear C10 C8
        by_cases hp : 0 < n
        · go_wp2
          go_ret
          exact ⟨rfl, below_drewN HB5.out _⟩
        · obtain rfl : n = 0 := by omega
          have hz : decide ((T.length : Int) - (len : Int) ≤ 0) = true := by simp; omega
          go_wp2
          go_ret
          exact ⟨rfl, below_drewN HB5.out _⟩
      · go_enter Try.func4, Try.ntmps4
        go_wp2_with fail
        refine C9.mono ?_
        rintro e w' ⟨rfl, rfl⟩
        go_wp2
        go_ret
        exact ⟨rfl, Below.refl _ _⟩
    · go_enter Try.func4, Try.ntmps4
      go_wp2_with fail
      refine C9.mono ?_
      rintro e w' ⟨rfl, rfl⟩
      go_wp2
      go_ret
      exact ⟨rfl, Below.refl _ _⟩
  · go_enter Try.func4, Try.ntmps4
    go_wp2_with fail
    refine C9.mono ?_
    rintro e w' ⟨rfl, rfl⟩
    by_cases h3 : len ≤ 1048576
    · rw [decide_eq_true h3]
      go_wp2
      go_ret
      exact ⟨rfl, Below.refl _ _⟩
    · rw [decide_eq_false h3]
      go_wp2
      go_ret
      exact ⟨rfl, Below.refl _ _⟩
end Go.Proofs.Qxb6628310a.fnAppendDeltaCopySplitsAtWholeCopies
