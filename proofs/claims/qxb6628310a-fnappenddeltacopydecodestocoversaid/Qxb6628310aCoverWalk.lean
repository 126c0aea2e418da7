/- THE WALK OF THE LAW 'FnAppendDeltaCopyDecodesToCover' (3), out of the callees' contracts. -/
import Derived.Test.Qxb6628310aDecode
namespace Go.Proofs.Qxb6628310a.fnAppendDeltaCopyDecodesToCover
open Go.RowKit
open Plain

theorem dec_end1 {T done : List Int} {f' K : Nat} {o rm off : Int} (hT : T = done ++ (chunk o 65536 ++ enc f' (o + 65536) (rm - 65536))) (hl : (chunk o 65536).length = (tl o 65536 6).length + 1) (hM : o % 4294967296 = (off + 65536 * (K : Int)) % 4294967296)
    (_h1 : 65536 ≤ rm) (_h2 : rm ≤ 65536 * ((f' + 1 : Nat) : Int)) (_h3 : rm + 65536 * (K : Int) ≤ 4294967296) :
    done.length + 1 + (tl o 65536 6).length = (done ++ chunk o 65536).length ∧ (done ++ chunk o 65536) ++ enc f' (o + 65536) (rm - 65536) = T ∧ (o + 65536) % 4294967296 = (off + 65536 * ((K + 1 : Nat) : Int)) % 4294967296 := by
  refine ⟨by rw [List.length_append, hl]; omega, by rw [hT, List.append_assoc], by omega⟩
theorem dec_end2 {T done : List Int} {f' K : Nat} {o sz off : Int} (hT : T = done ++ (chunk o sz ++ enc f' (o + sz) (sz - sz))) (hl : (chunk o sz).length = (tl o sz 6).length + 1) :
    done.length + 1 + (tl o sz 6).length = (done ++ chunk o sz).length ∧ (done ++ chunk o sz) ++ enc f' (off + 65536 * ((K + 1 : Nat) : Int)) 0 = T := by
  refine ⟨by rw [List.length_append, hl]; omega, ?_⟩
  rw [hT, enc_done f' _ 0 (by omega), enc_done f' _ (sz - sz) (by omega)]
  simp

set_option maxRecDepth 100000 in
set_option maxHeartbeats 1000000 in
theorem decode_walk (a : Option Addr) (len cap : Nat) (Z : Nat → Int) (off n : Int) (w : World) (hlen : len ≤ maxLen) (ha : a = none → len = 0 ∧ cap = 0) (hZ : ∀ x, a = some x → ∀ i, i < len → w.cell? (x.add i) = some (.int .u8 (Z i))) (hb : HasBytes w a len Z) :
    Calls Try.prog 3 #[.slice a len cap, .int .i64 off, .int .i64 n] w fun e w' => e = .returned (.bool true) ∧ Below w.heap.size w w' := by
  have C5 := bytes5_any a len cap off n w hlen
  by_cases h1 : len ≤ 524288
  · by_cases h2 : n ≤ 4294967296
    · rw [decide_eq_true (show len ≤ 1048576 by omega)] at C5
      have C6 := hide (clone_any a len cap Z w (by omega) ha hZ)
      have HZ := hide hb
      clear hb
      go_enter Try.func3, Try.ntmps3
      go_wp2_with fail
      refine C5.mono ?_
      rintro e w' ⟨rfl, rfl⟩
      clear C5
      go_wp2_with fail
      refine C6.out.mono ?_
      rintro e w1 ⟨v1, rfl, hown1, hbel1⟩
      have HB1 := hide hbel1
      have HO1 := hide hown1
      clear C6 hbel1 hown1
      go_wp2_with fail
      have hfl : (firsts len Z).length = len := by simp [firsts]
      have C7 := append_any w.heap.size v1 (firsts len Z) off n w1 (by rw [hfl]; exact HO1.out) HB1.out.size h2 (by omega)
      refine C7.mono ?_
      rintro e w2 ⟨v2, rfl, hown2, hbel2⟩
      clear C7
      obtain ⟨T, hT⟩ : ∃ T, T = firsts len Z ++ enc 65536 off n := ⟨_, rfl⟩
      rw [← hT] at hown2
      obtain ⟨a2, cap2, rfl⟩ := owns_shape hown2
      have HB2 : Hid (Below w.heap.size w w2) := HB1.out.trans hbel2
      have HH := hide (has_of_owns hown2)
      have hTl : len ≤ T.length ∧ T.length ≤ 4194304 := by
        have := enc_le 65536 off n
        rw [hT, List.length_append, hfl]
        omega
      obtain ⟨t1, t2⟩ := hTl
      have hgd : ∀ i, i < len → T.getD i 0 = Z i := by
        intro i hi
        rw [hT, List.getD, List.getElem?_append_left (by omega)]
        simp [firsts, hi]
      have C8 := prefix_true a2 a T.length cap2 len cap (fun i => T.getD i 0) Z w2 t1 (by omega) (has_later HZ.out HB2.out) HH.out hgd
      have HC8 := hide C8
      have HT := hide hT
      clear C8 hT hown2 hbel2 HO1 hfl hgd HZ HB1
      go_wp2_with fail
      refine HC8.out.mono ?_
      rintro e w3 ⟨rfl, m, rfl⟩
      clear HC8
      by_cases hn0 : 0 < n
      · go_wp2
        go_loop [9, 11, 12] (fun r kk p => ∃ (done : List Int) (f K : Nat) (o rm : Int), r = .int .i64 rm ∧ kk = .int .u32 K ∧ p = .int .i64 done.length ∧ Hid (done ++ enc f o rm = T) ∧ 0 ≤ rm ∧ rm ≤ 65536 * (f : Int) ∧ rm + 65536 * (K : Int) ≤ 4294967296 ∧ Hid (o % 4294967296 = (off + 65536 * (K : Int)) % 4294967296) ∧ f ≤ 65536) (fun _ _ p => T.length - (intOf p).toNat)
        case atStart => exact ⟨firsts len Z, 65536, 0, off, n, rfl, rfl, by simp [firsts], HT.out.symm, by omega, by omega, by omega, hide (by simp), by omega⟩
        case round =>
          obtain ⟨done, f, K, o, rm, rfl, rfl, rfl, HE, g1, g2, g3, HM, g4⟩ := hrel
          by_cases hrm : 0 < rm
          · obtain ⟨f', rfl⟩ : ∃ f', f = f' + 1 := ⟨f - 1, by omega⟩
            obtain ⟨sz, hsz⟩ : ∃ sz, sz = min rm 65536 := ⟨_, rfl⟩
            have hz1 : 0 < sz := by omega
            have hz2 : sz ≤ 65536 := by omega
            have hz3 : sz ≤ rm := by omega
            have HTc : Hid (T = done ++ (chunk o sz ++ enc f' (o + sz) (rm - sz))) := by
              show _ = _
              rw [← HE.out, enc_step f' o rm hrm, hsz]
            have hdl : done.length < T.length := by rw [HTc.out]; exact (chunk_head _ _ _ _).2
            obtain ⟨gb, gz, rfl, hcell⟩ := HH.out (by omega)
            have c0 : w2.cell? ⟨gb, gz + done.length, none⟩ = some (.int .u8 ((opv o sz 7 : Nat) : Int)) := by
              refine (hcell done.length hdl).trans ?_
              show some (Value.int .u8 (T.getD done.length 0)) = _
              rw [HTc.out, (chunk_head _ _ _ _).1]
            have hb7 := and_high o sz
            have hb6 := and_six o sz hz1
            have hcl := chunk_len o sz hz1
            have hcl2 : (chunk o sz).length = (tl o sz 6).length + 1 := by
              show ((opv o sz 7 : Int) :: tl o sz 7).length = _
              rw [List.length_cons, tl_no (em6 hz1)]
            have HS := hide hsz
            have HC := hide hcell
            clear hsz hcell
            go_wp2
            go_loop [12, 14, 15, 16] (fun p ofs s i => ∃ k : Nat, k ≤ 6 ∧ i = .int .u64 k ∧ p = .int .i64 (((done.length + 1 + (tl o sz k).length : Nat)) : Int) ∧ ofs = .int .u32 (dof o k) ∧ s = .int .u32 (dsz sz k)) (fun _ _ _ i => 6 - (intOf i).toNat)
            case atStart => exact ⟨0, by omega, rfl, rfl, rfl, rfl⟩
            case round =>
              obtain ⟨k, hk, rfl, rfl, rfl, rfl⟩ := hrel
              by_cases hlt : k < 6
              · have hbk := and_bit o sz k hlt
                cases hem : em o sz k
                · rw [hem] at hbk
                  simp only [Bool.not_false] at hbk
                  have HY := hide (tl_no hem)
                  have HD : Hid (dof o (k + 1) = dof o k ∧ dsz sz (k + 1) = dsz sz k) := by
                    by_cases h4 : k < 4
                    · exact ⟨dof_stay o sz k h4 hem, by rw [dsz_under sz k (by omega), dsz_under sz (k + 1) (by omega)]⟩
                    · exact ⟨by rw [dof_over o k (by omega), dof_over o (k + 1) (by omega)], dsz_stay o sz k (by omega) hlt hz1 hem⟩
                  clear hem c0
                  go_wp2
                  go_round
                  case rel => exact ⟨k + 1, by omega, by go_num, by rw [HY.out], by rw [HD.out.1], by rw [HD.out.2]⟩
                  case measure => simp [intOf]; omega
                · rw [hem] at hbk
                  simp only [Bool.not_true] at hbk
                  have hca := chunk_at done (enc f' (o + sz) (rm - sz)) o sz k (by omega) hem
                  rw [← HTc.out] at hca
                  obtain ⟨hca1, hdl2⟩ := hca
                  have c1 : w2.cell? ⟨gb, gz + (done.length + 1 + (tl o sz k).length), none⟩ = some (.int .u8 (fld o sz k)) := by
                    refine (HC.out _ hdl2).trans ?_
                    show some (Value.int .u8 (T.getD _ 0)) = _
                    rw [hca1]
                  have hf0 : (fld o sz k == 0) = false := by
                    unfold em at hem
                    simp at hem
                    simpa using hem.1
                  have HY : Hid ((tl o sz (k + 1)).length = (tl o sz k).length + 1) := by
                    show _ = _
                    rw [tl_yes hem, List.length_append]
                    rfl
                  by_cases h4 : k < 4
                  · have HD : Hid (bits BinOp.or IntKind.u32 (dof o k) (fld o sz k % 4294967296 * 2 ^ (8 * k) % 4294967296) = dof o (k + 1) ∧ dsz sz (k + 1) = dsz sz k) :=
                      ⟨dof_step o sz k h4, by rw [dsz_under sz k (by omega), dsz_under sz (k + 1) (by omega)]⟩
                    clear hem c0 hca1
                    go_wp2
                    go_round
                    case rel => exact ⟨k + 1, by omega, by go_num, by rw [HY.out]; go_num, by rw [HD.out.1], by rw [HD.out.2]⟩
                    case measure => simp [intOf]; omega
                  · have HD : Hid (dof o (k + 1) = dof o k ∧ bits BinOp.or IntKind.u32 (dsz sz k) (fld o sz k % 4294967296 * 2 ^ (8 * (k - 4)) % 4294967296) = dsz sz (k + 1)) :=
                      ⟨by rw [dof_over o k (by omega), dof_over o (k + 1) (by omega)], dsz_step o sz k (by omega) hlt hz1 hem⟩
                    clear hem c0 hca1
                    go_wp2
                    go_round
                    case rel => exact ⟨k + 1, by omega, by go_num, by rw [HY.out]; go_num, by rw [HD.out.1], by rw [HD.out.2]⟩
                    case measure => simp [intOf]; omega
              · obtain rfl : k = 6 := by omega
                have e1 : dof o 6 = o % 4294967296 := rfl
                rw [e1]
                have hK : K ≤ 65535 := by omega
                have ho : (o % 4294967296 != (off + (K : Int) * 65536) % 4294967296) = false := by
                  have := HM.out
                  rw [Int.mul_comm] at this
                  simpa using this
                by_cases hbig : 65536 ≤ rm
                · have hs6 : sz = 65536 := by have := HS.out; omega
                  subst hs6
                  have e2 : dsz 65536 6 = 0 := rfl
                  rw [e2]
                  have R := dec_end1 HTc.out hcl2 HM.out hbig g2 g3
                  have HR := hide R
                  clear R
                  by_cases hgt : 65536 < rm
                  · go_wp2
                    go_round
                    case rel => exact ⟨done ++ chunk o 65536, f', K + 1, o + 65536, rm - 65536, rfl, by go_num, by rw [HR.out.1], HR.out.2.1, by omega, by omega, by omega, HR.out.2.2, by omega⟩
                    case measure => simp [intOf]; omega
                  · obtain rfl : rm = 65536 := by omega
                    go_wp2
                    go_round
                    case rel => exact ⟨done ++ chunk o 65536, f', K + 1, o + 65536, 0, rfl, by go_num, by rw [HR.out.1], HR.out.2.1, by omega, by omega, by omega, HR.out.2.2, by omega⟩
                    case measure => simp [intOf]; omega
                · have hs6 : sz = rm := by have := HS.out; omega
                  subst hs6
                  have e2 : dsz sz 6 = sz := by simp [dsz]; omega
                  rw [e2]
                  have R := dec_end2 (off := off) (K := K) HTc.out hcl2
                  have HR := hide R
                  clear R
                  go_wp2
                  go_round
                  case rel => exact ⟨done ++ chunk o sz, f', K + 1, off + 65536 * ((K + 1 : Nat) : Int), 0, rfl, by go_num, by rw [HR.out.1], HR.out.2, by omega, by omega, by omega, rfl, by omega⟩
                  case measure => simp [intOf]; omega
          · obtain rfl : rm = 0 := by omega
            have hdT : done = T := by rw [← HE.out, enc_done f o 0 (by omega), List.append_nil]
            subst hdT
            go_wp2
            go_ret
            exact ⟨rfl, below_drewN HB2.out _⟩
      · have hTf : T.length = len := by
          rw [HT.out, enc_done 65536 off n hn0, List.append_nil]
          simp [firsts]
        have ht : T.length ≤ len := by omega
        clear hTf
        go_wp2
        refine wp_loop_rounds 1 ?_
        rw [rounds_succ]
        go_wp2
        go_ret
        exact ⟨rfl, below_drewN HB2.out _⟩
    · go_enter Try.func3, Try.ntmps3
      go_wp2_with fail
      refine C5.mono ?_
      rintro e w' ⟨rfl, rfl⟩
      rw [decide_eq_true (show len ≤ 1048576 by omega)]
      go_wp2
      go_ret
      exact ⟨rfl, Below.refl _ _⟩
  · go_enter Try.func3, Try.ntmps3
    go_wp2_with fail
    refine C5.mono ?_
    rintro e w' ⟨rfl, rfl⟩
    by_cases h3 : len ≤ 1048576
    · rw [decide_eq_true h3]
      go_wp2
      go_ret
      exact ⟨rfl, Below.refl _ _⟩
    · rw [decide_eq_false h3]
      go_wp2
      go_ret
      exact ⟨rfl, Below.refl _ _⟩
end Go.Proofs.Qxb6628310a.fnAppendDeltaCopyDecodesToCover
