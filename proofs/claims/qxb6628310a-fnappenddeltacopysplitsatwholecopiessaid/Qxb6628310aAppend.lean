/- THE WALK OF 'AppendDeltaCopy' (7). -/
import Derived.Test.Qxb6628310aSmall
import Derived.Test.Qxb6628310aPlain
namespace Go.Proofs.Qxb6628310a
open Go.RowKit
open Plain

theorem owns_shape {w : World} {B : Nat} {e : TypeId} {size : Nat} {v : Value} {n : Nat} {xs : List Value} (h : w.ownsRow B e size v n xs) : ∃ a cap, v = .slice a n cap := by
  rcases h.2 with ⟨rfl, rfl⟩ | ⟨g, cap, cur, rfl, _⟩
  · exact ⟨none, 0, rfl⟩
  · exact ⟨_, cap, rfl⟩
theorem owns_some {w : World} {B : Nat} {e : TypeId} {size : Nat} {v : Value} {n : Nat} {xs : List Value} (h : w.ownsRow B e size v n xs) (hn : 0 < n) : ∃ g cap, v = .slice (some ⟨g, 0, none⟩) n cap ∧ B ≤ g ∧ g < w.heap.size := by
  rcases h.2 with ⟨rfl, h0⟩ | ⟨g, cap, cur, rfl, _⟩
  · omega
  · exact ⟨g, cap, rfl, h.lt g rfl⟩

/-- The field that the range over the array meets. -/
theorem index_fact (off sz : Int) (k : Nat) (hk : k < 7) (w : World) :
    (Instr.index 30 (.agg #[.int .i64 off, .int .i64 (off / 256), .int .i64 (off / 65536), .int .i64 (off / 16777216), .int .i64 sz, .int .i64 (sz / 256), .int .i64 (sz / 65536)]) (.int .i64 k)).run Try.prog w = .ok (.int .i64 (sel off sz k)) w := by
  have h : k = 0 ∨ k = 1 ∨ k = 2 ∨ k = 3 ∨ k = 4 ∨ k = 5 ∨ k = 6 := by omega
  rcases h with rfl | rfl | rfl | rfl | rfl | rfl | rfl
  · show _ = _; kernel_rfl
  · show _ = _; kernel_rfl
  · show _ = _; kernel_rfl
  · show _ = _; kernel_rfl
  · show _ = _; kernel_rfl
  · show _ = _; kernel_rfl
  · show _ = _; kernel_rfl

/-- The bits of the first byte. -/
theorem opv_bits (off sz : Int) : ∀ i, i ≤ 7 → opv off sz i < 256 ∧ 128 ≤ opv off sz i ∧ opv off sz i < 128 + 2 ^ i
  | 0, _ => by simp [opv]
  | i + 1, h => by
    have ih := opv_bits off sz i (by omega)
    have h2 : 2 ^ (i + 1) = 2 * 2 ^ i := by rw [Nat.pow_succ]; omega
    have h3 : 2 ^ (i + 1) ≤ 2 ^ 7 := Nat.pow_le_pow_right (by omega) h
    cases e : em off sz i
    · rw [opv_no e]; omega
    · rw [opv_yes e]; omega
theorem or_new : ∀ i, i < 7 → ∀ x, x < 256 → 128 ≤ x → x < 128 + 2 ^ i → x ||| 2 ^ i = x + 2 ^ i := by decide +kernel
theorem or_fact (off sz : Int) (i : Nat) (hi : i < 7) : bits BinOp.or IntKind.u8 ((opv off sz i : Nat) : Int) (2 ^ i % 256) = ((opv off sz i + 2 ^ i : Nat) : Int) := by
  obtain ⟨h1, h2, h3⟩ := opv_bits off sz i (by omega)
  have hp : 2 ^ i < 256 := Nat.lt_of_lt_of_le (Nat.pow_lt_pow_right (by omega) hi) (by omega)
  have e : (2 ^ i % 256 : Int) = ((2 ^ i : Nat) : Int) := by
    rw [Int.natCast_pow]
    have : ((2 ^ i : Nat) : Int) < 256 := by omega
    rw [Int.natCast_pow] at this
    have h0 : (0 : Int) ≤ 2 ^ i := Int.pow_nonneg (by omega)
    exact Int.emod_eq_of_lt h0 this
  rw [e, u8_or_nat _ _ h1 hp, or_new i hi _ h1 h2 h3]

theorem owns_put {w : World} {B g n cap : Nat} {done t : List Int} {x : Int} (h : w.ownsRow B 5 1 (.slice (some ⟨g, 0, none⟩) n cap) n (u8s (done ++ x :: t))) (y : Int) :
    (w.setCell ⟨g, done.length, none⟩ (.int .u8 y)).ownsRow B 5 1 (.slice (some ⟨g, 0, none⟩) n cap) n (u8s (done ++ y :: t)) := by
  have h1 := (h.stored done.length (.int .u8 y)).1
  have e : (u8s (done ++ x :: t)).set done.length (.int .u8 y) = u8s (done ++ y :: t) := by
    simp [u8s]
  rw [e] at h1
  exact h1

theorem cell_new_after (w : World) (p : Addr) (u x : Value) : ∀ j y, [x][j]? = some y → ((w.setCell p u).alloc (.cells #[x] 5)).drew.cell? ((⟨w.heap.size, 0, none⟩ : Addr).add j) = some y := by
  have h := cell_one_new (w.setCell p u) x 5
  rw [World.size_setCell] at h
  exact h

/-- What one written field does to the row. -/
theorem step_end {w wr w2 : World} {B g n cap k : Nat} {ov sz : Int} {done : List Int} {v2 : Value} (hB : B ≤ w.heap.size) (hBg : B ≤ g) (hb : Below B w wr) (h1 : opv ov sz (k + 1) = opv ov sz k + 2 ^ k) (h2 : tl ov sz (k + 1) = tl ov sz k ++ [fld ov sz k])
    (hown : w2.ownsRow B 5 1 v2 (done.length + 1 + (tl ov sz k).length + 1) (u8s (done ++ ((opv ov sz k + 2 ^ k : Nat) : Int) :: tl ov sz k) ++ [.int .u8 (fld ov sz k)]))
    {u : Value} {o : Obj} (hgrow : ((wr.setCell ⟨g, done.length, none⟩ u).alloc o).drew.grownBy w2 (Value.slice (some ⟨g, 0, none⟩) n cap).ownBlock) :
    w2.ownsRow B 5 1 v2 (done.length + 1 + (tl ov sz (k + 1)).length) (u8s (done ++ ((opv ov sz (k + 1) : Nat) : Int) :: tl ov sz (k + 1))) ∧ Below B w w2 := by
  constructor
  · rw [h1, h2, List.length_append]
    have e : u8s (done ++ ((opv ov sz k + 2 ^ k : Nat) : Int) :: (tl ov sz k ++ [fld ov sz k])) = u8s (done ++ ((opv ov sz k + 2 ^ k : Nat) : Int) :: tl ov sz k) ++ [.int .u8 (fld ov sz k)] := by simp [u8s]
    rw [e]
    exact hown
  · have hs := hb.size
    refine ((hb.setCell (p := ⟨g, done.length, none⟩) hBg u).alloc (by simp; omega) o).drew.grown hgrow (by simp; omega) ?_
    intro j hj
    simp [Value.ownBlock] at hj
    omega

theorem wrap64_mod (x : Int) : wrap64 x % 4294967296 = x % 4294967296 := by unfold wrap64; omega

set_option maxHeartbeats 1000000 in
theorem append_any (B : Nat) (v : Value) (bs : List Int) (off n : Int) (w : World) (hown : w.ownsRow B 5 1 v bs.length (u8s bs)) (hB : B ≤ w.heap.size) (hn : n ≤ 4294967296) (hlen : bs.length ≤ 4194304) :
    Calls Try.prog 7 #[v, .int .i64 off, .int .i64 n] w fun e w' => ∃ v', e = .returned v' ∧ w'.ownsRow B 5 1 v' (bs ++ enc 65536 off n).length (u8s (bs ++ enc 65536 off n)) ∧ Below B w w' := by
  obtain ⟨i5, hi5, hz5, hs5, hb5⟩ := info_parts Try.info5
  obtain ⟨T, hT⟩ : ∃ T, T = bs ++ enc 65536 off n := ⟨_, rfl⟩
  rw [← hT]
  have HT := hide hT
  have HO := hide hown
  clear hT hown
  go_enter Try.func7, Try.ntmps7
  go_wp2
  go_loopw [0, 1, 2] (fun v' o r wr => ∃ (done : List Int) (f : Nat) (ov nv : Int), o = .int .i64 ov ∧ r = .int .i64 nv ∧ wr.ownsRow B 5 1 v' done.length (u8s done) ∧ Hid (done ++ enc f ov nv = T) ∧ nv ≤ 65536 * (f : Int) ∧ f ≤ 65536 ∧ done.length + 8 * f ≤ bs.length + 524288 ∧ Below B w wr) (fun _ _ r _ => (intOf r).toNat)
  case atStart => exact ⟨bs, 65536, off, n, rfl, rfl, HO.out, HT.out.symm, by omega, by omega, by omega, Below.refl _ _⟩
  case round =>
    obtain ⟨done, f, ov, nv, rfl, rfl, howr, HE, hf1, hf2, hdl, hgr⟩ := hrel
    by_cases hpos : 0 < nv
    · obtain ⟨a, cap, rfl⟩ := owns_shape howr
      obtain ⟨sz, hmin⟩ : ∃ sz, (if (65536 : Int) < nv then (65536 : Int) else nv) = sz := ⟨_, rfl⟩
      have HM : Hid (sz = min nv 65536) := by
        rw [← hmin]
        show _ = _
        by_cases h : (65536 : Int) < nv
        · rw [if_pos h]; omega
        · rw [if_neg h]; omega
      have hz1 : 0 < sz := by have := HM.out; omega
      have hz2 : sz ≤ 65536 := by have := HM.out; omega
      have hz3 : sz ≤ nv := by have := HM.out; omega
      have HG := hide hgr
      clear hgr HO HT
      go_wp2_with (at_builtin; refine wpList_append_own _ rfl _ _ 22 rfl B 5 i5 (.int .u8 0) 1 1 Try.underlying22 hi5 hz5 hs5 hb5 rfl (by decide) _ _ _ rfl (howr.alloc _) ⟨wr.heap.size, 0, none⟩ 1 1 [.int .u8 128] rfl rfl ?c1 ?c2 ?c3 ?c4 ?c5 ?_)
      case c1 => exact cell_one_new _ _ _
      case c2 => intro u hu; simp at hu; subst hu; rfl
      case c3 => unfold maxLen; omega
      case c4 => omega
      case c5 => have := HG.out.size; simp; omega
      intro v1 w1 hown1 hgrow1 _
      have HG1 : Hid (Below B w w1) := (HG.out.alloc (Nat.le_trans hB HG.out.size) _).grown hgrow1 (by have := HG.out.size; simp; omega) fun g hg => (howr.lt g hg).1
      have HO1 : Hid (w1.ownsRow B 5 1 v1 (done.length + 1) (u8s (done ++ [128]))) := by
        have e : u8s (done ++ [128]) = u8s done ++ [.int .u8 128] := by simp [u8s]
        rw [e]
        exact hown1
      clear hgrow1 hown1 howr HG hmin
      go_wp2
      go_loopw [0, 34] (fun v' i wi => ∃ k : Nat, k ≤ 7 ∧ i = .int .i64 k ∧ wi.ownsRow B 5 1 v' (done.length + 1 + (tl ov sz k).length) (u8s (done ++ ((opv ov sz k : Nat) : Int) :: tl ov sz k)) ∧ Below B w wi) (fun _ i _ => 7 - (intOf i).toNat)
      case atStart => exact ⟨0, by omega, rfl, HO1.out, HG1.out⟩
      case round =>
        obtain ⟨k, hk, rfl, howi, hgi⟩ := hrel
        by_cases hlt : k < 7
        · obtain ⟨g, cap, rfl, hBg, hgl⟩ := owns_some howi (by omega)
          have hix := index_fact ov sz k hlt
          have htl := tl_len ov sz k
          have hfl : sel ov sz k % 256 = fld ov sz k := rfl
          by_cases hem : em ov sz k = true
          · have hne : fld ov sz k ≠ 0 ∧ (k < 4 ∨ sz < 65536) := by
              unfold em at hem
              simpa using hem
            obtain ⟨hne, hor⟩ := hne
            have hc : (fld ov sz k != 0) = true := by simpa using hne
            have c0 : wr.cell? ⟨g, done.length, none⟩ = some (.int .u8 ((opv ov sz k : Nat) : Int)) := by
              rw [howi.cellAt done.length (by omega)]
              simp [u8s]
            have z0 := howi.frozenAt done.length
            have hof := or_fact ov sz k hlt
            have HY := hide (And.intro (opv_yes hem) (tl_yes hem))
            have HO2 := hide (owns_put howi ((opv ov sz k + 2 ^ k : Nat) : Int))
            have HGi := hide hgi
            have hgs := hgi.size
            clear howi hgi hem hne HO1 HG1
            rcases hor with h4 | h4
            · go_wp2_with fail
              go_region
              go_wp2_with (at_builtin; refine wpList_append_own _ rfl _ _ 22 rfl B 5 i5 (.int .u8 0) 1 1 Try.underlying22 hi5 hz5 hs5 hb5 rfl (by decide) _ _ _ rfl (HO2.out.alloc _).drew ⟨wr.heap.size, 0, none⟩ 1 1 [.int .u8 (fld ov sz k)] rfl rfl ?e1 ?e2 ?e3 ?e4 ?e5 ?_)
              case e1 => exact cell_new_after _ _ _ _
              case e2 => intro u hu; simp at hu; subst hu; rfl
              case e3 => unfold maxLen; omega
              case e4 => omega
              case e5 => simp; omega
              intro v2 w2 hown2 hgrow2 _
              have R := step_end hB hBg HGi.out HY.out.1 HY.out.2 hown2 hgrow2
              clear hown2 hgrow2 HO2 HY
              have HR := hide R
              clear R
              go_wp2
              go_roundw
              case rel => exact ⟨k + 1, by omega, by go_num, HR.out.1, HR.out.2⟩
              case measure => simp [intOf]; omega
            · by_cases h5 : k < 4
              · go_wp2_with fail
                go_region
                go_wp2_with (at_builtin; refine wpList_append_own _ rfl _ _ 22 rfl B 5 i5 (.int .u8 0) 1 1 Try.underlying22 hi5 hz5 hs5 hb5 rfl (by decide) _ _ _ rfl (HO2.out.alloc _).drew ⟨wr.heap.size, 0, none⟩ 1 1 [.int .u8 (fld ov sz k)] rfl rfl ?e1 ?e2 ?e3 ?e4 ?e5 ?_)
                case e1 => exact cell_new_after _ _ _ _
                case e2 => intro u hu; simp at hu; subst hu; rfl
                case e3 => unfold maxLen; omega
                case e4 => omega
                case e5 => simp; omega
                intro v2 w2 hown2 hgrow2 _
                have R := step_end hB hBg HGi.out HY.out.1 HY.out.2 hown2 hgrow2
                clear hown2 hgrow2 HO2 HY
                have HR := hide R
                clear R
                go_wp2
                go_roundw
                case rel => exact ⟨k + 1, by omega, by go_num, HR.out.1, HR.out.2⟩
                case measure => simp [intOf]; omega
              · go_wp2_with fail
                go_region
                go_wp2_with (at_builtin; refine wpList_append_own _ rfl _ _ 22 rfl B 5 i5 (.int .u8 0) 1 1 Try.underlying22 hi5 hz5 hs5 hb5 rfl (by decide) _ _ _ rfl (HO2.out.alloc _).drew ⟨wr.heap.size, 0, none⟩ 1 1 [.int .u8 (fld ov sz k)] rfl rfl ?e1 ?e2 ?e3 ?e4 ?e5 ?_)
                case e1 => exact cell_new_after _ _ _ _
                case e2 => intro u hu; simp at hu; subst hu; rfl
                case e3 => unfold maxLen; omega
                case e4 => omega
                case e5 => simp; omega
                intro v2 w2 hown2 hgrow2 _
                have R := step_end hB hBg HGi.out HY.out.1 HY.out.2 hown2 hgrow2
                clear hown2 hgrow2 HO2 HY
                have HR := hide R
                clear R
                go_wp2
                go_roundw
                case rel => exact ⟨k + 1, by omega, by go_num, HR.out.1, HR.out.2⟩
                case measure => simp [intOf]; omega
          · have hem' : em ov sz k = false := by simpa using hem
            have HY := hide (And.intro (opv_no hem') (tl_no hem'))
            have HR := hide (And.intro howi hgi)
            have hno : fld ov sz k = 0 ∨ (fld ov sz k ≠ 0 ∧ ¬ k < 4 ∧ ¬ sz < 65536) := by
              unfold em at hem'
              by_cases h0 : fld ov sz k = 0
              · exact .inl h0
              · refine .inr ⟨h0, ?_⟩
                simp [h0] at hem'
                omega
            clear howi hgi hem hem' HO1 HG1
            rcases hno with h0 | ⟨h0, h4, h5⟩
            · have hc : (fld ov sz k != 0) = false := by simpa using h0
              clear h0
              go_wp2
              go_roundw
              case rel => exact ⟨k + 1, by omega, by go_num, by rw [HY.out.1, HY.out.2]; exact HR.out.1, HR.out.2⟩
              case measure => simp [intOf]; omega
            · have hc : (fld ov sz k != 0) = true := by simpa using h0
              clear h0
              go_wp2
              go_roundw
              case rel => exact ⟨k + 1, by omega, by go_num, by rw [HY.out.1, HY.out.2]; exact HR.out.1, HR.out.2⟩
              case measure => simp [intOf]; omega
        · obtain rfl : k = 7 := by omega
          have hcl := chunk_len ov sz hz1
          have hcl2 : (chunk ov sz).length = (tl ov sz 7).length + 1 := rfl
          go_wp2
          go_roundw
          case rel =>
            refine ⟨done ++ chunk ov sz, f - 1, wrap64 (ov + sz), nv - sz, rfl, rfl, ?_, ?_, ?_, ?_, ?_, hgi⟩
            · rw [List.length_append, hcl2, show done.length + ((tl ov sz 7).length + 1) = done.length + 1 + (tl ov sz 7).length from by omega]
              exact howi
            · obtain ⟨f', rfl⟩ : ∃ f', f = f' + 1 := ⟨f - 1, by omega⟩
              show _ = _
              rw [← HE.out, enc_step f' ov nv hpos, ← HM.out, Nat.add_sub_cancel, enc_congr f' (wrap64_mod (ov + sz)), List.append_assoc]
            · have := HM.out
              omega
            · omega
            · rw [List.length_append]
              omega
          case measure => simp [intOf]; omega
    · have e : done = T := by rw [← HE.out, enc_done f ov nv hpos, List.append_nil]
      subst e
      go_wp2
      go_ret
      exact ⟨_, rfl, howr, hgr⟩
end Go.Proofs.Qxb6628310a
