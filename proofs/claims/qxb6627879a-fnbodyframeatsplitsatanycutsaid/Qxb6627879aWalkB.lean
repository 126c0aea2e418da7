/- THE WALKS OF 'zzMessageOfRuns' (7) AND 'BodyFrameAt' (8). -/
import Derived.Test.Qxb6627879aRows
import Derived.Test.Qxb6627879aPlain
import Derived.WalkKit
import Derived.WalkSpells
namespace Go.Proofs.Qxb6627879a
open Go.RowKit
open Plain

theorem Try.info36 : (Try.prog.info? 36).map (fun i => (i.zero, i.size, i.bytes)) = some (some (.agg #[.string ByteArray.empty, .string ByteArray.empty]), 2, 32) := by kernel_rfl
theorem Try.info38 : (Try.prog.info? 38).map (fun i => (i.zero, i.size, i.bytes)) = some (some (.agg #[.int .i64 0, .int .i64 0]), 2, 16) := by kernel_rfl

theorem hide {p : Prop} (h : p) : Hid p := h
/-- A slice of strings as the walk is told of it. -/
def Strs (w : World) (a : Option Addr) (len : Nat) (S : Nat → ByteArray) : Prop :=
  0 < len → ∃ b off, a = some ⟨b, off, none⟩ ∧ b < w.heap.size ∧ ∀ i, i < len → w.cell? ⟨b, off + i, none⟩ = some (.string (S i))
/-- A slice of ints as the walk is told of it. -/
def Ints (w : World) (a : Option Addr) (len : Nat) (Z : Nat → Int) : Prop :=
  0 < len → ∃ b off, a = some ⟨b, off, none⟩ ∧ b < w.heap.size ∧ ∀ i, i < len → w.cell? ⟨b, off + i, none⟩ = some (.int .i64 (Z i))

/-- The cells of the result's own block, in whatever later world. -/
theorem res_cells {w wr : World} (h : Below (w.heap.size + 1) (w.alloc (.cells #[.int .i64 0, .slice none 0 0, .int .i64 0, .slice none 0 0, .slice none 0 0] 30)) wr) :
    (wr.cell? ⟨w.heap.size, 0, none⟩ = some (.int .i64 0) ∧ wr.cell? ⟨w.heap.size, 1, none⟩ = some (.slice none 0 0) ∧ wr.cell? ⟨w.heap.size, 2, none⟩ = some (.int .i64 0) ∧ wr.cell? ⟨w.heap.size, 3, none⟩ = some (.slice none 0 0) ∧ wr.cell? ⟨w.heap.size, 4, none⟩ = some (.slice none 0 0)) ∧
    ∀ j, wr.frozen? ⟨w.heap.size, j, none⟩ = false := by
  refine ⟨⟨?_, ?_, ?_, ?_, ?_⟩, ?_⟩
  · exact (h.cell (by simp)).trans (by simp [go_sem])
  · exact (h.cell (by simp)).trans (by simp [go_sem])
  · exact (h.cell (by simp)).trans (by simp [go_sem])
  · exact (h.cell (by simp)).trans (by simp [go_sem])
  · exact (h.cell (by simp)).trans (by simp [go_sem])
  · intro j
    exact (h.frozen (by simp)).trans (by simp [go_sem])

theorem cell_other {w : World} {g b j i : Nat} {v : Value} (h : b ≠ g) : (w.setCell ⟨b, j, none⟩ v).cell? ⟨g, i, none⟩ = w.cell? ⟨g, i, none⟩ :=
  World.cell?_setCell_other _ _ _ _ (by intro e; injection e with e1; exact h e1)

theorem below_of_alloc {w wr : World} {o : Obj} (h : Below (w.heap.size + 1) (w.alloc o) wr) : Below w.heap.size w wr :=
  ((Below.refl _ _).alloc (Nat.le_refl _) o).trans (h.mono (by omega))

/-- One round of the first loop: two cells of the made row are stored. -/
theorem owns_two {w : World} {base e g n : Nat} {xs : List Value} (h : w.ownsRow base e 2 (.slice (some ⟨g, 0, none⟩) n n) n xs) (k : Nat) (u v : Value) :
    ((w.setCell ⟨g, k * 2, none⟩ u).setCell ⟨g, k * 2 + 1, none⟩ v).drew.ownsRow base e 2 (.slice (some ⟨g, 0, none⟩) n n) n ((xs.set (k * 2) u).set (k * 2 + 1) v) :=
  ((h.stored (k * 2) u).1.stored (k * 2 + 1) v).1.drew

theorem two_get {xs : List Value} {F E : Nat → Int} {lo k : Nat} {m : Nat} (hl : xs.length = m * 2) (hlo : lo ≤ k) (hkm : k - lo < m)
    (h : ∀ j, j < k - lo → xs[j * 2]? = some (.int .i64 (F (lo + j))) ∧ xs[j * 2 + 1]? = some (.int .i64 (E (lo + j)))) :
    ∀ j, j < k + 1 - lo → ((xs.set ((k - lo) * 2) (.int .i64 (F k))).set ((k - lo) * 2 + 1) (.int .i64 (E k)))[j * 2]? = some (.int .i64 (F (lo + j))) ∧
      ((xs.set ((k - lo) * 2) (.int .i64 (F k))).set ((k - lo) * 2 + 1) (.int .i64 (E k)))[j * 2 + 1]? = some (.int .i64 (E (lo + j))) := by
  intro j hj
  by_cases e : j = k - lo
  · subst e
    rw [show lo + (k - lo) = k from by omega]
    constructor
    · rw [List.getElem?_set_ne (by omega), List.getElem?_set_self (by omega)]
    · rw [List.getElem?_set_self (by simp; omega)]
  · obtain ⟨a, b⟩ := h j (by omega)
    constructor
    · rw [List.getElem?_set_ne (by omega), List.getElem?_set_ne (by omega)]; exact a
    · rw [List.getElem?_set_ne (by omega), List.getElem?_set_ne (by omega)]; exact b

set_option maxHeartbeats 400000 in
theorem messageOfRuns_any (fr un : Int) (na va ba fa ea : Option Addr) (ln lb lf nc vc bc fc ec lo hi : Nat) (N V : Nat → ByteArray) (F E : Nat → Int) (w : World)
    (hln : ln ≤ 65536) (hlf : lf ≤ 65536) (hN : Strs w na ln N) (hV : Strs w va ln V) (hF : Ints w fa lf F) (hE : Ints w ea lf E) (hlo : lo ≤ hi) (hhi : hi ≤ lf) :
    Calls Try.prog 7 #[.int .i64 fr, .slice na ln nc, .slice va ln vc, .int .i64 un, .slice ba lb bc, .slice fa lf fc, .slice ea lf ec, .int .i64 lo, .int .i64 hi] w fun e w' =>
      ∃ g0 g, e = .returned (.agg #[.int .i64 fr, .slice (some ⟨g0, 0, none⟩) ln ln, .int .i64 un, .slice ba lb bc, .slice (some ⟨g, 0, none⟩) (hi - lo) (hi - lo)]) ∧ w.heap.size ≤ g ∧ g < w'.heap.size ∧
        (∀ i, i < hi - lo → w'.cell? ⟨g, i * 2, none⟩ = some (.int .i64 (F (lo + i))) ∧ w'.cell? ⟨g, i * 2 + 1, none⟩ = some (.int .i64 (E (lo + i)))) ∧ Below w.heap.size w w' := by
  obtain ⟨i36, hi36, hz36, hs36, hb36⟩ := info_parts Try.info36
  obtain ⟨i38, hi38, hz38, hs38, hb38⟩ := info_parts Try.info38
  go_enter Try.func7, Try.ntmps7
  go_wp2_with (at_make; refine wpList_make_full _ rfl _ _ 27 rfl (w.heap.size + 1) 36 i36 _ 2 Try.underlying27 hi36 hz36 hs36 .i64 .i64 _ _ ln rfl rfl rfl rfl ?b2 ?b3 ?b4 ?_)
  case b2 => rw [hb36]; omega
  case b3 => unfold maxLen; omega
  case b4 => simp
  intro w1 hown hgrow
  have hbel1 : Below (w.heap.size + 1) (w.alloc (.cells #[.int .i64 0, .slice none 0 0, .int .i64 0, .slice none 0 0, .slice none 0 0] 30)) w1 := (Below.refl _ _).grown hgrow (by simp) (by simp)
  clear hgrow
  go_wp2_with fail
  go_loopw [20] (fun i wr => ∃ k : Nat, ∃ xs, k ≤ ln ∧ i = .int .i64 k ∧ wr.ownsRow (w.heap.size + 1) 36 2 (.slice (some ⟨w.heap.size + 1, 0, none⟩) ln ln) ln xs ∧ Below (w.heap.size + 1) (w.alloc (.cells #[.int .i64 0, .slice none 0 0, .int .i64 0, .slice none 0 0, .slice none 0 0] 30)) wr) (fun i _ => ln - (intOf i).toNat)
  case atStart => exact ⟨0, _, Nat.zero_le _, rfl, by simpa using hown, hbel1⟩
  case round =>
    obtain ⟨k, xs, hk, rfl, howr, hbel⟩ := hrel
    by_cases hlt : k < ln
    · obtain ⟨nb, no, rfl, hnb, hNc⟩ := hN (by omega)
      obtain ⟨vb, vo, rfl, hvb, hVc⟩ := hV (by omega)
      have c0 : wr.cell? ⟨nb, no + k, none⟩ = some (.string (N k)) := (hbel.cell (by simp; omega)).trans (by simp [World.cell?_alloc_lt, hnb, hNc k hlt])
      have c1 : wr.cell? ⟨vb, vo + k, none⟩ = some (.string (V k)) := (hbel.cell (by simp; omega)).trans (by simp [World.cell?_alloc_lt, hvb, hVc k hlt])
      have hxl := howr.1
      have f0 : wr.cell? ⟨w.heap.size + 1, k * 2, none⟩ = some (xs[k * 2]'(by omega)) := by rw [howr.cellAt (k * 2) (by omega)]; simp
      have f1 : wr.cell? ⟨w.heap.size + 1, k * 2 + 1, none⟩ = some (xs[k * 2 + 1]'(by omega)) := by rw [howr.cellAt (k * 2 + 1) (by omega)]; simp
      have z0 := howr.frozenAt (k * 2)
      have z1 := howr.frozenAt (k * 2 + 1)
      have H0 := hide howr
      have H1 := hide hbel
      clear howr hbel hown hbel1
      go_wp2_with fail
      go_region
      all_goals (go_wp2; go_roundw)
      case rel => exact ⟨k + 1, _, by omega, by go_num, owns_two H0.out k _ _, ((H1.out.setCell (by simp) _).setCell (by simp) _).drew⟩
      case measure => simp [intOf]; omega
    · clear hown hbel1
      go_wp2_with (at_make; refine wpList_make_full _ rfl _ _ 28 rfl (w.heap.size + 1) 38 i38 _ 2 Try.underlying28 hi38 hz38 hs38 .i64 .i64 _ _ (hi - lo) rfl rfl (by omega) (by omega) ?b2' ?b3' ?b4' ?_)
      case b2' => rw [hb38]; omega
      case b3' => unfold maxLen; omega
      case b4' => have := hbel.size; simpa using this
      intro w2 hown2 hgrow2
      have hbel2 : Below (w.heap.size + 1) (w.alloc (.cells #[.int .i64 0, .slice none 0 0, .int .i64 0, .slice none 0 0, .slice none 0 0] 30)) w2 := hbel.grown hgrow2 (by have := hbel.size; simpa using this) (by simp)
      have hgs := hbel.size
      have hgs2 := hgrow2.size
      simp only [World.size_alloc] at hgs
      clear hgrow2 hbel howr
      generalize hg : wr.heap.size = g at *
      clear hg
      go_wp2_with fail
      go_loopw [22] (fun i wr => ∃ k : Nat, ∃ xs, lo ≤ k ∧ k ≤ hi ∧ i = .int .i64 k ∧ wr.ownsRow (w.heap.size + 1) 38 2 (.slice (some ⟨g, 0, none⟩) (hi - lo) (hi - lo)) (hi - lo) xs ∧ Below (w.heap.size + 1) (w.alloc (.cells #[.int .i64 0, .slice none 0 0, .int .i64 0, .slice none 0 0, .slice none 0 0] 30)) wr ∧
          ∀ j, j < k - lo → xs[j * 2]? = some (.int .i64 (F (lo + j))) ∧ xs[j * 2 + 1]? = some (.int .i64 (E (lo + j)))) (fun i _ => hi - (intOf i).toNat)
      case atStart => exact ⟨lo, _, Nat.le_refl _, hlo, rfl, by simpa using hown2, hbel2, fun j hj => by omega⟩
      case round =>
        obtain ⟨k, xs, hk0, hk, rfl, howr, hbel, hxs⟩ := hrel
        clear hown2 hbel2
        by_cases hlt : k < hi
        · obtain ⟨fb, fo, rfl, hfb, hFc⟩ := hF (by omega)
          obtain ⟨eb, eo, rfl, heb, hEc⟩ := hE (by omega)
          have c0 : wr.cell? ⟨fb, fo + k, none⟩ = some (.int .i64 (F k)) := (hbel.cell (by simp; omega)).trans (by simp [World.cell?_alloc_lt, hfb, hFc k (by omega)])
          have c1 : wr.cell? ⟨eb, eo + k, none⟩ = some (.int .i64 (E k)) := (hbel.cell (by simp; omega)).trans (by simp [World.cell?_alloc_lt, heb, hEc k (by omega)])
          have hxl := howr.1
          have f0 : wr.cell? ⟨g, (k - lo) * 2, none⟩ = some (xs[(k - lo) * 2]'(by omega)) := by rw [howr.cellAt ((k - lo) * 2) (by omega)]; simp
          have f1 : wr.cell? ⟨g, (k - lo) * 2 + 1, none⟩ = some (xs[(k - lo) * 2 + 1]'(by omega)) := by rw [howr.cellAt ((k - lo) * 2 + 1) (by omega)]; simp
          have z0 := howr.frozenAt ((k - lo) * 2)
          have z1 := howr.frozenAt ((k - lo) * 2 + 1)
          have hti : ((k : Int) - (lo : Int)).toNat = k - lo := by omega
          have H0 := hide howr
          have H1 := hide hbel
          have H2 := hide hxs
          clear howr hbel hxs
          go_wp2_with fail
          go_region
          all_goals (go_wp2; go_roundw)
          case rel => exact ⟨k + 1, _, by omega, by omega, by go_num, owns_two H0.out (k - lo) _ _, ((H1.out.setCell (by simp; omega) _).setCell (by simp; omega) _).drew, two_get H0.out.1 hk0 (by omega) H2.out⟩
          case measure => simp [intOf]; omega
        · obtain ⟨⟨r0, r1, r2, r3, r4⟩, rf⟩ := res_cells hbel
          have H0 := hide howr
          have H1 := hide hbel
          have H2 := hide hxs
          clear howr hbel hxs
          go_wp2
          refine bodyPost_ret (v := .agg #[.int .i64 fr, .slice (some ⟨w.heap.size + 1, 0, none⟩) ln ln, .int .i64 un, .slice ba lb bc, .slice (some ⟨g, 0, none⟩) (hi - lo) (hi - lo)]) (by simp [results, Try.results7, go_sem, r0, r1, r2, r3, r4]) rfl ⟨_, g, rfl, ?_, ?_, ?_, ?_⟩
          · omega
          · have := (H0.out.lt g rfl).2
            simpa using this
          · intro i hi'
            have hj := H2.out i (by omega)
            have hne : w.heap.size ≠ g := by omega
            simp only [cell_other hne]
            exact ⟨(H0.out.cellAt (i * 2) (by omega)).trans hj.1, (H0.out.cellAt (i * 2 + 1) (by omega)).trans hj.2⟩
          · exact (((((below_of_alloc H1.out).setCell (Nat.le_refl _) _).setCell (Nat.le_refl _) _).setCell (Nat.le_refl _) _).setCell (Nat.le_refl _) _).setCell (Nat.le_refl _) _

set_option maxHeartbeats 400000 in
theorem bodyFrameAt_any (fr un off : Int) (fa ba : Option Addr) (fl fc bl bc g n : Nat) (F E : Nat → Int) (w : World)
    (hg : g < w.heap.size) (hn : n ≤ 65536)
    (hF : ∀ i, i < n → w.cell? ⟨g, i * 2, none⟩ = some (.int .i64 (F i))) (hE : ∀ i, i < n → w.cell? ⟨g, i * 2 + 1, none⟩ = some (.int .i64 (E i))) :
    Calls Try.prog 8 #[.agg #[.int .i64 fr, .slice fa fl fc, .int .i64 un, .slice ba bl bc, .slice (some ⟨g, 0, none⟩) n n], .int .i64 off] w fun e w' =>
      e = .returned (.tuple #[.int .i64 (bfa F E off 0 n).1, .bool (bfa F E off 0 n).2]) ∧ Below w.heap.size w w' := by
  by_cases hoff : off < 0
  · have hb : bfa F E off 0 n = (0, false) := by simp [bfa, hoff]
    rw [hb]
    go_enter Try.func8, Try.ntmps8
    go_wp2
    go_ret2
    exact ⟨rfl, (Below.refl _ _).alloc (Nat.le_refl _) _⟩
  · have hb : bfa F E off 0 n = bf F E off 0 n := by simp [bfa, hoff]
    rw [hb]
    clear hb
    go_enter Try.func8, Try.ntmps8
    go_wp2
    go_loopw [13] (fun i wr => ∃ k : Nat, k ≤ n ∧ i = .int .i64 k ∧ Hid (bf F E off 0 n = bf F E off k (n - k)) ∧ Below w.heap.size w wr) (fun i _ => n - (intOf i).toNat)
    case atStart => exact ⟨0, Nat.zero_le _, rfl, rfl, (Below.refl _ _).alloc (Nat.le_refl _) _⟩
    case round =>
      obtain ⟨k, hk, rfl, HB, hbel⟩ := hrel
      by_cases hlt : k < n
      · have c0 := (hbel.cell (p := ⟨g, k * 2, none⟩) hg).trans (hF k hlt)
        have c1 := (hbel.cell (p := ⟨g, k * 2 + 1, none⟩) hg).trans (hE k hlt)
        by_cases hit : off < E k
        · go_wp2
          go_ret2
          have e : bf F E off 0 n = (F k, true) := by rw [HB.out]; exact bf_hit (by omega) hit
          rw [e]
          exact ⟨rfl, (hbel.alloc hbel.size _)⟩
        · go_wp2
          go_roundw
          case rel => exact ⟨k + 1, by omega, by go_num, by rw [HB.out, bf_miss (by omega) hit]; rfl, (hbel.alloc hbel.size _)⟩
          case measure => simp [intOf]; omega
      · go_wp2
        go_ret2
        have e : bf F E off 0 n = (0, false) := by rw [HB.out, show n - k = 0 from by omega]; rfl
        rw [e]
        exact ⟨rfl, hbel⟩

end Go.Proofs.Qxb6627879a
