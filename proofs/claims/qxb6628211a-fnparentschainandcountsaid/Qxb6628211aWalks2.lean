/- THE WALKS OF 'Parents' (5) AND 'zzBytes_..' (4). -/
import Derived.Test.Qxb6628211aRows
import Derived.Test.Qxb6628211aPlain
import Derived.WalkKit
import Derived.WalkSpells
import Derived.WalkLawsBesides
import Derived.Lib.OthersKept
namespace Go.Proofs.Qxb6628211a
open Go.RowKit
open Plain

theorem hide {p : Prop} (h : p) : Hid p := h
theorem Try.info9 : (Try.prog.info? 9).map (fun i => (i.zero, i.size, i.bytes)) = some (some (.string ByteArray.empty), 1, 16) := by kernel_rfl

/-- The k-th folders, as cells. -/
def dirs (s : ByteArray) (k : Nat) : List Value := (sl s k).map fun i => .string (s.extract 0 i)

set_option maxHeartbeats 400000 in
theorem parents_own (s : ByteArray) (w : World) (hs : s.size ≤ 4096) :
    Calls Try.prog 5 #[.string s] w fun e w' => ∃ v, e = .returned v ∧ w'.ownsRow (w.heap.size + 1) 9 1 v (sl s s.size).length (dirs s s.size) ∧ Below w.heap.size w w' := by
  obtain ⟨i0, hi, hz0, hz1, hz2⟩ := info_parts Try.info9
  go_enter Try.func5, Try.ntmps5
  go_wp2
  go_loopw [3] (fun v wr => ∃ pos : Nat, pos ≤ s.size ∧ wr.heap[w.heap.size]? = some (.stringIter s pos) ∧ wr.ownsRow (w.heap.size + 1) 9 1 v (sl s pos).length (dirs s pos) ∧ Below w.heap.size w wr) (fun _ wr => s.size - wr.iterPos w.heap.size)
  case atStart => exact ⟨0, Nat.zero_le _, World.iter_heap w s 0, World.ownsRow_nil _ _ _ _, (Below.refl _ _).alloc (Nat.le_refl _) _⟩
  case round =>
    obtain ⟨pos, hpos, hit, hown, hbw⟩ := hrel
    have hpos0 := iterPos_of hit
    by_cases hp : pos < s.size
    · obtain ⟨d1, d2, d3, d4⟩ := dec_step s pos hp
      have hlen := sl_len s pos
      have hnx : ∀ ty, (Instr.next (.pointer (some ⟨w.heap.size, 0, none⟩)) true ty).run Try.prog wr = _ := fun ty => Lib.run_next_any_at wr w.heap.size s pos ty hit hp
      generalize Utf8.decode s pos = d at *
      obtain ⟨r, wd⟩ := d
      simp only at d1 d2 d3 d4 hnx
      have hit2 := Lib.iterAt_heap wr w.heap.size s pos (pos + wd) hit
      have hbw2 := Lib.below_iterAt hbw (k := w.heap.size) (Nat.le_refl _) s (pos + wd)
      have hown2 := ownsRow_iterAt hown (k := w.heap.size) (by omega) s (pos + wd)
      have hBlt := lt_of_block hit2
      have HP := hide hpos0
      clear hit hown hbw hpos0
      generalize wr.iterAt w.heap.size s (pos + wd) = W1 at *
      rcases d3 with ⟨hb, e⟩ | ⟨hb, hne⟩
      · injection e with e1 e2
        subst e1
        subst e2
        have hsl : dirs s (pos + 1) = dirs s pos ++ [.string (s.extract 0 pos)] := by simp [dirs, sl_hit s pos hb]
        have hsn : (sl s (pos + 1)).length = (sl s pos).length + 1 := by simp [sl_hit s pos hb]
        have HS := hide hsl
        have HN := hide hsn
        clear hsl hsn d4 hb
        go_wp2_with (at_builtin; refine wpList_append_own _ rfl _ _ 23 rfl (w.heap.size + 1) 9 i0 (.string ByteArray.empty) 1 16 Try.underlying23 hi hz0 hz1 hz2 rfl (by decide) _ _ _ rfl (hown2.alloc _) ⟨W1.heap.size, 0, none⟩ 1 1 [.string (s.extract 0 pos)] rfl rfl ?c1 ?c2 ?c3 ?c4 ?c5 ?_)
        case c1 => exact cell_one_new _ _ _
        case c2 => intro u hu; simp at hu; subst hu; rfl
        case c3 => unfold maxLen; omega
        case c4 => omega
        case c5 => simp; omega
        intro v' w3 hown3 hgrow3 _
        have hit3 : w3.heap[w.heap.size]? = some (.stringIter s (pos + 1)) := by
          rw [hgrow3.block w.heap.size (by simp; omega) (fun h => by have := (hown2.lt _ h.symm).1; omega), Below.heap_alloc _ _ _ hBlt]
          exact hit2
        have hbw3 : Below w.heap.size w w3 := Below.grown (hbw2.alloc (by omega) _) hgrow3 (by simp; omega) (fun j hj => by have := (hown2.lt _ hj).1; omega)
        rw [← HS.out, ← HN.out] at hown3
        have X := hide (And.intro hown3 (And.intro hit3 hbw3))
        clear hown3 hgrow3 hit3 hbw3 hown2 hit2 hbw2 HS HN hnx
        go_wp2
        go_roundw
        case rel => exact ⟨pos + 1, by omega, X.out.2.1, X.out.1, X.out.2.2⟩
        case measure => rw [iterPos_of X.out.2.1, HP.out]; omega
      · have hsl : sl s (pos + wd) = sl s pos := sl_miss s pos wd d1 hb d4
        have hne' : ((r : Int) == 47) = false := by simp; omega
        have HS := hide hsl
        clear hsl hne d4 hb
        go_wp2
        go_roundw
        case rel => exact ⟨pos + wd, by omega, hit2, by unfold dirs; rw [HS.out]; exact hown2, hbw2⟩
        case measure => rw [iterPos_of hit2, HP.out]; omega
    · obtain rfl : pos = s.size := by omega
      have hnx : ∀ ty, (Instr.next (.pointer (some ⟨w.heap.size, 0, none⟩)) true ty).run Try.prog wr = _ := fun ty => Lib.run_next_end_at wr w.heap.size s s.size ty hit hp
      go_wp2
      go_ret
      exact ⟨_, rfl, hown, hbw⟩
/-- A slice of strings as the walk is told of it. -/
def Strs (w : World) (a : Option Addr) (len : Nat) (S : Nat → ByteArray) : Prop :=
  0 < len → ∃ b, a = some ⟨b, 0, none⟩ ∧ b < w.heap.size ∧ ∀ i, i < len → w.cell? ⟨b, i, none⟩ = some (.string (S i))
theorem strs_later {w w' : World} {a : Option Addr} {len : Nat} {S : Nat → ByteArray} (h : Strs w a len S) (hb : Below w.heap.size w w') : Strs w' a len S := by
  intro hp
  obtain ⟨b, e, hlt, hc⟩ := h hp
  exact ⟨b, e, Nat.lt_of_lt_of_le hlt hb.size, fun i hi => (hb.cell hlt).trans (hc i hi)⟩

/-- The k-th folder. -/
def dir (s : ByteArray) (i : Nat) : ByteArray := s.extract 0 ((sl s s.size).getD i 0)

theorem parents_any (s : ByteArray) (w : World) (hs : s.size ≤ 4096) :
    Calls Try.prog 5 #[.string s] w fun e w' => ∃ a cap, e = .returned (.slice a (sl s s.size).length cap) ∧ Strs w' a (sl s s.size).length (dir s) ∧ Below w.heap.size w w' := by
  refine (parents_own s w hs).mono ?_
  rintro e w' ⟨v, rfl, hown, hb⟩
  rcases hown.2 with ⟨rfl, h0⟩ | ⟨g, cap, cur, rfl, hg, hrest⟩
  · refine ⟨none, 0, by rw [h0], fun h => by omega, hb⟩
  · refine ⟨some ⟨g, 0, none⟩, cap, rfl, fun _ => ⟨g, rfl, (hown.lt g rfl).2, fun i hi => ?_⟩, hb⟩
    rw [hown.cellAt i (by omega)]
    simp [dirs, dir, hi, List.getD]

set_option maxHeartbeats 400000 in
theorem bytes_any (s : ByteArray) (w : World) (hs : s.size ≤ maxLen) :
    Calls Try.prog 4 #[.string s] w fun e w' => e = .returned (.bool (decide (s.size ≤ 1048576))) ∧ w = w' := by
  unfold maxLen at hs
  by_cases h : s.size ≤ 1048576
  · rw [decide_eq_true h]
    go_enter Try.func4, Try.ntmps4
    go_wp2
    go_ret
    exact ⟨rfl, rfl⟩
  · rw [decide_eq_false h]
    go_enter Try.func4, Try.ntmps4
    go_wp2
    go_ret
    exact ⟨rfl, rfl⟩

end Go.Proofs.Qxb6628211a
