/- THE WALKS OF THE SMALL FUNCTIONS: the clone, the comparisons, the guards (5, 6, 8, 9, 10). -/
import Derived.Test.Qxb6628310aRows
import Derived.WalkKit
import Derived.WalkSpells
import Derived.WalkLawsBesides
import Derived.Laws.CopyOwn
import Derived.Lib.SliceRun
import Derived.Deep.QuietTactic
import Derived.BigQuiet
namespace Go.Proofs.Qxb6628310a
open Go.RowKit

theorem hide {p : Prop} (h : p) : Hid p := h
theorem Try.info5 : (Try.prog.info? 5).map (fun i => (i.zero, i.size, i.bytes)) = some (some (.int .u8 0), 1, 1) := by kernel_rfl

/-- The first len of Z. -/
def firsts (len : Nat) (Z : Nat → Int) : List Int := (List.range len).map Z
def u8s (l : List Int) : List Value := l.map (Value.int .u8)

theorem q22 : ∀ (w : World) (a : Option Addr) (n c n' c' : Nat), (binOp .eql 22 (.slice a n c) (.slice none n' c')).run Try.prog w = .ok (.bool a.isNone) w := fun w a n c n' c' => Lib.run_eql_slice_nil w 22 5 a n c n' c' Try.underlying22

set_option maxHeartbeats 400000 in
theorem clone_some (x : Addr) (len cap : Nat) (Z : Nat → Int) (w : World) (hlen : len ≤ 1048576) (hZ : ∀ i, i < len → w.cell? (x.add i) = some (.int .u8 (Z i))) :
    Calls Try.prog 6 #[.slice (some x) len cap] w fun e w' => ∃ v, e = .returned v ∧ w'.ownsRow w.heap.size 5 1 v len (u8s (firsts len Z)) ∧ Below w.heap.size w w' := by
  obtain ⟨i5, hi5, hz5, hs5, hb5⟩ := info_parts Try.info5
  have hnil := q22
  go_enter Try.func6, Try.ntmps6
  go_wp2_with (at_make; refine wpList_make_full _ rfl _ _ 22 rfl w.heap.size 5 i5 _ 1 Try.underlying22 hi5 hz5 hs5 .i64 .i64 _ _ len rfl rfl rfl rfl ?b2 ?b3 ?b4 ?_)
  case b2 => rw [hb5]; omega
  case b3 => unfold maxLen; omega
  case b4 => exact Nat.le_refl _
  intro w1 hown hgrow
  have hbel : Below w.heap.size w w1 := (Below.refl _ _).grown hgrow (Nat.le_refl _) (by simp)
  have hh : ∃ cur : List Value, cur.length = len ∧ w1.heap[w.heap.size]? = some (.cells cur.toArray 5 (0, 0)) := by
    rcases hown.2 with ⟨h', _⟩ | ⟨g', cap', cur, h', _, hg, _, _, hsz, htake⟩
    · simp at h'
    · simp only [Value.slice.injEq, Option.some.injEq, Addr.mk.injEq, and_true, true_and] at h'
      obtain ⟨rfl, rfl⟩ := h'
      exact ⟨cur.toList, by simpa using hsz, by simpa using hg⟩
  obtain ⟨cur, hcl, hcur⟩ := hh
  have HC := hide hcur
  have HB := hide hbel
  have HZ := hide hZ
  clear hcur hbel hown hgrow hZ
  go_wp2_with (refine wpList_copy_splice rfl (.tmp 9) (.tmp 10) 22 22 rfl 5 Try.underlying22 (by kernel_rfl) _ _ _ _ _ _ rfl rfl w.heap.size 0 cur 5 HC.out (u8s (firsts len Z)) ?d1 ?d2 ?d3 ?d4 w.heap.size w HB.out (Nat.le_refl _) ?_)
  case d1 => simp [u8s, firsts]
  case d2 =>
    intro hp j v hj
    have hjl : j < len := by
      have := (List.getElem?_eq_some_iff.1 hj).1
      simpa [u8s, firsts] using this
    have e : (u8s (firsts len Z))[j]? = some (.int .u8 (Z j)) := by simp [u8s, firsts, hjl]
    rw [e] at hj
    exact ((HB.out.cell (World.block_lt_of_cell? _ _ (HZ.out j hjl))).trans (HZ.out j hjl)).trans hj
  case d3 => simp [u8s, firsts, hcl]
  case d4 => exact ints_oneCell _ _
  intro w2 HG hb2
  go_wp2
  go_ret
  refine ⟨_, rfl, ⟨by simp [u8s, firsts], .inr ⟨w.heap.size, len, _, rfl, Nat.le_refl _, HG.out, Nat.le_refl _, by unfold maxLen; omega, ?_, ?_⟩⟩, hb2⟩
  · simp [splice, u8s, firsts, hcl]
  · simp [splice, u8s, firsts]

set_option maxHeartbeats 400000 in
theorem clone_none (w : World) : Calls Try.prog 6 #[.slice none 0 0] w fun e w' => ∃ v, e = .returned v ∧ w'.ownsRow w.heap.size 5 1 v 0 (u8s (firsts 0 fun _ => 0)) ∧ Below w.heap.size w w' := by
  have hnil := q22
  go_enter Try.func6, Try.ntmps6
  go_wp2
  go_ret
  exact ⟨_, rfl, World.ownsRow_nil _ _ _ _, Below.refl _ _⟩

theorem clone_any (a : Option Addr) (len cap : Nat) (Z : Nat → Int) (w : World) (hlen : len ≤ 1048576) (hn : a = none → len = 0 ∧ cap = 0) (hZ : ∀ x, a = some x → ∀ i, i < len → w.cell? (x.add i) = some (.int .u8 (Z i))) :
    Calls Try.prog 6 #[.slice a len cap] w fun e w' => ∃ v, e = .returned v ∧ w'.ownsRow w.heap.size 5 1 v len (u8s (firsts len Z)) ∧ Below w.heap.size w w' := by
  cases a with
  | none =>
    obtain ⟨rfl, rfl⟩ := hn rfl
    exact clone_none w
  | some x => exact clone_some x len cap Z w hlen (hZ x rfl)

set_option maxHeartbeats 400000 in
theorem bytes5_any (a : Option Addr) (len cap : Nat) (off n : Int) (w : World) (hs : len ≤ maxLen) :
    Calls Try.prog 5 #[.slice a len cap, .int .i64 off, .int .i64 n] w fun e w' => e = .returned (.bool (decide (len ≤ 1048576))) ∧ w = w' := by
  unfold maxLen at hs
  by_cases h : len ≤ 1048576
  · rw [decide_eq_true h]
    go_enter Try.func5, Try.ntmps5
    go_wp2
    go_ret
    exact ⟨rfl, rfl⟩
  · rw [decide_eq_false h]
    go_enter Try.func5, Try.ntmps5
    go_wp2
    go_ret
    exact ⟨rfl, rfl⟩

set_option maxHeartbeats 400000 in
theorem bytes9_any (a : Option Addr) (len cap : Nat) (off n k : Int) (w : World) (hs : len ≤ maxLen) :
    Calls Try.prog 9 #[.slice a len cap, .int .i64 off, .int .i64 n, .int .i64 k] w fun e w' => e = .returned (.bool (decide (len ≤ 1048576))) ∧ w = w' := by
  unfold maxLen at hs
  by_cases h : len ≤ 1048576
  · rw [decide_eq_true h]
    go_enter Try.func9, Try.ntmps9
    go_wp2
    go_ret
    exact ⟨rfl, rfl⟩
  · rw [decide_eq_false h]
    go_enter Try.func9, Try.ntmps9
    go_wp2
    go_ret
    exact ⟨rfl, rfl⟩

/-- 'zzHasPrefix' where the bytes agree: true. -/
def HasBytes (w : World) (a : Option Addr) (len : Nat) (Z : Nat → Int) : Prop := 0 < len → ∃ b off, a = some ⟨b, off, none⟩ ∧ ∀ i, i < len → w.cell? ⟨b, off + i, none⟩ = some (.int .u8 (Z i))

set_option maxHeartbeats 400000 in
theorem prefix_true (a p : Option Addr) (la ca lp cp : Nat) (Z Y : Nat → Int) (w : World) (h1 : lp ≤ la) (h2 : la ≤ 9223372036854775807) (hY : HasBytes w p lp Y) (hZ : HasBytes w a la Z) (he : ∀ i, i < lp → Z i = Y i) :
    Calls Try.prog 8 #[.slice a la ca, .slice p lp cp] w fun e w' => e = .returned (.bool true) ∧ ∃ n, w' = w.drewN n := by
  go_enter Try.func8, Try.ntmps8
  go_wp2
  go_loopw [5] (fun i wr => ∃ k : Nat, k ≤ lp ∧ i = .int .i64 k ∧ ∃ n, wr = w.drewN n) (fun i _ => lp - (intOf i).toNat)
  case atStart => exact ⟨0, Nat.zero_le _, rfl, 0, rfl⟩
  case round =>
    obtain ⟨k, hk, rfl, n, rfl⟩ := hrel
    by_cases hlt : k < lp
    · obtain ⟨ab, ao, rfl, hca⟩ := hZ (by omega)
      obtain ⟨pb, po, rfl, hcp⟩ := hY (by omega)
      have c0 := hca k (by omega)
      have c1 := hcp k hlt
      rw [he k hlt] at c0
      clear hca hcp
      go_wp2_with fail
      go_quiet (fail)
      go_wp2
      go_roundw
      case rel => exact ⟨k + 1, by omega, by go_num, _, rfl⟩
      case measure => simp [intOf]; omega
    · go_wp2
      go_ret
      exact ⟨rfl, n, rfl⟩

set_option maxHeartbeats 400000 in
theorem same_true (a p : Option Addr) (l ca cp : Nat) (Z : Nat → Int) (w : World) (h2 : l ≤ 9223372036854775807) (hY : HasBytes w p l Z) (hZ : HasBytes w a l Z) :
    Calls Try.prog 10 #[.slice a l ca, .slice p l cp] w fun e w' => e = .returned (.bool true) ∧ ∃ n, w' = w.drewN n := by
  go_enter Try.func10, Try.ntmps10
  go_wp2
  go_loopw [5] (fun i wr => ∃ k : Nat, k ≤ l ∧ i = .int .i64 k ∧ ∃ n, wr = w.drewN n) (fun i _ => l - (intOf i).toNat)
  case atStart => exact ⟨0, Nat.zero_le _, rfl, 0, rfl⟩
  case round =>
    obtain ⟨k, hk, rfl, n, rfl⟩ := hrel
    by_cases hlt : k < l
    · obtain ⟨ab, ao, rfl, hca⟩ := hZ (by omega)
      obtain ⟨pb, po, rfl, hcp⟩ := hY (by omega)
      have c0 := hca k (by omega)
      have c1 := hcp k hlt
      clear hca hcp
      go_wp2_with fail
      go_quiet (fail)
      go_wp2
      go_roundw
      case rel => exact ⟨k + 1, by omega, by go_num, _, rfl⟩
      case measure => simp [intOf]; omega
    · go_wp2
      go_ret
      exact ⟨rfl, n, rfl⟩

end Go.Proofs.Qxb6628310a
