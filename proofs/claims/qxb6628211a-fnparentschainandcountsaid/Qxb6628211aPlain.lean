/- THE PLAIN PART: where a string's slashes lie; a range over the string meets each of them; the parents of a parent. No Go function in sight (the model's own decoder of UTF-8 alone). -/
import GoSem.Core.Utf8
namespace Go.Proofs.Qxb6628211a.Plain
open Go

def byt (s : ByteArray) (i : Nat) : Nat := (s.get! i).toNat

/-- The places of the slashes among the first k bytes. -/
def sl (s : ByteArray) : Nat → List Nat
  | 0 => []
  | k + 1 => if byt s k = 47 then sl s k ++ [k] else sl s k

theorem sl_len (s : ByteArray) : ∀ k, (sl s k).length ≤ k
  | 0 => Nat.le_refl _
  | k + 1 => by
    have := sl_len s k
    unfold sl
    by_cases h : byt s k = 47
    · rw [if_pos h, List.length_append]; simp; omega
    · rw [if_neg h]; omega

theorem sl_lt (s : ByteArray) : ∀ k x, x ∈ sl s k → x < k
  | 0, x, h => by simp [sl] at h
  | k + 1, x, h => by
    have ih := sl_lt s k x
    unfold sl at h
    by_cases hb : byt s k = 47
    · rw [if_pos hb] at h
      rcases List.mem_append.1 h with h | h
      · have := ih h; omega
      · simp at h; omega
    · rw [if_neg hb] at h
      have := ih h; omega

/-- No slash between: nothing is added. -/
theorem sl_skip (s : ByteArray) (a : Nat) : ∀ m, (∀ j, a ≤ j → j < a + m → byt s j ≠ 47) → sl s (a + m) = sl s a
  | 0, _ => rfl
  | m + 1, h => by
    have e : sl s (a + m + 1) = sl s (a + m) := by rw [sl, if_neg (h (a + m) (by omega) (by omega))]
    exact e.trans (sl_skip s a m fun j h1 h2 => h j h1 (by omega))

/-- Of two strings that agree below k. -/
theorem sl_congr (s t : ByteArray) : ∀ k, (∀ j, j < k → byt s j = byt t j) → sl s k = sl t k
  | 0, _ => rfl
  | k + 1, h => by
    unfold sl
    rw [sl_congr s t k fun j hj => h j (by omega), h k (by omega)]

theorem sl_take (s : ByteArray) : ∀ m k, k < (sl s m).length → sl s ((sl s m).getD k 0) = (sl s m).take k
  | 0, k, h => by simp [sl] at h
  | m + 1, k, h => by
    by_cases hb : byt s m = 47
    · have e : sl s (m + 1) = sl s m ++ [m] := by rw [sl, if_pos hb]
      rw [e] at h ⊢
      by_cases hk : k < (sl s m).length
      · have ih := sl_take s m k hk
        rw [List.take_append_of_le_length (by omega), ← ih]
        simp [List.getD, List.getElem?_append_left hk]
      · have : k = (sl s m).length := by simp at h; omega
        subst this
        simp [List.getD]
    · have e : sl s (m + 1) = sl s m := by rw [sl, if_neg hb]
      rw [e] at h ⊢
      exact sl_take s m k h

/-- ONE STEP OF A RANGE OVER A STRING. -/
theorem dec_step (s : ByteArray) (pos : Nat) (h : pos < s.size) :
    1 ≤ (Utf8.decode s pos).2 ∧ pos + (Utf8.decode s pos).2 ≤ s.size ∧
    ((byt s pos = 47 ∧ Utf8.decode s pos = (47, 1)) ∨ (byt s pos ≠ 47 ∧ (Utf8.decode s pos).1 ≠ 47)) ∧
    ∀ j, pos + 1 ≤ j → j < pos + (Utf8.decode s pos).2 → byt s j ≠ 47 := by
  have hb : ∀ i, (s.get! i).toNat = byt s i := fun _ => rfl
  unfold Utf8.decode
  simp only [hb, Nat.add_zero, Utf8.runeError]
  by_cases c1 : byt s pos < 0x80
  · rw [if_pos c1]
    refine ⟨Nat.le_refl _, by omega, ?_, fun j h1 h2 => by simp at h2; omega⟩
    by_cases e : byt s pos = 47
    · exact .inl ⟨e, by rw [e]⟩
    · exact .inr ⟨e, e⟩
  · rw [if_neg c1]
    have ne : byt s pos ≠ 47 := by omega
    split
    · rename_i c2
      simp only [Bool.and_eq_true, beq_iff_eq, decide_eq_true_eq] at c2
      split
      · rename_i c3
        refine ⟨by simp, by simp; omega, .inr ⟨ne, by simp; omega⟩, fun j h1 h2 => ?_⟩
        simp at h2
        have : j = pos + 1 := by omega
        subst this
        omega
      · exact ⟨by simp, by simp; omega, .inr ⟨ne, by simp⟩, fun j h1 h2 => by simp at h2; omega⟩
    · split
      · rename_i c2
        simp only [Bool.and_eq_true, beq_iff_eq, decide_eq_true_eq] at c2
        split
        · rename_i c3
          simp only [Bool.and_eq_true, decide_eq_true_eq] at c3
          refine ⟨by simp, by simp; omega, .inr ⟨ne, by simp; omega⟩, fun j h1 h2 => ?_⟩
          simp at h2
          have : j = pos + 1 ∨ j = pos + 2 := by omega
          rcases this with rfl | rfl <;> omega
        · exact ⟨by simp, by simp; omega, .inr ⟨ne, by simp⟩, fun j h1 h2 => by simp at h2; omega⟩
      · split
        · rename_i c2
          simp only [Bool.and_eq_true, beq_iff_eq, decide_eq_true_eq] at c2
          split
          · rename_i c3
            simp only [Bool.and_eq_true, decide_eq_true_eq] at c3
            refine ⟨by simp, by simp; omega, .inr ⟨ne, by simp; omega⟩, fun j h1 h2 => ?_⟩
            simp at h2
            have : j = pos + 1 ∨ j = pos + 2 ∨ j = pos + 3 := by omega
            rcases this with rfl | rfl | rfl <;> omega
          · exact ⟨by simp, by simp; omega, .inr ⟨ne, by simp⟩, fun j h1 h2 => by simp at h2; omega⟩
        · exact ⟨by simp, by simp; omega, .inr ⟨ne, by simp⟩, fun j h1 h2 => by simp at h2; omega⟩

theorem sl_hit (s : ByteArray) (pos : Nat) (h : byt s pos = 47) : sl s (pos + 1) = sl s pos ++ [pos] := by rw [sl, if_pos h]

theorem sl_miss (s : ByteArray) (pos wd : Nat) (hw : 1 ≤ wd) (h : byt s pos ≠ 47) (hs : ∀ j, pos + 1 ≤ j → j < pos + wd → byt s j ≠ 47) : sl s (pos + wd) = sl s pos := by
  obtain ⟨m, rfl⟩ : ∃ m, wd = 1 + m := ⟨wd - 1, by omega⟩
  rw [← Nat.add_assoc, sl_skip s (pos + 1) m fun j h1 h2 => hs j h1 (by omega), sl, if_neg h]

theorem byt_eq (s : ByteArray) (i : Nat) (h : i < s.size) : byt s i = (s[i]'h).toNat := by
  have e : s.get! i = s[i]'h := by
    simp [ByteArray.get!, getElem!_pos, h]
    rfl
  rw [byt, e]

theorem byt_cut (p : ByteArray) (x j : Nat) (hj : j < x) (hx : x ≤ p.size) : byt (p.extract 0 x) j = byt p j := by
  have h1 : j < (p.extract 0 x).size := by rw [ByteArray.size_extract]; omega
  rw [byt_eq _ j h1, byt_eq p j (by omega), ByteArray.getElem_extract h1]
  simp

theorem cut_cut (p : ByteArray) (x y : Nat) (h : y ≤ x) : (p.extract 0 x).extract 0 y = p.extract 0 y := by
  rw [ByteArray.extract_extract, Nat.zero_add, Nat.zero_add, Nat.min_eq_left h]

/-- THE PARENTS OF THE k-th PARENT ARE THE FIRST k PARENTS. -/
theorem chain (p : ByteArray) (k : Nat) (hk : k < (sl p p.size).length) :
    (p.extract 0 ((sl p p.size).getD k 0)).size ≤ p.size ∧
    (sl (p.extract 0 ((sl p p.size).getD k 0)) (p.extract 0 ((sl p p.size).getD k 0)).size).length = k ∧
    ∀ j, j < k → (p.extract 0 ((sl p p.size).getD k 0)).extract 0 ((sl (p.extract 0 ((sl p p.size).getD k 0)) (p.extract 0 ((sl p p.size).getD k 0)).size).getD j 0) = p.extract 0 ((sl p p.size).getD j 0) := by
  have hmem : (sl p p.size).getD k 0 ∈ sl p p.size := by simp [List.getD, hk]
  have hx := sl_lt p p.size _ hmem
  have ht := sl_take p p.size k hk
  generalize hX : (sl p p.size).getD k 0 = x at *
  have hsz : (p.extract 0 x).size = x := by rw [ByteArray.size_extract]; omega
  have hsl : sl (p.extract 0 x) (p.extract 0 x).size = (sl p p.size).take k := by
    rw [hsz, ← ht]
    exact sl_congr _ _ x fun j hj => byt_cut p x j hj (by omega)
  refine ⟨by omega, by rw [hsl, List.length_take]; omega, fun j hj => ?_⟩
  have hj2 : ((sl p p.size).take k).getD j 0 = (sl p p.size).getD j 0 := by simp [List.getD, hj]
  rw [hsl, hj2]
  refine cut_cut p x _ ?_
  have hm2 : (sl p p.size).getD j 0 ∈ sl p x := by
    rw [ht, ← hj2]
    have : j < ((sl p p.size).take k).length := by rw [List.length_take]; omega
    rw [List.getD, List.getElem?_eq_getElem this]
    exact List.getElem_mem this
  exact Nat.le_of_lt (sl_lt p x _ hm2)

end Go.Proofs.Qxb6628211a.Plain
