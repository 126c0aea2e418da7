/- THE PLAIN PART: what 'BodyFrameAt' computes, and the two laws over it. No Go in sight. -/
namespace Go.Proofs.Qxb6627879a.Plain

/-- The first of the runs lo, lo+1, .. (m of them) whose end exceeds off: its frame and true; else (0, false). -/
def bf (F E : Nat → Int) (off : Int) : Nat → Nat → Int × Bool
  | _, 0 => (0, false)
  | lo, m + 1 => if off < E lo then (F lo, true) else bf F E off (lo + 1) m

def bfa (F E : Nat → Int) (off : Int) (lo m : Nat) : Int × Bool := if off < 0 then (0, false) else bf F E off lo m

theorem bf_hit {F E : Nat → Int} {off : Int} {lo m : Nat} (hm : 0 < m) (h : off < E lo) : bf F E off lo m = (F lo, true) := by
  obtain ⟨m', rfl⟩ : ∃ m', m = m' + 1 := ⟨m - 1, by omega⟩
  simp [bf, h]

theorem bf_miss {F E : Nat → Int} {off : Int} {lo m : Nat} (hm : 0 < m) (h : ¬ off < E lo) : bf F E off lo m = bf F E off (lo + 1) (m - 1) := by
  obtain ⟨m', rfl⟩ : ∃ m', m = m' + 1 := ⟨m - 1, by omega⟩
  simp [bf, h]

theorem bf_shift (F E : Nat → Int) (off : Int) (d : Nat) : ∀ (m lo : Nat), bf (fun i => F (d + i)) (fun i => E (d + i)) off lo m = bf F E off (d + lo) m
  | 0, _ => rfl
  | m + 1, lo => by
    simp only [bf]
    rw [bf_shift F E off d m (lo + 1)]
    rfl

theorem bf_split (F E : Nat → Int) (off : Int) (b : Nat) : ∀ (a lo : Nat), bf F E off lo (a + b) = if (bf F E off lo a).2 = true then bf F E off lo a else bf F E off (lo + a) b
  | 0, lo => by simp [bf]
  | a + 1, lo => by
    rw [show a + 1 + b = (a + b) + 1 from by omega]
    simp only [bf]
    by_cases h : off < E lo
    · simp [h]
    · simp only [h, if_false]
      rw [bf_split F E off b a (lo + 1), show lo + (a + 1) = lo + 1 + a from by omega]

theorem bf_none {F E : Nat → Int} {off : Int} : ∀ {m lo : Nat}, (bf F E off lo m).2 = false → (bf F E off lo m).1 = 0
  | 0, _, _ => rfl
  | m + 1, lo, h => by
    simp only [bf] at h ⊢
    by_cases h' : off < E lo
    · simp [h'] at h
    · simp only [h', if_false] at h ⊢
      exact bf_none h

/-- The greatest of the ends 0 .. k. -/
def mx (E : Nat → Int) : Nat → Int
  | 0 => E 0
  | k + 1 => if mx E k < E (k + 1) then E (k + 1) else mx E k

theorem lt_mx (E : Nat → Int) (off : Int) : ∀ k, off < mx E k ↔ ∃ j, j ≤ k ∧ off < E j
  | 0 => by
    constructor
    · intro h
      exact ⟨0, Nat.le_refl _, h⟩
    · rintro ⟨j, hj, h⟩
      obtain rfl : j = 0 := by omega
      exact h
  | k + 1 => by
    have ih := lt_mx E off k
    simp only [mx]
    constructor
    · intro h
      by_cases hc : mx E k < E (k + 1)
      · rw [if_pos hc] at h
        exact ⟨k + 1, Nat.le_refl _, h⟩
      · rw [if_neg hc] at h
        obtain ⟨j, hj, h'⟩ := ih.1 h
        exact ⟨j, by omega, h'⟩
    · rintro ⟨j, hj, h⟩
      by_cases e : j = k + 1
      · subst e
        by_cases hc : mx E k < E (k + 1)
        · rw [if_pos hc]; exact h
        · rw [if_neg hc]; omega
      · have := ih.2 ⟨j, by omega, h⟩
        by_cases hc : mx E k < E (k + 1)
        · rw [if_pos hc]; omega
        · rw [if_neg hc]; exact this

theorem bf_true (F E : Nat → Int) (off : Int) : ∀ m lo, (bf F E off lo m).2 = true ↔ ∃ j, lo ≤ j ∧ j < lo + m ∧ off < E j
  | 0, lo => by simp [bf]; omega
  | m + 1, lo => by
    have ih := bf_true F E off m (lo + 1)
    simp only [bf]
    by_cases h : off < E lo
    · rw [if_pos h]
      exact ⟨fun _ => ⟨lo, Nat.le_refl _, by omega, h⟩, fun _ => rfl⟩
    · rw [if_neg h, ih]
      constructor
      · rintro ⟨j, h1, h2, h3⟩
        exact ⟨j, by omega, by omega, h3⟩
      · rintro ⟨j, h1, h2, h3⟩
        by_cases e : j = lo
        · subst e; exact absurd h3 h
        · exact ⟨j, by omega, by omega, h3⟩

theorem bf_ok (F E : Nat → Int) (off : Int) (n : Nat) (hn : 0 < n) : (bf F E off 0 n).2 = decide (off < mx E (n - 1)) := by
  rw [Bool.eq_iff_iff, bf_true, decide_eq_true_iff, lt_mx]
  constructor
  · rintro ⟨j, _, h2, h3⟩; exact ⟨j, by omega, h3⟩
  · rintro ⟨j, h2, h3⟩; exact ⟨j, by omega, by omega, h3⟩

end Go.Proofs.Qxb6627879a.Plain
