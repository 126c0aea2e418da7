/- THE PLAIN PART: the number that decimal bytes spell. No Go in sight. -/
namespace Go.Proofs.Qxb6628338a.Plain

def byt (s : ByteArray) (i : Nat) : Nat := (s.get! i).toNat

/-- Are the first k bytes decimal digits? -/
def ad (f : Nat → Nat) : Nat → Bool
  | 0 => true
  | k + 1 => ad f k && (decide (48 ≤ f k) && decide (f k ≤ 57))
/-- The number that the first k bytes spell. -/
def vl (f : Nat → Nat) : Nat → Int
  | 0 => 0
  | k + 1 => vl f k * 10 + ((f k : Int) - 48)

/-- What 'Digits' answers. -/
def dg (f : Nat → Nat) (n : Nat) : Int × Bool := if n = 0 ∨ 18 < n ∨ ad f n = false then (0, false) else (vl f n, true)

theorem ad_yes {f : Nat → Nat} {k : Nat} (h : ad f (k + 1) = true) : ad f k = true ∧ 48 ≤ f k ∧ f k ≤ 57 := by
  simpa [ad] using h
theorem ad_step {f : Nat → Nat} {k : Nat} (h : ad f k = true) (h1 : 48 ≤ f k) (h2 : f k ≤ 57) : ad f (k + 1) = true := by
  simp [ad, h, h1, h2]
theorem ad_bad {f : Nat → Nat} {k : Nat} (h : f k < 48 ∨ 57 < f k) : ad f (k + 1) = false := by
  rcases h with h | h
  · have : ¬ 48 ≤ f k := by omega
    simp [ad, this]
  · have : ¬ f k ≤ 57 := by omega
    simp [ad, this]
theorem ad_mono {f : Nat → Nat} {k : Nat} (h : ad f k = false) : ∀ m, ad f (k + m) = false
  | 0 => h
  | m + 1 => by
    rw [show k + (m + 1) = (k + m) + 1 from rfl]
    simp [ad, ad_mono h m]
theorem ad_le {f : Nat → Nat} {k n : Nat} (hk : k ≤ n) (h : ad f k = false) : ad f n = false := by
  have := ad_mono h (n - k)
  rwa [show k + (n - k) = n from by omega] at this
theorem ad_of_le {f : Nat → Nat} {k n : Nat} (hk : k ≤ n) (h : ad f n = true) : ad f k = true := by
  cases h' : ad f k
  · rw [ad_le hk h'] at h
    exact absurd h (by simp)
  · rfl
theorem ad_at {f : Nat → Nat} {k n : Nat} (hk : k < n) (h : ad f n = true) : 48 ≤ f k ∧ f k ≤ 57 := (ad_yes (ad_of_le (k := k + 1) hk h)).2

theorem ad_shift {f : Nat → Nat} {k : Nat} : ∀ m, ad f (k + m) = true → ad (fun i => f (k + i)) m = true
  | 0, _ => rfl
  | m + 1, h => by
    have h' := ad_yes (k := k + m) h
    exact ad_step (ad_shift m h'.1) h'.2.1 h'.2.2

theorem ad_congr {f g : Nat → Nat} : ∀ n, (∀ i, i < n → f i = g i) → ad f n = ad g n
  | 0, _ => rfl
  | n + 1, h => by simp only [ad]; rw [ad_congr n fun i hi => h i (by omega), h n (by omega)]
theorem vl_congr {f g : Nat → Nat} : ∀ n, (∀ i, i < n → f i = g i) → vl f n = vl g n
  | 0, _ => rfl
  | n + 1, h => by simp only [vl]; rw [vl_congr n fun i hi => h i (by omega), h n (by omega)]
theorem dg_congr {f g : Nat → Nat} (n : Nat) (h : ∀ i, i < n → f i = g i) : dg f n = dg g n := by unfold dg; rw [ad_congr n h, vl_congr n h]

def pw : Nat → Int
  | 0 => 1
  | k + 1 => pw k * 10
theorem pw_pos : ∀ k, 1 ≤ pw k
  | 0 => by simp [pw]
  | k + 1 => by have := pw_pos k; simp only [pw]; omega
theorem pw_le : ∀ {k n : Nat}, k ≤ n → pw k ≤ pw n
  | k, 0, h => by
    obtain rfl : k = 0 := by omega
    exact Int.le_refl _
  | k, n + 1, h => by
    by_cases e : k = n + 1
    · rw [e]; exact Int.le_refl _
    · have := pw_le (k := k) (n := n) (by omega)
      have := pw_pos n
      simp only [pw]
      omega
theorem pw18 : pw 18 = 1000000000000000000 := by decide
theorem vl_range {f : Nat → Nat} : ∀ k, ad f k = true → 0 ≤ vl f k ∧ vl f k < pw k
  | 0, _ => by simp [vl, pw]
  | k + 1, h => by
    obtain ⟨h1, h2, h3⟩ := ad_yes h
    have ih := vl_range k h1
    simp only [vl, pw]
    omega

theorem vl_split (f : Nat → Nat) (k : Nat) : ∀ m, vl f (k + m) = vl f k * pw m + vl (fun i => f (k + i)) m
  | 0 => by simp [vl, pw]
  | m + 1 => by
    rw [show k + (m + 1) = (k + m) + 1 from rfl]
    simp only [vl, pw]
    rw [vl_split f k m, Int.add_mul, Int.mul_assoc]
    omega

theorem dg_bad {f : Nat → Nat} {n : Nat} (h : n = 0 ∨ 18 < n ∨ ad f n = false) : dg f n = (0, false) := by rw [dg, if_pos h]
theorem dg_good {f : Nat → Nat} {n : Nat} (h1 : n ≠ 0) (h2 : n ≤ 18) (h : ad f n = true) : dg f n = (vl f n, true) := by
  rw [dg, if_neg]
  rintro (h' | h' | h')
  · exact h1 h'
  · omega
  · rw [h] at h'; exact absurd h' (by simp)

theorem byt_eq (s : ByteArray) (i : Nat) (h : i < s.size) : byt s i = (s[i]'h).toNat := by
  have e : s.get! i = s[i]'h := by
    simp [ByteArray.get!, getElem!_pos, h]
    rfl
  rw [byt, e]
theorem byt_cut (p : ByteArray) (a b j : Nat) (hj : j < b - a) (hb : b ≤ p.size) : byt (p.extract a b) j = byt p (a + j) := by
  have h1 : j < (p.extract a b).size := by rw [ByteArray.size_extract]; omega
  rw [byt_eq _ j h1, byt_eq p (a + j) (by omega), ByteArray.getElem_extract h1]

end Go.Proofs.Qxb6628338a.Plain
