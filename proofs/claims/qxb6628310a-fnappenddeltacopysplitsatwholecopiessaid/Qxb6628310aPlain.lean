/- THE PLAIN PART: the bytes that 'AppendDeltaCopy' appends; what a decoder reads off them. No Go in sight. -/
namespace Go.Proofs.Qxb6628310a.Plain

/-- The seven fields of one copy. -/
def sel (off sz : Int) : Nat → Int
  | 0 => off
  | 1 => off / 256
  | 2 => off / 65536
  | 3 => off / 16777216
  | 4 => sz
  | 5 => sz / 256
  | _ => sz / 65536

def fld (off sz : Int) (i : Nat) : Int := sel off sz i % 256
/-- Is field i written? -/
def em (off sz : Int) (i : Nat) : Bool := decide (fld off sz i ≠ 0) && (decide (i < 4) || decide (sz < 65536))

/-- The first byte behind the first i fields. -/
def opv (off sz : Int) : Nat → Nat
  | 0 => 128
  | i + 1 => if em off sz i = true then opv off sz i + 2 ^ i else opv off sz i
/-- What is written of the first i fields. -/
def tl (off sz : Int) : Nat → List Int
  | 0 => []
  | i + 1 => if em off sz i = true then tl off sz i ++ [fld off sz i] else tl off sz i

def chunk (off sz : Int) : List Int := (opv off sz 7 : Int) :: tl off sz 7

/-- The whole: one copy for each 65536 or part of them. -/
def enc : Nat → Int → Int → List Int
  | 0, _, _ => []
  | f + 1, off, n => if 0 < n then chunk off (min n 65536) ++ enc f (off + min n 65536) (n - min n 65536) else []

theorem opv_yes {off sz : Int} {i : Nat} (h : em off sz i = true) : opv off sz (i + 1) = opv off sz i + 2 ^ i := by rw [opv, if_pos h]
theorem opv_no {off sz : Int} {i : Nat} (h : em off sz i = false) : opv off sz (i + 1) = opv off sz i := by rw [opv, if_neg (by simp [h])]
theorem tl_yes {off sz : Int} {i : Nat} (h : em off sz i = true) : tl off sz (i + 1) = tl off sz i ++ [fld off sz i] := by rw [tl, if_pos h]
theorem tl_no {off sz : Int} {i : Nat} (h : em off sz i = false) : tl off sz (i + 1) = tl off sz i := by rw [tl, if_neg (by simp [h])]

theorem tl_len (off sz : Int) : ∀ i, (tl off sz i).length ≤ i
  | 0 => Nat.le_refl _
  | i + 1 => by
    have := tl_len off sz i
    cases h : em off sz i
    · rw [tl_no h]; omega
    · rw [tl_yes h, List.length_append]; simp; omega

/-- The field 6 is never written. -/
theorem em6 {off sz : Int} (h0 : 0 < sz) : em off sz 6 = false := by
  unfold em fld sel
  by_cases h : sz < 65536
  · have : sz / 65536 % 256 = 0 := by omega
    simp [this]
  · simp [h]

theorem fld_range (off sz : Int) (i : Nat) : 0 ≤ fld off sz i ∧ fld off sz i < 256 := by unfold fld; omega

/-! ### the low 32 bits of the offset alone matter -/
theorem fld_congr {off off' sz : Int} (h : off % 4294967296 = off' % 4294967296) (i : Nat) : fld off sz i = fld off' sz i := by
  unfold fld
  match i with
  | 0 => simp only [sel]; omega
  | 1 => simp only [sel]; omega
  | 2 => simp only [sel]; omega
  | 3 => simp only [sel]; omega
  | 4 => rfl
  | 5 => rfl
  | _ + 6 => rfl
theorem em_congr {off off' sz : Int} (h : off % 4294967296 = off' % 4294967296) (i : Nat) : em off sz i = em off' sz i := by unfold em; rw [fld_congr h]
theorem opv_congr {off off' sz : Int} (h : off % 4294967296 = off' % 4294967296) : ∀ i, opv off sz i = opv off' sz i
  | 0 => rfl
  | i + 1 => by simp only [opv]; rw [em_congr h, opv_congr h i]
theorem tl_congr {off off' sz : Int} (h : off % 4294967296 = off' % 4294967296) : ∀ i, tl off sz i = tl off' sz i
  | 0 => rfl
  | i + 1 => by simp only [tl]; rw [em_congr h, tl_congr h i, fld_congr h]
theorem chunk_congr {off off' : Int} (h : off % 4294967296 = off' % 4294967296) (sz : Int) : chunk off sz = chunk off' sz := by unfold chunk; rw [opv_congr h, tl_congr h]
theorem enc_congr : ∀ (f : Nat) {off off' : Int} (_ : off % 4294967296 = off' % 4294967296) (n : Int), enc f off n = enc f off' n
  | 0, _, _, _, _ => rfl
  | f + 1, off, off', h, n => by
    simp only [enc]
    rw [chunk_congr h, enc_congr f (off := off + min n 65536) (off' := off' + min n 65536) (by omega)]

theorem enc_done (f : Nat) (off n : Int) (h : ¬ 0 < n) : enc f off n = [] := by
  cases f with
  | zero => rfl
  | succ f => rw [enc, if_neg h]

theorem enc_step (f : Nat) (off n : Int) (h : 0 < n) : enc (f + 1) off n = chunk off (min n 65536) ++ enc f (off + min n 65536) (n - min n 65536) := by rw [enc, if_pos h]

/-- Enough rounds are enough. -/
theorem enc_fuel : ∀ (f g : Nat) (off n : Int), n ≤ 65536 * (f : Int) → f ≤ g → enc g off n = enc f off n
  | 0, g, off, n, h, _ => by rw [enc_done g off n (by omega), enc_done 0 off n (by omega)]
  | f + 1, g, off, n, h, hg => by
    obtain ⟨g', rfl⟩ : ∃ g', g = g' + 1 := ⟨g - 1, by omega⟩
    by_cases hn : 0 < n
    · rw [enc_step g' off n hn, enc_step f off n hn, enc_fuel f g' _ _ (by omega) (by omega)]
    · rw [enc_done _ _ _ hn, enc_done _ _ _ hn]

/-! ### cut at whole copies -/
theorem enc_split : ∀ (k f : Nat) (off n : Int), 65536 * (k : Int) ≤ n → enc (k + f) off n = enc k off (65536 * (k : Int)) ++ enc f (off + 65536 * (k : Int)) (n - 65536 * (k : Int))
  | 0, f, off, n, h => by simp [enc]
  | k + 1, f, off, n, h => by
    have e1 : min n 65536 = 65536 := by omega
    have e2 : min (65536 * ((k + 1 : Nat) : Int)) 65536 = 65536 := by omega
    rw [show k + 1 + f = (k + f) + 1 from by omega, enc_step (k + f) off n (by omega), enc_step k off _ (by omega), e1, e2, enc_split k f (off + 65536) (n - 65536) (by omega), List.append_assoc,
      show 65536 * ((k + 1 : Nat) : Int) - 65536 = 65536 * (k : Int) from by omega, show off + 65536 * ((k + 1 : Nat) : Int) = off + 65536 + 65536 * (k : Int) from by omega,
      show n - 65536 * ((k + 1 : Nat) : Int) = n - 65536 - 65536 * (k : Int) from by omega]

theorem chunk_len (off sz : Int) (h0 : 0 < sz) : 1 ≤ (chunk off sz).length ∧ (chunk off sz).length ≤ 7 := by
  unfold chunk
  rw [List.length_cons, tl_no (em6 h0)]
  have := tl_len off sz 6
  omega

/-- How many bytes are written. -/
theorem enc_len : ∀ (f : Nat) (off n : Int), n ≤ 65536 * (f : Int) → 0 ≤ n → (n + 65535) / 65536 ≤ ((enc f off n).length : Int) ∧ ((enc f off n).length : Int) ≤ 7 * ((n + 65535) / 65536)
  | 0, off, n, h, h0 => by
    have : n = 0 := by omega
    subst this
    simp [enc]
  | f + 1, off, n, h, h0 => by
    by_cases hn : 0 < n
    · have hc := chunk_len off (min n 65536) (by omega)
      have ih := enc_len f (off + min n 65536) (n - min n 65536) (by omega) (by omega)
      rw [enc_step f off n hn, List.length_append]
      omega
    · rw [enc_done _ _ _ hn]
      simp
      omega

theorem enc_le (f : Nat) : ∀ (off n : Int), (enc f off n).length ≤ 7 * f := by
  induction f with
  | zero => intro off n; simp [enc]
  | succ f ih =>
    intro off n
    by_cases hn : 0 < n
    · have hc := chunk_len off (min n 65536) (by omega)
      have := ih (off + min n 65536) (n - min n 65536)
      rw [enc_step f off n hn, List.length_append]
      omega
    · rw [enc_done _ _ _ hn]
      simp

end Go.Proofs.Qxb6628310a.Plain
