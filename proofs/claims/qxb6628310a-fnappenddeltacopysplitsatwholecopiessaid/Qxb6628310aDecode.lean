/- WHAT A DECODER READS OFF ONE COPY: plain facts (the model's own word for '&', '|' on fixed widths among them). -/
import Derived.Test.Qxb6628310aAppend
namespace Go.Proofs.Qxb6628310a
open Go.RowKit
open Plain

theorem tl_more (off sz : Int) (i : Nat) : ∀ j, ∃ r, tl off sz (i + j) = tl off sz i ++ r
  | 0 => ⟨[], by simp⟩
  | j + 1 => by
    obtain ⟨r, hr⟩ := tl_more off sz i j
    cases h : em off sz (i + j)
    · exact ⟨r, by rw [show i + (j + 1) = (i + j) + 1 from rfl, tl_no h, hr]⟩
    · exact ⟨r ++ [fld off sz (i + j)], by rw [show i + (j + 1) = (i + j) + 1 from rfl, tl_yes h, hr, List.append_assoc]⟩

/-- Where the bytes of one copy lie in the whole. -/
theorem chunk_head (done rest : List Int) (off sz : Int) : (done ++ (chunk off sz ++ rest)).getD done.length 0 = ((opv off sz 7 : Nat) : Int) ∧ done.length < (done ++ (chunk off sz ++ rest)).length := by
  constructor
  · simp [chunk, List.getD]
  · simp [chunk]

theorem chunk_at (done rest : List Int) (off sz : Int) (k : Nat) (hk : k < 7) (hem : em off sz k = true) :
    (done ++ (chunk off sz ++ rest)).getD (done.length + 1 + (tl off sz k).length) 0 = fld off sz k ∧ done.length + 1 + (tl off sz k).length < (done ++ (chunk off sz ++ rest)).length := by
  obtain ⟨r, hr⟩ := tl_more off sz (k + 1) (6 - k)
  rw [show k + 1 + (6 - k) = 7 from by omega, tl_yes hem, List.append_assoc] at hr
  have e : done ++ (chunk off sz ++ rest) = (done ++ ((opv off sz 7 : Nat) : Int) :: tl off sz k) ++ (fld off sz k :: (r ++ rest)) := by
    simp [chunk, hr]
  have hl : (done ++ ((opv off sz 7 : Nat) : Int) :: tl off sz k).length = done.length + 1 + (tl off sz k).length := by simp; omega
  rw [e]
  constructor
  · rw [List.getD, ← hl, List.getElem?_append_right (Nat.le_refl _)]
    simp
  · rw [List.length_append, hl]
    simp

/-! ### the first byte's bits -/
def ov7 (e0 e1 e2 e3 e4 e5 e6 : Bool) : Nat := 128 + e0.toNat * 1 + e1.toNat * 2 + e2.toNat * 4 + e3.toNat * 8 + e4.toNat * 16 + e5.toNat * 32 + e6.toNat * 64
theorem opv_toNat (off sz : Int) (i : Nat) : opv off sz (i + 1) = opv off sz i + (em off sz i).toNat * 2 ^ i := by
  cases h : em off sz i
  · rw [opv_no h]; simp
  · rw [opv_yes h]; simp
theorem opv7_eq (off sz : Int) : opv off sz 7 = ov7 (em off sz 0) (em off sz 1) (em off sz 2) (em off sz 3) (em off sz 4) (em off sz 5) (em off sz 6) := by
  rw [opv_toNat, opv_toNat, opv_toNat, opv_toNat, opv_toNat, opv_toNat, opv_toNat]
  rfl
theorem ov7_bits : ∀ e0 e1 e2 e3 e4 e5 e6 : Bool, ov7 e0 e1 e2 e3 e4 e5 e6 < 256 ∧ ov7 e0 e1 e2 e3 e4 e5 e6 &&& 128 = 128 ∧ ov7 e0 e1 e2 e3 e4 e5 e6 &&& 64 = e6.toNat * 64 ∧
    ov7 e0 e1 e2 e3 e4 e5 e6 &&& 1 = e0.toNat * 1 ∧ ov7 e0 e1 e2 e3 e4 e5 e6 &&& 2 = e1.toNat * 2 ∧ ov7 e0 e1 e2 e3 e4 e5 e6 &&& 4 = e2.toNat * 4 ∧ ov7 e0 e1 e2 e3 e4 e5 e6 &&& 8 = e3.toNat * 8 ∧
    ov7 e0 e1 e2 e3 e4 e5 e6 &&& 16 = e4.toNat * 16 ∧ ov7 e0 e1 e2 e3 e4 e5 e6 &&& 32 = e5.toNat * 32 := by decide +kernel

theorem and_high (off sz : Int) : (bits BinOp.and IntKind.u8 ((opv off sz 7 : Nat) : Int) 128 == 0) = false := by
  obtain ⟨h1, h2, _⟩ := ov7_bits (em off sz 0) (em off sz 1) (em off sz 2) (em off sz 3) (em off sz 4) (em off sz 5) (em off sz 6)
  rw [opv7_eq, show (128 : Int) = ((128 : Nat) : Int) from rfl, u8_and_nat _ _ h1 (by omega), h2]
  rfl
theorem and_six (off sz : Int) (h0 : 0 < sz) : (bits BinOp.and IntKind.u8 ((opv off sz 7 : Nat) : Int) 64 != 0) = false := by
  obtain ⟨h1, _, h2, _⟩ := ov7_bits (em off sz 0) (em off sz 1) (em off sz 2) (em off sz 3) (em off sz 4) (em off sz 5) (em off sz 6)
  rw [opv7_eq, show (64 : Int) = ((64 : Nat) : Int) from rfl, u8_and_nat _ _ h1 (by omega), h2, em6 h0]
  rfl
theorem and_bit (off sz : Int) (k : Nat) (hk : k < 6) : (bits BinOp.and IntKind.u8 ((opv off sz 7 : Nat) : Int) (2 ^ k % 256) == 0) = !em off sz k := by
  obtain ⟨h1, _, _, b0, b1, b2, b3, b4, b5⟩ := ov7_bits (em off sz 0) (em off sz 1) (em off sz 2) (em off sz 3) (em off sz 4) (em off sz 5) (em off sz 6)
  rw [opv7_eq]
  have h : k = 0 ∨ k = 1 ∨ k = 2 ∨ k = 3 ∨ k = 4 ∨ k = 5 := by omega
  rcases h with rfl | rfl | rfl | rfl | rfl | rfl
  · rw [show (2 ^ 0 % 256 : Int) = ((1 : Nat) : Int) from rfl, u8_and_nat _ _ h1 (by omega), b0]; cases em off sz 0 <;> rfl
  · rw [show (2 ^ 1 % 256 : Int) = ((2 : Nat) : Int) from rfl, u8_and_nat _ _ h1 (by omega), b1]; cases em off sz 1 <;> rfl
  · rw [show (2 ^ 2 % 256 : Int) = ((4 : Nat) : Int) from rfl, u8_and_nat _ _ h1 (by omega), b2]; cases em off sz 2 <;> rfl
  · rw [show (2 ^ 3 % 256 : Int) = ((8 : Nat) : Int) from rfl, u8_and_nat _ _ h1 (by omega), b3]; cases em off sz 3 <;> rfl
  · rw [show (2 ^ 4 % 256 : Int) = ((16 : Nat) : Int) from rfl, u8_and_nat _ _ h1 (by omega), b4]; cases em off sz 4 <;> rfl
  · rw [show (2 ^ 5 % 256 : Int) = ((32 : Nat) : Int) from rfl, u8_and_nat _ _ h1 (by omega), b5]; cases em off sz 5 <;> rfl

/-! ### the offset and the size, field by field -/
def dof (off : Int) : Nat → Int
  | 0 => 0
  | 1 => off % 256
  | 2 => off % 65536
  | 3 => off % 16777216
  | _ => off % 4294967296
def dsz (sz : Int) : Nat → Int
  | 5 => if sz < 65536 then sz % 256 else 0
  | 6 => if sz < 65536 then sz else 0
  | _ => 0

theorem or_join (i : Nat) (hi : i ≤ 24) (d c : Int) (hd0 : 0 ≤ d) (hd : d < ((2 ^ i : Nat) : Int)) (hc0 : 0 ≤ c) (hc : c < 256) : bits BinOp.or IntKind.u32 d (c % 4294967296 * 2 ^ i % 4294967296) = d + c * ((2 ^ i : Nat) : Int) := by
  obtain ⟨dn, rfl⟩ := Int.eq_ofNat_of_zero_le hd0
  obtain ⟨cn, rfl⟩ := Int.eq_ofNat_of_zero_le hc0
  have hp : 2 ^ i ≤ 2 ^ 24 := Nat.pow_le_pow_right (by omega) hi
  have hlt : cn * 2 ^ i < 4294967296 := by
    have : cn * 2 ^ i ≤ 255 * 2 ^ 24 := Nat.mul_le_mul (by omega) hp
    omega
  have hcm : (cn : Int) % 4294967296 = (cn : Int) := Int.emod_eq_of_lt (by omega) (by omega)
  have e : ((cn : Int) % 4294967296 * 2 ^ i % 4294967296) = ((cn * 2 ^ i : Nat) : Int) := by
    rw [hcm]
    have h2 : ((cn : Int) * 2 ^ i) = ((cn * 2 ^ i : Nat) : Int) := by rw [Int.natCast_mul, Int.natCast_pow]; rfl
    rw [h2]
    exact Int.emod_eq_of_lt (by omega) (by omega)
  rw [e, u32_or_nat dn (cn * 2 ^ i) (by omega) hlt, Nat.or_comm, nat_join i (cn * 2 ^ i) dn (Nat.mul_mod_left _ _) (by omega)]
  rw [Int.natCast_add, Int.natCast_mul, Int.add_comm]

theorem dof_step (off sz : Int) (k : Nat) (hk : k < 4) : bits BinOp.or IntKind.u32 (dof off k) (fld off sz k % 4294967296 * 2 ^ (8 * k) % 4294967296) = dof off (k + 1) := by
  have hr := fld_range off sz k
  have h : k = 0 ∨ k = 1 ∨ k = 2 ∨ k = 3 := by omega
  rcases h with rfl | rfl | rfl | rfl
  · rw [or_join _ (by omega) _ _ (by simp [dof]) (by simp [dof]) hr.1 hr.2]; simp only [dof, fld, sel]; simp
  · rw [or_join _ (by omega) _ _ (by simp only [dof]; omega) (by simp only [dof]; simp; omega) hr.1 hr.2]; simp only [dof, fld, sel]; simp; omega
  · rw [or_join _ (by omega) _ _ (by simp only [dof]; omega) (by simp only [dof]; simp; omega) hr.1 hr.2]; simp only [dof, fld, sel]; simp; omega
  · rw [or_join _ (by omega) _ _ (by simp only [dof]; omega) (by simp only [dof]; simp; omega) hr.1 hr.2]; simp only [dof, fld, sel]; simp; omega

theorem em_false4 {off sz : Int} {k : Nat} (hk : k < 4) (h : em off sz k = false) : fld off sz k = 0 := by
  unfold em at h
  simp [hk] at h
  exact h
theorem dof_stay (off sz : Int) (k : Nat) (hk : k < 4) (hem : em off sz k = false) : dof off (k + 1) = dof off k := by
  have h0 := em_false4 hk hem
  have h : k = 0 ∨ k = 1 ∨ k = 2 ∨ k = 3 := by omega
  rcases h with rfl | rfl | rfl | rfl <;> simp only [dof, fld, sel] at h0 ⊢ <;> omega
theorem dof_over (off : Int) (k : Nat) (hk : 4 ≤ k) : dof off k = off % 4294967296 := by
  match k, hk with
  | k + 4, _ => rfl
theorem dsz_under (sz : Int) (k : Nat) (hk : k ≤ 4) : dsz sz k = 0 := by
  have h : k = 0 ∨ k = 1 ∨ k = 2 ∨ k = 3 ∨ k = 4 := by omega
  rcases h with rfl | rfl | rfl | rfl | rfl <;> rfl

theorem dsz_step (off sz : Int) (k : Nat) (hk : 4 ≤ k) (hk6 : k < 6) (h0 : 0 < sz) (hem : em off sz k = true) : bits BinOp.or IntKind.u32 (dsz sz k) (fld off sz k % 4294967296 * 2 ^ (8 * (k - 4)) % 4294967296) = dsz sz (k + 1) := by
  have hr := fld_range off sz k
  have hs : sz < 65536 := by
    unfold em at hem
    have : ¬ k < 4 := by omega
    simp [this] at hem
    exact hem.2
  have h : k = 4 ∨ k = 5 := by omega
  rcases h with rfl | rfl
  · rw [or_join _ (by omega) _ _ (by simp [dsz]) (by simp [dsz]) hr.1 hr.2]; simp only [dsz, fld, sel, hs, if_true]; simp
  · rw [or_join _ (by omega) _ _ (by simp only [dsz, hs, if_true]; omega) (by simp only [dsz, hs, if_true]; simp; omega) hr.1 hr.2]; simp only [dsz, fld, sel, hs, if_true]; simp; omega

theorem dsz_stay (off sz : Int) (k : Nat) (hk : 4 ≤ k) (hk6 : k < 6) (h0 : 0 < sz) (hem : em off sz k = false) : dsz sz (k + 1) = dsz sz k := by
  have h4 : ¬ k < 4 := by omega
  unfold em at hem
  by_cases hs : sz < 65536
  · simp [hs] at hem
    have h : k = 4 ∨ k = 5 := by omega
    rcases h with rfl | rfl <;> simp only [dsz, fld, sel, hs, if_true] at hem ⊢ <;> omega
  · have h : k = 4 ∨ k = 5 := by omega
    rcases h with rfl | rfl <;> simp only [dsz, hs, if_false]

/-- What is owned, as the comparisons read it. -/
theorem has_of_owns {w : World} {B : Nat} {a : Option Addr} {cap : Nat} {T : List Int} (h : w.ownsRow B 5 1 (.slice a T.length cap) T.length (u8s T)) : HasBytes w a T.length (fun i => T.getD i 0) := by
  intro hp
  obtain ⟨g, cap', e, _, _⟩ := owns_some h hp
  injection e with e1 e2 e3
  subst e1
  refine ⟨g, 0, rfl, fun i hi => ?_⟩
  rw [Nat.zero_add, h.cellAt i (by omega)]
  simp [u8s, List.getD, hi]

theorem has_later {w w' : World} {a : Option Addr} {len : Nat} {Z : Nat → Int} (h : HasBytes w a len Z) (hb : Below w.heap.size w w') : HasBytes w' a len Z := by
  intro hp
  obtain ⟨b, o, e, hc⟩ := h hp
  exact ⟨b, o, e, fun i hi => (hb.cell (World.block_lt_of_cell? _ _ (hc i hi))).trans (hc i hi)⟩

end Go.Proofs.Qxb6628310a
