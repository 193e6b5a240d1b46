/- Bits of bytes and of a 64-bit mask: plain mathematics. -/
import Derived.Laws.BitsAllLaws
namespace Go.Proofs.Ybulkemu
open Go

def orB (x : Int) (r : Nat) : Int := bits .or .u8 x (128 / 2 ^ r)
def hasB (x : Int) (r : Nat) : Bool := bits .and .u8 x (128 / 2 ^ r) != 0

theorem mask_pow (r : Nat) (h : r < 8) : (128 : Int) / 2 ^ r = ((2 ^ (7 - r) : Nat) : Int) := by
  match r, h with
  | 0, _ => rfl
  | 1, _ => rfl
  | 2, _ => rfl
  | 3, _ => rfl
  | 4, _ => rfl
  | 5, _ => rfl
  | 6, _ => rfl
  | 7, _ => rfl

theorem pow_lt (r : Nat) (h : r < 8) : 2 ^ r < 256 := by
  match r, h with
  | 0, _ => exact Nat.lt_of_sub_pos (by decide)
  | 1, _ => exact Nat.lt_of_sub_pos (by decide)
  | 2, _ => exact Nat.lt_of_sub_pos (by decide)
  | 3, _ => exact Nat.lt_of_sub_pos (by decide)
  | 4, _ => exact Nat.lt_of_sub_pos (by decide)
  | 5, _ => exact Nat.lt_of_sub_pos (by decide)
  | 6, _ => exact Nat.lt_of_sub_pos (by decide)
  | 7, _ => exact Nat.lt_of_sub_pos (by decide)

/-- The mask of bit r as a power of two under a name. -/
theorem mask_of (r : Nat) (h : r < 8) : ∃ p : Nat, p = 2 ^ (7 - r) ∧ (128 : Int) / 2 ^ r = (p : Int) ∧ 0 < p ∧ p < 256 :=
  ⟨_, rfl, mask_pow r h, Nat.two_pow_pos _, pow_lt _ (by omega)⟩

theorem hasB_test (x : Int) (r : Nat) (h0 : 0 ≤ x) (h1 : x ≤ 255) (hr : r < 8) : hasB x r = x.toNat.testBit (7 - r) := by
  obtain ⟨p, hp, hm, p0, p1⟩ := mask_of r hr
  unfold hasB
  rw [hm, u8_and x p h0 (by omega) (by omega) (by omega), Int.toNat_natCast, hp, nat_bit, Nat.testBit_eq_decide_div_mod_eq, ← hp]
  have hm : x.toNat / p % 2 = 0 ∨ x.toNat / p % 2 = 1 := by omega
  rcases hm with e | e
  · rw [e]; simp
  · rw [e]
    have : ((1 * p : Nat) : Int) ≠ 0 := by omega
    simp only [decide_true, bne_iff_ne]
    exact this

theorem orB_toNat (x : Int) (r : Nat) (h0 : 0 ≤ x) (h1 : x ≤ 255) (hr : r < 8) : (orB x r).toNat = x.toNat ||| 2 ^ (7 - r) := by
  obtain ⟨p, hp, hm, p0, p1⟩ := mask_of r hr
  unfold orB
  rw [hm, u8_or x p h0 (by omega) (by omega) (by omega), Int.toNat_natCast, Int.toNat_natCast, hp]

theorem orB_bound (x : Int) (r : Nat) (h0 : 0 ≤ x) (h1 : x ≤ 255) (hr : r < 8) : 0 ≤ orB x r ∧ orB x r ≤ 255 := by
  obtain ⟨p, hp, hm, p0, p1⟩ := mask_of r hr
  unfold orB
  rw [hm, u8_or x p h0 (by omega) (by omega) (by omega), Int.toNat_natCast]
  have : x.toNat ||| p < 2 ^ 8 := Nat.or_lt_two_pow (by omega) (by omega)
  omega

theorem hasB_orB (x : Int) (r s : Nat) (h0 : 0 ≤ x) (h1 : x ≤ 255) (hr : r < 8) (hs : s < 8) : hasB (orB x r) s = (hasB x s || decide (s = r)) := by
  obtain ⟨b0, b1⟩ := orB_bound x r h0 h1 hr
  rw [hasB_test _ s b0 b1 hs, hasB_test x s h0 h1 hs, orB_toNat x r h0 h1 hr, Nat.testBit_or, Nat.testBit_two_pow]
  congr 1
  have : (7 - r = 7 - s) = (s = r) := by
    apply propext
    omega
  simp only [this]

theorem hasB_zero (s : Nat) (hs : s < 8) : hasB 0 s = false := by
  rw [hasB_test 0 s (by omega) (by omega) hs]
  simp

/-- Bit k of a row of bytes, the high bit first. -/
def bit (bs : List Int) (k : Nat) : Bool := hasB (bs.getD (k / 8) 0) (k % 8)
def Bytes (bs : List Int) : Prop := ∀ x ∈ bs, 0 ≤ x ∧ x ≤ 255
def setAt (bs : List Int) (i : Nat) : List Int := bs.set (i / 8) (orB (bs.getD (i / 8) 0) (i % 8))

theorem Bytes.at {bs : List Int} (h : Bytes bs) (j : Nat) : 0 ≤ bs.getD j 0 ∧ bs.getD j 0 ≤ 255 := by
  rw [List.getD_eq_getElem?_getD]
  by_cases hj : j < bs.length
  · rw [List.getElem?_eq_getElem hj]
    exact h _ (List.getElem_mem _)
  · rw [List.getElem?_eq_none (by omega)]
    simp

theorem setAt_length (bs : List Int) (i : Nat) : (setAt bs i).length = bs.length := by simp [setAt]

theorem setAt_bytes {bs : List Int} (h : Bytes bs) (i : Nat) : Bytes (setAt bs i) := by
  intro x hx
  rcases List.mem_or_eq_of_mem_set hx with hx | rfl
  · exact h x hx
  · exact orB_bound _ _ (h.at _).1 (h.at _).2 (by omega)

theorem bit_setAt {bs : List Int} (h : Bytes bs) (i k : Nat) (hi : i / 8 < bs.length) : bit (setAt bs i) k = (bit bs k || decide (k = i)) := by
  unfold bit setAt
  by_cases e : k / 8 = i / 8
  · have : (bs.set (i / 8) (orB (bs.getD (i / 8) 0) (i % 8))).getD (k / 8) 0 = orB (bs.getD (i / 8) 0) (i % 8) := by
      rw [e, List.getD_eq_getElem?_getD, List.getElem?_set_self hi]
      rfl
    rw [this, hasB_orB _ _ _ (h.at _).1 (h.at _).2 (by omega) (by omega), e]
    congr 1
    have : (k % 8 = i % 8) = (k = i) := by apply propext; omega
    simp only [this]
  · have : (bs.set (i / 8) (orB (bs.getD (i / 8) 0) (i % 8))).getD (k / 8) 0 = bs.getD (k / 8) 0 := by
      rw [List.getD_eq_getElem?_getD, List.getElem?_set_ne (fun h => e h.symm), ← List.getD_eq_getElem?_getD]
    rw [this]
    have : k ≠ i := by rintro rfl; exact e rfl
    simp [this]

theorem bit_zero (m k : Nat) : bit (List.replicate m 0) k = false := by
  unfold bit
  have : (List.replicate m (0 : Int)).getD (k / 8) 0 = 0 := by
    rw [List.getD_eq_getElem?_getD, List.getElem?_replicate]
    split <;> rfl
  rw [this]
  exact hasB_zero _ (by omega)

theorem bytes_zero (m : Nat) : Bytes (List.replicate m 0) := by
  intro x hx
  rw [List.eq_of_mem_replicate hx]
  omega
end Go.Proofs.Ybulkemu
