/- The word of a stripe: a bucket number ahead of 24 bits of count. Plain arithmetic. -/
import Derived.Laws.BitsAllLaws
namespace Go.Proofs.Ybulkenw
open Go

/-- The word of a stripe. -/
def wd (b c : Int) : Int := b * 16777216 + c

theorem and_count (c : Int) (h0 : 0 ≤ c) (h1 : c ≤ 65535) : bits .and .u64 c 16777215 = c := by
  rw [u64_and c 16777215 h0 (by omega) (by omega) (by omega)]
  have e : c.toNat &&& (16777215 : Int).toNat = c.toNat % 2 ^ 24 := Nat.and_two_pow_sub_one_eq_mod c.toNat 24
  rw [e]
  omega

theorem or_word (b c : Int) (h0 : 0 ≤ b) (h1 : b ≤ 65535) (h2 : 0 ≤ c) (h3 : c ≤ 65535) : bits .or .u64 (b * 16777216) c = wd b c := by
  rw [u64_or (b * 16777216) c (by omega) (by omega) h2 (by omega)]
  rw [nat_join 24 _ _ (by omega) (by omega)]
  unfold wd
  omega

theorem and_word (b c : Int) (h0 : 0 ≤ b) (h1 : b ≤ 65535) (h2 : 0 ≤ c) (h3 : c ≤ 65535) : bits .and .u64 (wd b c) 16777215 = c := by
  unfold wd
  rw [u64_and (b * 16777216 + c) 16777215 (by omega) (by omega) (by omega) (by omega)]
  have e : (b * 16777216 + c).toNat &&& (16777215 : Int).toNat = (b * 16777216 + c).toNat % 2 ^ 24 := Nat.and_two_pow_sub_one_eq_mod _ 24
  rw [e]
  omega

theorem div_word (b c : Int) (h2 : 0 ≤ c) (h3 : c ≤ 65535) : wd b c / 16777216 = b := by
  unfold wd
  omega

theorem wd_bound (b c : Int) (h0 : 0 ≤ b) (h1 : b ≤ 65535) (h2 : 0 ≤ c) (h3 : c ≤ 65535) : 0 ≤ wd b c ∧ wd b c ≤ 1099511627775 := by
  unfold wd
  omega
end Go.Proofs.Ybulkenw
