/- LawS0267CBad (4), whatever the input. -/
import Derived.Test.YbulkemuFlags
import Derived.Test.YbulkemuBuild
namespace Go.Proofs.Ybulkemu
open Go.RowKit

theorem build_too : BuildToo := by
  intro np h1 pl last h2 h3 m nh lf h4 h5 a L cap M V h6 w h7 n pn q h8 h9 h10
  exact build_any np h1 pl last h2 h3 m nh lf h4 h5 a L cap M V h6 w h7 n pn q h8 h9 h10

set_option maxRecDepth 100000 in
set_option maxHeartbeats 400000 in
theorem bad_long (a0 a1 a2 a3 a4 a5 a6 : Int) (a : Option Addr) (L cap : Nat) (a8 : Option Addr) (R cap8 : Nat) (nr : Int) (w : World) (hL : 256 < L) :
    Calls Yba.prog 4 #[.int .u8 a0, .int .u16 a1, .int .u16 a2, .int .u8 a3, .int .u64 a4, .int .i64 a5, .int .i64 a6, .slice a L cap, .slice a8 R cap8, .int .i64 nr] w fun e w' => e = .returned (.bool true) ∧ Below w.heap.size w w' := by
  have hL' : (256 : Int) < (L : Int) := by omega
  go_enter Yba.func4, Yba.ntmps4
  go_wp2
  go_ret
  exact ⟨rfl, Below.refl _ _⟩

set_option maxRecDepth 100000 in
set_option maxHeartbeats 400000 in
theorem bad_wide (a0 a1 a2 a3 a4 a5 a6 : Int) (a : Option Addr) (L cap : Nat) (a8 : Option Addr) (R cap8 : Nat) (nr : Int) (w : World) (hL : L ≤ 256) (hR : 1024 < R) :
    Calls Yba.prog 4 #[.int .u8 a0, .int .u16 a1, .int .u16 a2, .int .u8 a3, .int .u64 a4, .int .i64 a5, .int .i64 a6, .slice a L cap, .slice a8 R cap8, .int .i64 nr] w fun e w' => e = .returned (.bool true) ∧ Below w.heap.size w w' := by
  have hL' : ¬ (256 : Int) < (L : Int) := by omega
  have hR' : (1024 : Int) < (R : Int) := by omega
  go_enter Yba.func4, Yba.ntmps4
  go_wp2
  go_ret
  exact ⟨rfl, Below.refl _ _⟩

theorem prod_nat_b (np pl : Nat) : ∃ q : Nat, ((((1 + np % 64 : Nat) : Int) - 1) * ((1 + pl : Nat) : Int)) = (q : Int) := by
  refine ⟨(np % 64) * (1 + pl), ?_⟩
  have : (((1 + np % 64 : Nat) : Int) - 1) = ((np % 64 : Nat) : Int) := by omega
  rw [this]
  exact (Int.natCast_mul _ _).symm

theorem bad_all (a0 a1 a2 a3 a4 a5 a6 : Int) (w0 : (Lit.int .u8 a0).wf = true) (w1 : (Lit.int .u16 a1).wf = true) (w2 : (Lit.int .u16 a2).wf = true) (w3 : (Lit.int .u8 a3).wf = true) (w4 : (Lit.int .u64 a4).wf = true) (a : Option Addr) (L cap : Nat) (M V : Nat → Int) (a8 : Option Addr) (R cap8 : Nat) (Z : Nat → Bool) (hRn : a8 = none → R = 0 ∧ cap8 = 0) (nr : Int) (w : World) (hp : InP w a L M V) (hpb : InB w a8 R Z) :
    Calls Yba.prog 4 #[.int .u8 a0, .int .u16 a1, .int .u16 a2, .int .u8 a3, .int .u64 a4, .int .i64 a5, .int .i64 a6, .slice a L cap, .slice a8 R cap8, .int .i64 nr] w fun e w' => e = .returned (.bool true) ∧ Below w.heap.size w w' := by
  by_cases hL : L ≤ 256
  · by_cases hR : R ≤ 1024
    · obtain ⟨h0, h0'⟩ := bounds_u8 w0
      obtain ⟨np, rfl⟩ := Int.eq_ofNat_of_zero_le h0
      obtain ⟨h1, h1'⟩ := bounds_u16 w1
      obtain ⟨pl, rfl⟩ := Int.eq_ofNat_of_zero_le h1
      obtain ⟨h2, h2'⟩ := bounds_u16 w2
      obtain ⟨last, rfl⟩ := Int.eq_ofNat_of_zero_le h2
      obtain ⟨h3, h3'⟩ := bounds_u8 w3
      obtain ⟨ix, rfl⟩ := Int.eq_ofNat_of_zero_le h3
      obtain ⟨h4, h4'⟩ := bounds_u64 w4
      obtain ⟨q, hq⟩ := prod_nat_b np pl
      exact bad_walk build_too np (by omega) pl last (by omega) (by omega) ix (by omega) a4 a5 a6 h4 h4' a L cap M V hL a8 R cap8 Z hR hRn nr w hp hpb _ _ q rfl rfl hq
    · exact bad_wide a0 a1 a2 a3 a4 a5 a6 a L cap a8 R cap8 nr w hL (by omega)
  · exact bad_long a0 a1 a2 a3 a4 a5 a6 a L cap a8 R cap8 nr w (by omega)
end Go.Proofs.Ybulkemu
