/- The walk of LawS0269ANilWindow (3). -/
import Derived.Test.YbulkenwDrain
namespace Go.Proofs.Ybulkenw
open Go.RowKit

theorem okw_word {z1 z2 : List Int} {len1 cap1 len2 cap2 : Nat} {w : World} {a1 a2 : Option Addr} (i1 : InRow w a1 len1 cap1 z1) (i2 : InRow w a2 len2 cap2 z2) (i : Nat) : Okw (wd (el z1 len1 i) (el z2 len2 i)) := by
  obtain ⟨b1, b2⟩ := el_bound i1.2.2.1 (by have := i1.1; have := i1.2.1; omega) (zs := z1) (len := len1) i
  obtain ⟨c1, c2⟩ := el_bound i2.2.2.1 (by have := i2.1; have := i2.2.1; omega) (zs := z2) (len := len2) i
  exact ⟨_, and_word _ _ b1 b2 c1 c2, c1, c2⟩

set_option maxRecDepth 100000 in
set_option maxHeartbeats 400000 in
theorem nil_walk (k : Nat) (hk8 : k ≤ 255) (a1 : Option Addr) (len1 cap1 : Nat) (z1 : List Int) (a2 : Option Addr) (len2 cap2 : Nat) (z2 : List Int) (y : Int) (w : World)
    (i1 : InRow w a1 len1 cap1 z1) (i2 : InRow w a2 len2 cap2 z2) :
    Calls Yba.prog 3 #[.int .u8 k, .slice a1 len1 cap1, .slice a2 len2 cap2, .int .u64 y] w fun e w' => e = .returned (.bool true) ∧ Below w.heap.size w w' := by
  by_cases h0 : (k : Int) % 4 = 0
  · go_enter Yba.func3, Yba.ntmps3
    go_wp2_with fail
    refine (build_one k h0 hk8 a1 len1 cap1 z1 a2 len2 cap2 z2 w i1 i2).mono ?_
    rintro e w1 ⟨b, og, rfl, hbo⟩
    go_wp2_with fail
    refine (drain_nil_one b _ y w1 (by simpa using hbo.ss) (okw_word i1 i2 0)).mono ?_
    rintro e w2 ⟨rfl, rfl⟩
    go_wp2_with fail
    refine (held_one b y _ (hbo.ss.base y)).mono ?_
    rintro e w3 ⟨rfl, rfl⟩
    go_wp2
    go_ret
    exact ⟨rfl, hbo.below.setCell hbo.l1 _⟩
  · obtain ⟨n, hn⟩ : ∃ n : Nat, ((k : Int) % 4 = 1 ∧ n = 2) ∨ ((k : Int) % 4 = 2 ∧ n = 4) ∨ ((k : Int) % 4 = 3 ∧ n = 8) := by
      rcases (show (k : Int) % 4 = 1 ∨ (k : Int) % 4 = 2 ∨ (k : Int) % 4 = 3 by omega) with h | h | h
      · exact ⟨2, .inl ⟨h, rfl⟩⟩
      · exact ⟨4, .inr (.inl ⟨h, rfl⟩)⟩
      · exact ⟨8, .inr (.inr ⟨h, rfl⟩)⟩
    have hn2 : 2 ≤ n ∧ n ≤ 8 := by omega
    have HN := hide hn
    clear hn h0
    go_enter Yba.func3, Yba.ntmps3
    go_wp2_with fail
    refine (build_many k n HN.out hk8 a1 len1 cap1 z1 a2 len2 cap2 z2 w i1 i2).mono ?_
    rintro e w1 ⟨b, hd, row, og, rfl, hbs⟩
    go_wp2_with fail
    refine (drain_nil_many b hd row n (fun i => wd (el z1 len1 i) (el z2 len2 i)) y w1 (hbs.ss.congr (by intro i hi; simp; intro h; omega)) (fun i _ => okw_word i1 i2 i) hn2.2 w.heap.size hbs.l1 hbs.l3).mono ?_
    rintro e w2 ⟨rfl, hss, hbel⟩
    go_wp2_with fail
    refine (held_many b hd row n y _ w2 hss (by omega) hn2.1 hn2.2).mono ?_
    rintro e w3 ⟨rfl, rfl⟩
    go_wp2
    go_ret
    exact ⟨rfl, hbs.below.trans hbel⟩
end Go.Proofs.Ybulkenw
