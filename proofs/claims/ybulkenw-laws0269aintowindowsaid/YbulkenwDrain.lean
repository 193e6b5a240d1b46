/- The contracts of drainOne (15), drain (7) with no window, zzs0269aheld (8). -/
import Derived.Test.YbulkenwBuild
import Derived.Deep.QuietTactic
import Derived.BigQuiet
namespace Go.Proofs.Ybulkenw
open Go.RowKit

set_option maxRecDepth 100000 in
set_option maxHeartbeats 400000 in
theorem drainOne_nil (b o : Nat) (x y c : Int) (w : World) (hc : w.cell? ⟨b, o, none⟩ = some (.int .u64 x)) (hz : w.frozen? ⟨b, o, none⟩ = false)
    (h1 : bits .and .u64 x 16777215 = c) (h2 : 0 ≤ c) (h3 : c ≤ 65535) :
    Calls Yba.prog 15 #[.pointer (some ⟨b, o, none⟩), .pointer none, .int .u64 y] w fun e w' => e = .returned (.tuple #[]) ∧ w' = w.setCell ⟨b, o, none⟩ (.int .u64 y) := by
  go_enter Yba.func15, Yba.ntmps15
  go_wp2_with fail
  refine (swap_any b o x y w hc hz).mono ?_
  rintro e w1 ⟨rfl, rfl⟩
  go_wp2
  all_goals (go_end0; exact ⟨rfl, rfl⟩)

/-- The count in the word x fits. -/
def Okw (x : Int) : Prop := ∃ c, bits .and .u64 x 16777215 = c ∧ 0 ≤ c ∧ c ≤ 65535

set_option maxRecDepth 100000 in
set_option maxHeartbeats 400000 in
theorem drain_nil_one (b : Nat) (x y : Int) (w : World) (hs : Ss1 w b x) (hok : Okw x) :
    Calls Yba.prog 7 #[.pointer (some ⟨b, 0, none⟩), .pointer none, .int .u64 y] w fun e w' => e = .returned (.tuple #[]) ∧ w' = w.setCell ⟨b, 0, none⟩ (.int .u64 y) := by
  go_enter Yba.func7, Yba.ntmps7
  go_wp2_with fail
  obtain ⟨c, o1, o2, o3⟩ := hok
  refine (drainOne_nil b 0 x y c w hs.c0 hs.z0 o1 o2 o3).mono ?_
  rintro e w1 ⟨rfl, rfl⟩
  have h6 := (hs.base y).c6
  go_wp2
  go_end0
  exact ⟨rfl, rfl⟩

set_option maxRecDepth 100000 in
set_option maxHeartbeats 400000 in
theorem drain_nil_many (b hd row n : Nat) (f : Nat → Int) (y : Int) (w : World) (hs : Ssn w b hd row n f) (hok : ∀ i, i ≤ n → Okw (f i)) (hn8 : n ≤ 8) (B : Nat) (hB1 : B ≤ b) (hB2 : B ≤ row) :
    Calls Yba.prog 7 #[.pointer (some ⟨b, 0, none⟩), .pointer none, .int .u64 y] w fun e w' => e = .returned (.tuple #[]) ∧ Ssn w' b hd row n (fun _ => y) ∧ Below B w w' := by
  go_enter Yba.func7, Yba.ntmps7
  go_wp2_with fail
  obtain ⟨c, o1, o2, o3⟩ := hok 0 (by omega)
  refine (drainOne_nil b 0 _ y c w hs.c0 hs.z0 o1 o2 o3).mono ?_
  rintro e w1 ⟨rfl, rfl⟩
  clear o1 o2 o3
  have hs1 := hs.base y
  have hb1 : Below B w (w.setCell ⟨b, 0, none⟩ (.int .u64 y)) := (Below.refl B w).setCell hB1 _
  generalize w.setCell ⟨b, 0, none⟩ (.int .u64 y) = w1 at *
  have h6 := hs1.c6
  have hh := hs1.ch
  clear hs
  go_wp2
  clear h6 hh
  go_loopg [25] n (fun g s25 wr => ∃ q, q ≤ n ∧ g = n - q ∧ s25 = .int .i64 (q : Nat) ∧ Ssn wr b hd row n (fun i => if i ≤ q then y else f i) ∧ Below B w wr)
  case atStart => exact ⟨0, by omega, by omega, rfl, hs1.congr (by intro i _; by_cases e : i = 0 <;> simp [e]), hb1⟩
  case round =>
    clear hs1 hb1
    obtain ⟨q, hq, hg, rfl, hss, hbel⟩ := hrel
    have HG := hide hg
    clear hg
    have h6 := hss.c6
    have hh := hss.ch
    by_cases hlt : q < n
    · have hlt' : (q : Int) < (n : Int) := by omega
      go_wp2_with fail
      obtain ⟨c, o1, o2, o3⟩ := hok (q + 1) (by omega)
      refine (drainOne_nil row (q * 121) _ y c wr (hss.cr q hlt) (hss.zr q hlt) (by rw [if_neg (by omega)]; exact o1) o2 o3).mono ?_
      rintro e w2 ⟨rfl, rfl⟩
      clear h6 hh o1 o2 o3
      go_wp2
      go_roundg (n - (q + 1))
      case measure => have := HG.out; omega
      case rel =>
        refine ⟨q + 1, by omega, rfl, by go_num, (hss.stripe q hlt y).congr ?_, hbel.setCell hB2 _⟩
        intro i _
        by_cases e : i = q + 1
        · subst e; simp
        · by_cases e2 : i ≤ q
          · simp [e, e2, show i ≤ q + 1 by omega]
          · simp [e, e2, show ¬ i ≤ q + 1 by omega]
    · have hlt' : ¬ (q : Int) < (n : Int) := by omega
      go_wp2
      go_end0
      exact ⟨rfl, hss.congr (by intro i hi; simp; intro h; omega), hbel⟩

set_option maxRecDepth 100000 in
set_option maxHeartbeats 400000 in
theorem held_one (b : Nat) (y : Int) (w : World) (hs : Ss1 w b y) :
    Calls Yba.prog 8 #[.pointer (some ⟨b, 0, none⟩), .int .i64 1, .int .u64 y] w fun e w' => e = .returned (.bool true) ∧ w' = w := by
  have h6 := hs.c6
  have hne : (y != y) = false := bne_self_eq_false y
  go_enter Yba.func8, Yba.ntmps8
  go_wp2_with fail
  refine (load_any b 0 y w hs.c0).mono ?_
  rintro e w1 ⟨rfl, rfl⟩
  go_wp2
  go_ret
  exact ⟨rfl, rfl⟩

set_option maxRecDepth 100000 in
set_option maxHeartbeats 400000 in
theorem held_many (b hd row n : Nat) (y M : Int) (w : World) (hs : Ssn w b hd row n (fun _ => y)) (hM : M = (n : Int) + 1) (hn2 : 2 ≤ n) (hn8 : n ≤ 8) :
    Calls Yba.prog 8 #[.pointer (some ⟨b, 0, none⟩), .int .i64 M, .int .u64 y] w fun e w' => e = .returned (.bool true) ∧ w' = w := by
  subst hM
  have h6 := hs.c6
  have hh := hs.ch
  have hne : (y != y) = false := bne_self_eq_false y
  have hne1 : (((n : Int) + 1) == 1) = false := by simp; omega
  go_enter Yba.func8, Yba.ntmps8
  go_wp2_with fail
  refine (load_any b 0 y w hs.c0).mono ?_
  rintro e w1 ⟨rfl, rfl⟩
  go_wp2
  go_loop [7] (fun s7 => ∃ q : Nat, q ≤ n ∧ s7 = .int .i64 q) (fun s7 => n - (intOf s7).toNat)
  case atStart => exact ⟨0, by omega, rfl⟩
  case round =>
    obtain ⟨q, hq, rfl⟩ := hrel
    by_cases hlt : q < n
    · have hlt' : (q : Int) < (n : Int) := by omega
      go_wp2_with fail
      refine (load_any row (q * 121) y _ (hs.cr q hlt)).mono ?_
      rintro e w2 ⟨rfl, rfl⟩
      go_wp2
      go_round
      case rel => exact ⟨q + 1, by omega, by go_num⟩
      case measure => simp [intOf]; omega
    · have hlt' : ¬ (q : Int) < (n : Int) := by omega
      go_wp2
      go_ret
      exact ⟨rfl, rfl⟩
end Go.Proofs.Ybulkenw
