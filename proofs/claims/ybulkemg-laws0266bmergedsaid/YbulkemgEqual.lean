/- slices.Equal[[]int, int] (8), of two rows that hold the same numbers. -/
import Derived.Test.YbulkemgHeap
namespace Go.Proofs.Ybulkemg
open Go Go.RowKit

set_option maxRecDepth 100000 in
set_option maxHeartbeats 400000 in
theorem equal_walk (a1 a2 : Option Addr) (b1 b2 n c1 c2 : Nat) (f : Nat → Int) (w : World) (hn : n ≤ 1048576) (h1 : 0 < n → a1 = some ⟨b1, 0, none⟩) (h2 : 0 < n → a2 = some ⟨b2, 0, none⟩)
    (k1 : ∀ j, j < n → w.cell? ⟨b1, j, none⟩ = some (.int .i64 (f j))) (k2 : ∀ j, j < n → w.cell? ⟨b2, j, none⟩ = some (.int .i64 (f j))) :
    Calls Yba.prog 8 #[.slice a1 n c1, .slice a2 n c2] w fun e w' => e = .returned (.bool true) ∧ ∃ k, w' = w.drewN k := by
  go_enter Yba.func8, Yba.ntmps8
  go_wp2_with fail
  go_loopg [13] n (fun g s13 wr => ∃ i q, i ≤ n ∧ Hid (g = n - i) ∧ s13 = .int .i64 (i : Nat) ∧ wr = w.drewN q)
  case atStart => exact ⟨0, 0, Nat.zero_le _, rfl, rfl, rfl⟩
  case round =>
    obtain ⟨i, q, hi, HG, rfl, rfl⟩ := hrel
    by_cases hlt : i < n
    · have hlt' : (i : Int) < (n : Int) := by omega
      obtain rfl := h1 (by omega)
      obtain rfl := h2 (by omega)
      have e1 := k1 i hlt
      have e2 := k2 i hlt
      go_wp2_with fail
      go_quiet (fail)
      go_wp2
      go_roundg (n - (i + 1))
      case measure => have := HG.out; omega
      case rel => exact ⟨i + 1, _, by omega, rfl, by go_num, rfl⟩
    · have hlt' : ¬ (i : Int) < (n : Int) := by omega
      go_wp2
      go_ret
      exact ⟨rfl, _, rfl⟩
end Go.Proofs.Ybulkemg
