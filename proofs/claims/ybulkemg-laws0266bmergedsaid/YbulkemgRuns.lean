/- The runs in memory; (*class).last (9). -/
import Derived.Test.YbulkemgParts
import Derived.Deep.AppendLies
import Derived.Deep.RegionHeld3
namespace Go.Proofs.Ybulkemg
open Go Go.RowKit

/-- The runs as they lie: rb the row of runs, C r run r's class, G r its row of accesses. -/
structure Rn (w : World) (R : Rs) (rb : Nat) (C G : Nat → Nat) (T : Nat → Int) : Prop where
  runs : ∀ r, r < R.m → ∃ cs, Blk w rb 63 cs ∧ cs[r * 3]? = some (.int .i64 (T r)) ∧ cs[r * 3 + 1]? = some (.pointer (some ⟨C r, 0, none⟩)) ∧ cs[r * 3 + 2]? = some (.int .i64 (R.F r))
  cls : ∀ r, r < R.m → ∃ cs cap, Blk w (C r) 48 cs ∧ cs[4]? = some (.slice (some ⟨G r, 0, none⟩) (R.N r) cap)
  acc : ∀ r, r < R.m → ∃ cs, Blk w (G r) 50 cs ∧ ∀ j, j < R.N r → cs[j * 2]? = some (.int .i64 (R.A r j))

section
variable {w w' : World} {R : Rs} {rb : Nat} {C G : Nat → Nat} {T : Nat → Int}
theorem Rn.keep (h : Rn w R rb C G T) {B : Nat} {L : List TypeId} (hk : KX B L w w') (h1 : 63 ∉ L) (h2 : 48 ∉ L) (h3 : 50 ∉ L) : Rn w' R rb C G T where
  runs := fun r hr => let ⟨cs, a, b⟩ := h.runs r hr; ⟨cs, hk.blk a h1, b⟩
  cls := fun r hr => let ⟨cs, cap, a, b⟩ := h.cls r hr; ⟨cs, cap, hk.blk a h2, b⟩
  acc := fun r hr => let ⟨cs, a, b⟩ := h.acc r hr; ⟨cs, hk.blk a h3, b⟩
theorem Rn.run (h : Rn w R rb C G T) {r : Nat} (hr : r < R.m) : w.cell? ⟨rb, r * 3, none⟩ = some (.int .i64 (T r)) ∧ w.cell? ⟨rb, r * 3 + 1, none⟩ = some (.pointer (some ⟨C r, 0, none⟩)) ∧ w.cell? ⟨rb, r * 3 + 2, none⟩ = some (.int .i64 (R.F r)) := by
  obtain ⟨cs, a, b⟩ := h.runs r hr
  rw [a.cell, a.cell, a.cell]
  exact b
theorem Rn.cl (h : Rn w R rb C G T) {r : Nat} (hr : r < R.m) : ∃ cap, w.cell? ⟨C r, 4, none⟩ = some (.slice (some ⟨G r, 0, none⟩) (R.N r) cap) := by
  obtain ⟨cs, cap, a, b⟩ := h.cls r hr
  exact ⟨cap, by rw [a.cell]; exact b⟩
theorem Rn.line (h : Rn w R rb C G T) {r j : Nat} (hr : r < R.m) (hj : j < R.N r) : w.cell? ⟨G r, j * 2, none⟩ = some (.int .i64 (R.A r j)) := by
  obtain ⟨cs, a, b⟩ := h.acc r hr
  rw [a.cell]
  exact b j hj
end

set_option maxRecDepth 100000 in
set_option maxHeartbeats 400000 in
theorem last_walk (c g n cap : Nat) (x : Int) (w : World) (hn : 0 < n) (hn2 : n ≤ 1024) (h1 : w.cell? ⟨c, 4, none⟩ = some (.slice (some ⟨g, 0, none⟩) n cap)) (h2 : w.cell? ⟨g, (n - 1) * 2, none⟩ = some (.int .i64 x)) :
    Calls Yba.prog 9 #[.pointer (some ⟨c, 0, none⟩)] w fun e w' => e = .returned (.int .i64 x) ∧ ∃ k, w' = w.drewN k := by
  obtain ⟨q, hq⟩ : ∃ q : Nat, (n : Int) - 1 = (q : Nat) := ⟨n - 1, by omega⟩
  obtain rfl : q = n - 1 := by omega
  have hlt : n - 1 < n := by omega
  generalize n - 1 = q at *
  go_enter Yba.func9, Yba.ntmps9
  go_wp2
  go_quiet (fail)
  go_wp2
  go_ret
  exact ⟨rfl, _, rfl⟩

/-- Parts as cells. -/
def cellsP (ps : List Pt) : List Value := ps.flatMap fun p => [.int .i64 p.1, .int .i64 p.2.1, .int .i64 p.2.2]
theorem cellsP_snoc (ps : List Pt) (p : Pt) : cellsP (ps ++ [p]) = cellsP ps ++ [.int .i64 p.1, .int .i64 p.2.1, .int .i64 p.2.2] := by simp [cellsP]

theorem Yba.info61 : (Yba.prog.info? 61).map (fun i => (i.zero, i.size, i.bytes)) = some (some (.agg #[.int .i64 0, .int .i64 0, .int .i64 0]), 3, 24) := by kernel_rfl
theorem Yba.info68 : (Yba.prog.info? 68).map (fun i => (i.zero, i.size, i.bytes)) = some (some (.agg #[.int .i64 0, .int .i64 0, .int .i64 0]), 3, 24) := by kernel_rfl
theorem Yba.info63 : (Yba.prog.info? 63).map (fun i => (i.zero, i.size, i.bytes)) = some (some (.agg #[.int .i64 0, .pointer none, .int .i64 0]), 3, 24) := by kernel_rfl
end Go.Proofs.Ybulkemg
