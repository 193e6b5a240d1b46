/- The argument 'peers []ZzS0267CPeer', opened. -/
import Derived.Test.YbulkemuPic
import Derived.OpenShut
import Derived.Deep.SlicePairs
namespace Go.Proofs.Ybulkemu
open Go.RowKit Go.Deep

theorem Yba.cells49 : Yba.prog.cellsOf 49 = 2 := by kernel_rfl
theorem Yba.cells23 : Yba.prog.cellsOf 23 = 1 := by kernel_rfl
theorem Yba.cells3 : Yba.prog.cellsOf 3 = 1 := by kernel_rfl

theorem open_peers {H : Type} {enc : TypeId × Value → H} {W : World} {fuel : Nat} {a : Option Addr} {len cap : Nat} {x : DataW H × List MemPlace}
    (h : DataW.trod enc Yba.prog W 0 (fun _ => true) true fuel 24 [.slice a len cap] = some x) : ∃ M V, InP W a len M V := by
  rcases open_slice_pairs Yba.underlying24 Yba.underlying49 Yba.cells49 rfl rfl Yba.cells23 Yba.cells3 h with ⟨hc, _⟩ | ⟨ad, l, c, m, n, V0, V1, D0, D1, P0, P1, hc, _, hl, _, hm, _, hall⟩
  · simp only [List.cons.injEq, Value.slice.injEq, and_true] at hc
    obtain ⟨rfl, rfl, rfl⟩ := hc
    exact ⟨fun _ => 0, fun _ => 0, by intro h; omega, by intro k; simp⟩
  · simp only [List.cons.injEq, Value.slice.injEq, and_true] at hc
    obtain ⟨rfl, rfl, rfl⟩ := hc
    simp only [if_true] at hm
    subst hm
    refine ⟨fun k => if k < len then intOf (V0 k) else 0, fun k => intOf (V1 k), ?_, ?_⟩
    · intro hpos
      obtain ⟨b, o, spot⟩ := ad
      have hspot : spot = none := by simpa [Addr.add] using World.cell?_spot (hall 0 (by omega)).1
      subst hspot
      refine ⟨b, o, rfl, ?_, ?_⟩
      · exact World.block_lt_of_cell? W _ (by simpa [Addr.add] using (hall 0 (by omega)).1)
      · intro k hk
        obtain ⟨h1, h2, h3, h4⟩ := hall k (by omega)
        obtain ⟨z0, e0, _, _⟩ := DataW.trod_int Yba.underlying23 h3
        obtain ⟨z1, e1, _, _⟩ := DataW.trod_int Yba.underlying3 h4
        simp only [List.cons.injEq, and_true] at e0 e1
        rw [e0] at h1
        rw [e1] at h2
        have hk' : (if k < len then intOf (V0 k) else 0) = z0 := by rw [if_pos hk, e0]; rfl
        dsimp only
        refine ⟨?_, ?_⟩
        · rw [hk']; rw [Addr.add_lit] at h1; exact h1
        · rw [e1]; rw [Addr.add_lit] at h2; exact h2
    · intro k
      dsimp only
      by_cases hk : k < len
      · obtain ⟨h1, h2, h3, h4⟩ := hall k (by omega)
        obtain ⟨z0, e0, _, wf⟩ := DataW.trod_int Yba.underlying23 h3
        simp only [List.cons.injEq, and_true] at e0
        have := bounds_u64 wf
        rw [if_pos hk, e0]
        exact this
      · rw [if_neg hk]
        omega
end Go.Proofs.Ybulkemu
