/- The argument 'recv []bool', opened. -/
import Derived.Test.YbulkemuBad
import Derived.OpenShut
import Derived.Deep.Slices
namespace Go.Proofs.Ybulkemu
open Go.RowKit Go.Deep

theorem Yba.cells4 : Yba.prog.cellsOf 4 = 1 := by kernel_rfl

theorem open_flags {H : Type} {enc : TypeId × Value → H} {W : World} {fuel : Nat} {a : Option Addr} {len cap : Nat} {x : DataW H × List MemPlace}
    (h : DataW.trod enc Yba.prog W 0 (fun _ => true) true fuel 31 [.slice a len cap] = some x) : ∃ Z, InB W a len Z ∧ (a = none → len = 0 ∧ cap = 0) := by
  rcases open_slice1 Yba.underlying31 Yba.cells4 h with ⟨hc, _⟩ | ⟨ad, l, c, m, n, V0, D, Pl, hc, _, hl, _, hm, _, hall⟩
  · simp only [List.cons.injEq, Value.slice.injEq, and_true] at hc
    obtain ⟨rfl, rfl, rfl⟩ := hc
    exact ⟨fun _ => false, by intro h; omega, fun _ => ⟨rfl, rfl⟩⟩
  · simp only [List.cons.injEq, Value.slice.injEq, and_true] at hc
    obtain ⟨rfl, rfl, rfl⟩ := hc
    simp only [if_true] at hm
    subst hm
    refine ⟨fun k => match V0 k with | .bool b => b | _ => false, ?_, by intro h; cases h⟩
    intro hpos
    obtain ⟨b, o, spot⟩ := ad
    have hspot : spot = none := by simpa [Addr.add] using World.cell?_spot (hall 0 (by omega)).1
    subst hspot
    refine ⟨b, o, rfl, ?_, ?_⟩
    · exact World.block_lt_of_cell? W _ (by simpa [Addr.add] using (hall 0 (by omega)).1)
    · intro k hk
      obtain ⟨h1, h2⟩ := hall k (by omega)
      obtain ⟨z0, e0, _⟩ := DataW.trod_bool Yba.underlying4 h2
      simp only [List.cons.injEq, and_true] at e0
      rw [e0] at h1
      dsimp only
      rw [e0]
      rw [Addr.add_lit] at h1
      exact h1
end Go.Proofs.Ybulkemu
