/- Small laws that speak of no program: frames. -/
import Derived.LaidEql
import Derived.WalkKit
import Derived.WalkSpells
import Derived.Deep.RegionHeld3
import Derived.Deep.AppendLies
namespace Go.Proofs.Ybulkenw
open Go Go.RowKit

theorem hide {p : Prop} (h : p) : Hid p := h

theorem ownsRow_some {w : World} {base : Nat} {e : TypeId} {size : Nat} {v : Value} {n : Nat} {xs : List Value} (h : w.ownsRow base e size v n xs) (hn : 0 < n) : ∃ g cap, v = .slice (some ⟨g, 0, none⟩) n cap ∧ base ≤ g ∧ g < w.heap.size := by
  rcases h.2 with ⟨_, h0⟩ | ⟨g, cap, cur, rfl, hb, hg, _⟩
  · omega
  · exact ⟨g, cap, rfl, hb, lt_of_block hg⟩

/-- From w to w' new blocks have come, and block L alone has been written. -/
theorem grownBy_trans {a b c : World} {row : Option Nat} (h : a.grownBy b row) (k : b.grownBy c row) : a.grownBy c row :=
  ⟨k.os.trans h.os, k.tape.trans h.tape, k.output.trans h.output, Nat.le_trans h.size k.size, fun i hi hne => (k.block i (Nat.lt_of_lt_of_le hi h.size) hne).trans (h.block i hi hne)⟩
theorem grownBy_none {a b : World} (h : a.grownBy b none) (row : Option Nat) : a.grownBy b row := ⟨h.os, h.tape, h.output, h.size, fun i hi _ => h.block i hi (by simp)⟩
theorem grownBy_new {a b : World} {k : Nat} (h : a.grownBy b (some k)) {w : World} (hw : w.heap.size ≤ k) (row : Option Nat) (h0 : w.grownBy a row) : w.grownBy b row :=
  ⟨h.os.trans h0.os, h.tape.trans h0.tape, h.output.trans h0.output, Nat.le_trans h0.size h.size, fun i hi hne => (h.block i (Nat.lt_of_lt_of_le hi h0.size) (by simp; omega)).trans (h0.block i hi hne)⟩
theorem grownBy_set (w : World) (L o : Nat) (v : Value) : w.grownBy (w.setCell ⟨L, o, none⟩ v) (some L) :=
  ⟨rfl, rfl, rfl, by simp, fun k _ hk => Below.heap_setCell _ _ _ _ (fun e => hk (by simp [e]))⟩
theorem grownBy_drew {a b : World} {row : Option Nat} (h : a.grownBy b row) : a.grownBy b.drew row := ⟨h.os, h.tape, h.output, h.size, h.block⟩
theorem grownBy_below {a b : World} {L B : Nat} (h : a.grownBy b (some L)) (hB : B ≤ L) (hs : B ≤ a.heap.size) : Below B a b :=
  ⟨h.os, h.tape, h.output, h.size, fun k hk => h.block k (by omega) (by simp; omega)⟩
theorem grownBy_cell {a b : World} {row : Option Nat} (h : a.grownBy b row) {p : Addr} (hp : p.block < a.heap.size) (hne : some p.block ≠ row) : b.cell? p = a.cell? p := World.cell?_of_block (h.block p.block hp hne)
theorem grownBy_frozen {a b : World} {row : Option Nat} (h : a.grownBy b row) {p : Addr} (hp : p.block < a.heap.size) (hne : some p.block ≠ row) : b.frozen? p = a.frozen? p := World.frozen?_of_block (h.block p.block hp hne)
end Go.Proofs.Ybulkenw
