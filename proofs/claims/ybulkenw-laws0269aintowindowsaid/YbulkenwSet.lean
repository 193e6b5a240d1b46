/- A stripe set in memory; the contract of newStripeSet (13). -/
import Derived.Test.YbulkenwAtomic
namespace Go.Proofs.Ybulkenw
open Go.RowKit

/-- A set of n stripes of their own: the set at block b, the slice's header at block hd, the stripes at block row: stripe 0 is the base. -/
structure Ssn (w : World) (b hd row n : Nat) (f : Nat → Int) : Prop where
  c0 : w.cell? ⟨b, 0, none⟩ = some (.int .u64 (f 0))
  z0 : w.frozen? ⟨b, 0, none⟩ = false
  c6 : w.cell? ⟨b, 6, none⟩ = some (.pointer (some ⟨hd, 0, none⟩))
  ch : w.cell? ⟨hd, 0, none⟩ = some (.slice (some ⟨row, 0, none⟩) n n)
  cr : ∀ i, i < n → w.cell? ⟨row, i * 121, none⟩ = some (.int .u64 (f (i + 1)))
  zr : ∀ i, i < n → w.frozen? ⟨row, i * 121, none⟩ = false
  ne1 : b ≠ row
  ne2 : hd ≠ row
  ne3 : hd ≠ b

/-- A set without cells. -/
structure Ss1 (w : World) (b : Nat) (x : Int) : Prop where
  c0 : w.cell? ⟨b, 0, none⟩ = some (.int .u64 x)
  z0 : w.frozen? ⟨b, 0, none⟩ = false
  c6 : w.cell? ⟨b, 6, none⟩ = some (.pointer none)

theorem cell_set_block (w : World) (a c : Nat) (o p : Nat) (v : Value) (h : a ≠ c) : (w.setCell ⟨a, o, none⟩ v).cell? ⟨c, p, none⟩ = w.cell? ⟨c, p, none⟩ :=
  World.cell?_setCell_other w ⟨a, o, none⟩ ⟨c, p, none⟩ v (fun e => h (by injection e))
theorem cell_set_off (w : World) (a c : Nat) (o p : Nat) (v : Value) (h : o ≠ p) : (w.setCell ⟨a, o, none⟩ v).cell? ⟨c, p, none⟩ = w.cell? ⟨c, p, none⟩ :=
  World.cell?_setCell_other w ⟨a, o, none⟩ ⟨c, p, none⟩ v (fun e => h (by injection e))

theorem Ssn.base {w : World} {b hd row n : Nat} {f : Nat → Int} (h : Ssn w b hd row n f) (v : Int) : Ssn (w.setCell ⟨b, 0, none⟩ (.int .u64 v)) b hd row n (fun i => if i = 0 then v else f i) where
  c0 := World.cell?_setCell_same _ _ _ h.c0
  z0 := (World.frozen?_setCell _ _ _ _).trans h.z0
  c6 := (cell_set_off _ _ _ _ _ _ (by omega)).trans h.c6
  ch := (cell_set_block _ _ _ _ _ _ (Ne.symm h.ne3)).trans h.ch
  cr := fun i hi => (cell_set_block _ _ _ _ _ _ h.ne1).trans (by simpa using h.cr i hi)
  zr := fun i hi => (World.frozen?_setCell _ _ _ _).trans (h.zr i hi)
  ne1 := h.ne1
  ne2 := h.ne2
  ne3 := h.ne3

theorem Ssn.stripe {w : World} {b hd row n : Nat} {f : Nat → Int} (h : Ssn w b hd row n f) (k : Nat) (hk : k < n) (v : Int) : Ssn (w.setCell ⟨row, k * 121, none⟩ (.int .u64 v)) b hd row n (fun i => if i = k + 1 then v else f i) where
  c0 := (cell_set_block _ _ _ _ _ _ (Ne.symm h.ne1)).trans (by simpa using h.c0)
  z0 := (World.frozen?_setCell _ _ _ _).trans h.z0
  c6 := (cell_set_block _ _ _ _ _ _ (Ne.symm h.ne1)).trans h.c6
  ch := (cell_set_block _ _ _ _ _ _ (Ne.symm h.ne2)).trans h.ch
  cr := fun i hi => by
    by_cases e : i = k
    · subst e
      simpa using World.cell?_setCell_same _ _ (.int .u64 v) (h.cr i hi)
    · rw [cell_set_off _ _ _ _ _ _ (by omega), h.cr i hi]
      simp [e]
  zr := fun i hi => (World.frozen?_setCell _ _ _ _).trans (h.zr i hi)
  ne1 := h.ne1
  ne2 := h.ne2
  ne3 := h.ne3

/-- Whatever else turns. -/
theorem Ssn.far {w w' : World} {b hd row n : Nat} {f : Nat → Int} (h : Ssn w b hd row n f) (hb : w'.heap[b]? = w.heap[b]?) (hh : w'.heap[hd]? = w.heap[hd]?) (hr : w'.heap[row]? = w.heap[row]?) : Ssn w' b hd row n f where
  c0 := (World.cell?_of_block (by exact hb)).trans h.c0
  z0 := (World.frozen?_of_block (by exact hb)).trans h.z0
  c6 := (World.cell?_of_block (by exact hb)).trans h.c6
  ch := (World.cell?_of_block (by exact hh)).trans h.ch
  cr := fun i hi => (World.cell?_of_block (by exact hr)).trans (h.cr i hi)
  zr := fun i hi => (World.frozen?_of_block (by exact hr)).trans (h.zr i hi)
  ne1 := h.ne1
  ne2 := h.ne2
  ne3 := h.ne3
theorem Ss1.far {w w' : World} {b : Nat} {x : Int} (h : Ss1 w b x) (hb : w'.heap[b]? = w.heap[b]?) : Ss1 w' b x where
  c0 := (World.cell?_of_block (by exact hb)).trans h.c0
  z0 := (World.frozen?_of_block (by exact hb)).trans h.z0
  c6 := (World.cell?_of_block (by exact hb)).trans h.c6
theorem Ss1.base {w : World} {b : Nat} {x : Int} (h : Ss1 w b x) (v : Int) : Ss1 (w.setCell ⟨b, 0, none⟩ (.int .u64 v)) b v where
  c0 := World.cell?_setCell_same _ _ _ h.c0
  z0 := (World.frozen?_setCell _ _ _ _).trans h.z0
  c6 := (cell_set_off _ _ _ _ _ _ (by omega)).trans h.c6
theorem Ssn.congr {w : World} {b hd row n : Nat} {f g : Nat → Int} (h : Ssn w b hd row n f) (e : ∀ i, i ≤ n → f i = g i) : Ssn w b hd row n g where
  c0 := by rw [← e 0 (by omega)]; exact h.c0
  z0 := h.z0
  c6 := h.c6
  ch := h.ch
  cr := fun i hi => by rw [← e (i + 1) (by omega)]; exact h.cr i hi
  zr := h.zr
  ne1 := h.ne1
  ne2 := h.ne2
  ne3 := h.ne3

def aggParts : Option Value → Option (Nat × Value)
  | some (.agg cs) => some (cs.size, cs[0]!)
  | _ => none
theorem Yba.info75 : (Yba.prog.info? 75).map (fun i => (i.size, i.bytes, aggParts i.zero)) = some (121, 128, some (121, .int .u64 0)) := by kernel_rfl

theorem info75_parts : ∃ i cs, Yba.prog.info? 75 = some i ∧ i.zero = some (.agg cs) ∧ i.size = 121 ∧ i.bytes = 128 ∧ cs.size = 121 ∧ cs[0]! = .int .u64 0 := by
  obtain ⟨i, hi, h⟩ := Option.map_eq_some_iff.1 Yba.info75
  simp only [Prod.mk.injEq] at h
  obtain ⟨h1, h2, h3⟩ := h
  have key : ∀ o : Option Value, aggParts o = some (121, Value.int .u64 0) → ∃ cs, o = some (.agg cs) ∧ cs.size = 121 ∧ cs[0]! = .int .u64 0 := by
    intro o ho
    match o, ho with
    | some (.agg cs), ho =>
      simp only [aggParts, Option.some.injEq, Prod.mk.injEq] at ho
      exact ⟨cs, rfl, ho.1, ho.2⟩
  obtain ⟨cs, h4, h5, h6⟩ := key _ h3
  exact ⟨i, cs, hi, h4, h1, h2, h5, h6⟩

theorem made_at (z : Array Value) (hz : z.size = 121) (n i : Nat) (hi : i < n) : (madeCells z (n * 121)).toList[i * 121]? = some (z[0]!) := by
  have h : i * 121 < n * 121 := by omega
  have e : i * 121 % 121 = 0 := by omega
  simp [madeCells, h, hz, e]

set_option maxRecDepth 100000 in
set_option maxHeartbeats 400000 in
theorem newset_one (N : Int) (hN : N ≤ 1) (w : World) :
    Calls Yba.prog 13 #[.int .u64 0, .agg #[.int .u64 0, .int .i64 0, .pointer none], .int .i64 1000000, .int .i64 N] w fun e w' => ∃ b, e = .returned (.pointer (some ⟨b, 0, none⟩)) ∧ Ss1 w' b 0 ∧ w.heap.size ≤ b ∧ b < w'.heap.size ∧ Below w.heap.size w w' := by
  go_enter Yba.func13, Yba.ntmps13
  go_wp2
  go_ret
  exact ⟨w.heap.size + 1, by simp, ⟨by simp, by simp, by simp⟩, by omega, by simp, ((Below.refl _ _).alloc (Nat.le_refl _) _).alloc (by simp) _⟩

set_option maxRecDepth 100000 in
set_option maxHeartbeats 400000 in
theorem newset_many (N : Int) (n : Nat) (hN : N = n) (hn : 2 ≤ n) (hn8 : n ≤ 8) (w : World) :
    Calls Yba.prog 13 #[.int .u64 0, .agg #[.int .u64 0, .int .i64 0, .pointer none], .int .i64 1000000, .int .i64 N] w fun e w' => ∃ b hd row, e = .returned (.pointer (some ⟨b, 0, none⟩)) ∧ Ssn w' b hd row n (fun _ => 0) ∧ w.heap.size ≤ b ∧ w.heap.size ≤ hd ∧ w.heap.size ≤ row ∧ b < w'.heap.size ∧ hd < w'.heap.size ∧ row < w'.heap.size ∧ Below w.heap.size w w' := by
  obtain ⟨i, cs, hi, hz0, hz1, hz2, hzs, hz3⟩ := info75_parts
  have HZ := hide (And.intro hzs hz3)
  clear hzs hz3
  have h1 : 1 < N := by omega
  have HN : Hid (N = n) := hN
  clear hN
  go_enter Yba.func13, Yba.ntmps13
  go_wp2_with (at_make; refine wpList_make_full _ rfl (.tmp 18) (.tmp 18) 76 rfl (w.heap.size + 2) 75 i (.agg cs) 121 Yba.underlying76 hi hz0 hz1 .i64 .i64 _ _ n rfl rfl HN.out HN.out (by rw [hz2]; omega) (by unfold maxLen; omega) (by simp) ?_)
  intro w1 hown hgrow
  have hlt : w.heap.size + 1 + 1 < w1.heap.size := (hown.lt _ rfl).2
  have hc6 : w1.cell? ⟨w.heap.size + 1, 6, none⟩ = some (.pointer none) := hgrow.cell (a := ⟨w.heap.size + 1, 6, none⟩) (by simp) (by simp)
  have hf6 : w1.frozen? ⟨w.heap.size + 1, 6, none⟩ = false := by
    rw [grownBy_frozen hgrow (p := ⟨w.heap.size + 1, 6, none⟩) (by simp) (by simp)]; simp
  have hc0 : w1.cell? ⟨w.heap.size + 1, 0, none⟩ = some (.int .u64 0) := hgrow.cell (a := ⟨w.heap.size + 1, 0, none⟩) (by simp) (by simp)
  have hf0 : w1.frozen? ⟨w.heap.size + 1, 0, none⟩ = false := by
    rw [grownBy_frozen hgrow (p := ⟨w.heap.size + 1, 0, none⟩) (by simp) (by simp)]; simp
  have hb1 : Below w.heap.size w w1 := (((Below.refl w.heap.size w).alloc (Nat.le_refl _) _).alloc (by simp) _).grown hgrow (by simp; omega) (by simp)
  have HO := hide hown
  clear hgrow hown
  have hlt1 : w.heap.size + 1 < w1.heap.size := by omega
  go_wp2
  go_ret
  have hs : (w1.setCell ⟨w.heap.size + 1, 6, none⟩ (.pointer (some ⟨w1.heap.size, 0, none⟩))).heap.size = w1.heap.size := by simp
  refine ⟨w.heap.size + 1, w1.heap.size, w.heap.size + 1 + 1, by simp, ⟨?_, ?_, ?_, ?_, ?_, ?_, by omega, by omega, by omega⟩, by omega, by omega, by omega, by simp; omega, by simp, by simp; omega, ?_⟩
  · exact (World.cell?_alloc_past _ _ _ (by rw [hs]; exact hlt1)).trans ((cell_set_off _ _ _ _ _ _ (by omega)).trans hc0)
  · exact (World.frozen?_alloc_past _ _ _ (by rw [hs]; exact hlt1)).trans ((World.frozen?_setCell _ _ _ _).trans hf0)
  · exact (World.cell?_alloc_past _ _ _ (by rw [hs]; exact hlt1)).trans (World.cell?_setCell_same _ _ _ hc6)
  · rw [World.cell?_alloc_at _ _ _ _ hs.symm]; rfl
  · intro i hi
    rw [World.cell?_alloc_past _ _ _ (by rw [hs]; exact hlt), cell_set_block _ _ _ _ _ _ (by omega), HO.out.cellAt _ (by omega)]
    exact (made_at cs HZ.out.1 n i hi).trans (by rw [HZ.out.2])
  · intro i hi
    rw [World.frozen?_alloc_past _ _ _ (by rw [hs]; exact hlt), World.frozen?_setCell]
    exact HO.out.frozenAt _
  · exact (hb1.setCell (by show w.heap.size ≤ w.heap.size + 1; omega) _).alloc (by rw [hs]; omega) _
end Go.Proofs.Ybulkenw
