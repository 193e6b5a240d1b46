/- A window in memory, its plain functions, the contract of reset (21). -/
import Derived.Test.YbulkenwSet
import Derived.Lib.SliceRun
import Derived.Deep.Draws
namespace Go.Proofs.Ybulkenw
open Go.RowKit

/-- From w to w' the blocks p and r alone have been written. -/
structure Tch (p r : Nat) (w w' : World) : Prop where
  os : w'.os = w.os
  tape : w'.tape = w.tape
  output : w'.output = w.output
  size : w.heap.size ≤ w'.heap.size
  block : ∀ k, k < w.heap.size → k ≠ p → k ≠ r → w'.heap[k]? = w.heap[k]?

theorem Tch.refl (p r : Nat) (w : World) : Tch p r w w := ⟨rfl, rfl, rfl, Nat.le_refl _, fun _ _ _ _ => rfl⟩
theorem Tch.trans {p r : Nat} {a b c : World} (h : Tch p r a b) (k : Tch p r b c) : Tch p r a c :=
  ⟨k.os.trans h.os, k.tape.trans h.tape, k.output.trans h.output, Nat.le_trans h.size k.size, fun i hi h1 h2 => (k.block i (Nat.lt_of_lt_of_le hi h.size) h1 h2).trans (h.block i hi h1 h2)⟩
theorem Tch.drew {p r : Nat} {a w : World} (h : Tch p r a w) : Tch p r a w.drew := ⟨h.os, h.tape, h.output, h.size, h.block⟩
theorem Tch.drewN {p r : Nat} {a w : World} (h : Tch p r a w) (n : Nat) : Tch p r a (w.drewN n) := ⟨h.os, h.tape, h.output, h.size, h.block⟩
theorem Tch.first {p r : Nat} {a w : World} (h : Tch p r a w) (o : Nat) (v : Value) : Tch p r a (w.setCell ⟨p, o, none⟩ v) :=
  h.trans ⟨rfl, rfl, rfl, by simp, fun k _ h1 _ => Below.heap_setCell _ _ _ _ (fun e => h1 e)⟩
theorem Tch.second {p r : Nat} {a w : World} (h : Tch p r a w) (o : Nat) (v : Value) : Tch p r a (w.setCell ⟨r, o, none⟩ v) :=
  h.trans ⟨rfl, rfl, rfl, by simp, fun k _ _ h2 => Below.heap_setCell _ _ _ _ (fun e => h2 e)⟩
theorem Tch.seconds {p r : Nat} {a : World} : ∀ (vs : List Value) (o : Nat) {w : World}, Tch p r a w → Tch p r a (w.setCells r o vs)
  | [], _, _, h => h
  | _ :: vs, o, _, h => Tch.seconds vs (o + 1) (h.second o _)
theorem Tch.below {p r : Nat} {w w' : World} (h : Tch p r w w') {B : Nat} (h1 : B ≤ p) (h2 : B ≤ r) (hB : B ≤ w.heap.size) : Below B w w' :=
  ⟨h.os, h.tape, h.output, h.size, fun k hk => h.block k (by omega) (by omega) (by omega)⟩

/-- What a window holds: the head, the four totals, the buckets' cells (three a bucket). -/
structure WS where
  head : Int
  s : Int
  f : Int
  t : Int
  c : Int
  bk : Nat → Int

/-- The window at block p, its k buckets at block r, holds σ. -/
structure Win (w : World) (p r k : Nat) (σ : WS) : Prop where
  c4 : w.cell? ⟨p, 4, none⟩ = some (.slice (some ⟨r, 0, none⟩) k k)
  c5 : w.cell? ⟨p, 5, none⟩ = some (.int .i64 σ.head)
  c6 : w.cell? ⟨p, 6, none⟩ = some (.int .i64 σ.s)
  c7 : w.cell? ⟨p, 7, none⟩ = some (.int .i64 σ.f)
  c8 : w.cell? ⟨p, 8, none⟩ = some (.int .i64 σ.t)
  c9 : w.cell? ⟨p, 9, none⟩ = some (.int .i64 σ.c)
  cb : ∀ j, j < k * 3 → w.cell? ⟨r, j, none⟩ = some (.int .u32 (σ.bk j))
  zp : ∀ j, w.frozen? ⟨p, j, none⟩ = false
  zr : ∀ j, w.frozen? ⟨r, j, none⟩ = false
  ne : p ≠ r
  kb : 1 ≤ k ∧ k ≤ 8
  h0 : 0 ≤ σ.head ∧ σ.head ≤ 65535
  bb : ∀ j, 0 ≤ σ.bk j ∧ σ.bk j ≤ 4294967295

theorem Win.drew {w : World} {p r k : Nat} {σ : WS} (h : Win w p r k σ) : Win w.drew p r k σ := ⟨h.c4, h.c5, h.c6, h.c7, h.c8, h.c9, h.cb, h.zp, h.zr, h.ne, h.kb, h.h0, h.bb⟩
theorem Win.drewN {w : World} {p r k : Nat} {σ : WS} (h : Win w p r k σ) (n : Nat) : Win (w.drewN n) p r k σ := ⟨h.c4, h.c5, h.c6, h.c7, h.c8, h.c9, h.cb, h.zp, h.zr, h.ne, h.kb, h.h0, h.bb⟩
theorem Win.far {w w' : World} {p r k : Nat} {σ : WS} (h : Win w p r k σ) (hp : w'.heap[p]? = w.heap[p]?) (hr : w'.heap[r]? = w.heap[r]?) : Win w' p r k σ :=
  ⟨(World.cell?_of_block (by exact hp)).trans h.c4, (World.cell?_of_block (by exact hp)).trans h.c5, (World.cell?_of_block (by exact hp)).trans h.c6, (World.cell?_of_block (by exact hp)).trans h.c7, (World.cell?_of_block (by exact hp)).trans h.c8, (World.cell?_of_block (by exact hp)).trans h.c9,
    fun j hj => (World.cell?_of_block (by exact hr)).trans (h.cb j hj), fun j => (World.frozen?_of_block (by exact hp)).trans (h.zp j), fun j => (World.frozen?_of_block (by exact hr)).trans (h.zr j), h.ne, h.kb, h.h0, h.bb⟩

section
variable {w : World} {p r k : Nat} {σ : WS}

/-- A store into the head, into a total. -/
theorem Win.setHead (h : Win w p r k σ) (x : Int) (hx : 0 ≤ x ∧ x ≤ 65535) : Win (w.setCell ⟨p, 5, none⟩ (.int .i64 x)) p r k { σ with head := x } :=
  ⟨(cell_set_off _ _ _ _ _ _ (by omega)).trans h.c4, World.cell?_setCell_same _ _ _ h.c5, (cell_set_off _ _ _ _ _ _ (by omega)).trans h.c6, (cell_set_off _ _ _ _ _ _ (by omega)).trans h.c7, (cell_set_off _ _ _ _ _ _ (by omega)).trans h.c8, (cell_set_off _ _ _ _ _ _ (by omega)).trans h.c9,
    fun j hj => (cell_set_block _ _ _ _ _ _ h.ne).trans (h.cb j hj), fun j => (World.frozen?_setCell _ _ _ _).trans (h.zp j), fun j => (World.frozen?_setCell _ _ _ _).trans (h.zr j), h.ne, h.kb, hx, h.bb⟩
theorem Win.setS (h : Win w p r k σ) (x : Int) : Win (w.setCell ⟨p, 6, none⟩ (.int .i64 x)) p r k { σ with s := x } :=
  ⟨(cell_set_off _ _ _ _ _ _ (by omega)).trans h.c4, (cell_set_off _ _ _ _ _ _ (by omega)).trans h.c5, World.cell?_setCell_same _ _ _ h.c6, (cell_set_off _ _ _ _ _ _ (by omega)).trans h.c7, (cell_set_off _ _ _ _ _ _ (by omega)).trans h.c8, (cell_set_off _ _ _ _ _ _ (by omega)).trans h.c9,
    fun j hj => (cell_set_block _ _ _ _ _ _ h.ne).trans (h.cb j hj), fun j => (World.frozen?_setCell _ _ _ _).trans (h.zp j), fun j => (World.frozen?_setCell _ _ _ _).trans (h.zr j), h.ne, h.kb, h.h0, h.bb⟩
theorem Win.setF (h : Win w p r k σ) (x : Int) : Win (w.setCell ⟨p, 7, none⟩ (.int .i64 x)) p r k { σ with f := x } :=
  ⟨(cell_set_off _ _ _ _ _ _ (by omega)).trans h.c4, (cell_set_off _ _ _ _ _ _ (by omega)).trans h.c5, (cell_set_off _ _ _ _ _ _ (by omega)).trans h.c6, World.cell?_setCell_same _ _ _ h.c7, (cell_set_off _ _ _ _ _ _ (by omega)).trans h.c8, (cell_set_off _ _ _ _ _ _ (by omega)).trans h.c9,
    fun j hj => (cell_set_block _ _ _ _ _ _ h.ne).trans (h.cb j hj), fun j => (World.frozen?_setCell _ _ _ _).trans (h.zp j), fun j => (World.frozen?_setCell _ _ _ _).trans (h.zr j), h.ne, h.kb, h.h0, h.bb⟩
theorem Win.setT (h : Win w p r k σ) (x : Int) : Win (w.setCell ⟨p, 8, none⟩ (.int .i64 x)) p r k { σ with t := x } :=
  ⟨(cell_set_off _ _ _ _ _ _ (by omega)).trans h.c4, (cell_set_off _ _ _ _ _ _ (by omega)).trans h.c5, (cell_set_off _ _ _ _ _ _ (by omega)).trans h.c6, (cell_set_off _ _ _ _ _ _ (by omega)).trans h.c7, World.cell?_setCell_same _ _ _ h.c8, (cell_set_off _ _ _ _ _ _ (by omega)).trans h.c9,
    fun j hj => (cell_set_block _ _ _ _ _ _ h.ne).trans (h.cb j hj), fun j => (World.frozen?_setCell _ _ _ _).trans (h.zp j), fun j => (World.frozen?_setCell _ _ _ _).trans (h.zr j), h.ne, h.kb, h.h0, h.bb⟩
theorem Win.setC (h : Win w p r k σ) (x : Int) : Win (w.setCell ⟨p, 9, none⟩ (.int .i64 x)) p r k { σ with c := x } :=
  ⟨(cell_set_off _ _ _ _ _ _ (by omega)).trans h.c4, (cell_set_off _ _ _ _ _ _ (by omega)).trans h.c5, (cell_set_off _ _ _ _ _ _ (by omega)).trans h.c6, (cell_set_off _ _ _ _ _ _ (by omega)).trans h.c7, (cell_set_off _ _ _ _ _ _ (by omega)).trans h.c8, World.cell?_setCell_same _ _ _ h.c9,
    fun j hj => (cell_set_block _ _ _ _ _ _ h.ne).trans (h.cb j hj), fun j => (World.frozen?_setCell _ _ _ _).trans (h.zp j), fun j => (World.frozen?_setCell _ _ _ _).trans (h.zr j), h.ne, h.kb, h.h0, h.bb⟩
/-- A store into a bucket's cell. -/
theorem Win.setB (h : Win w p r k σ) (i : Nat) (x : Int) (hx : 0 ≤ x ∧ x ≤ 4294967295) : Win (w.setCell ⟨r, i, none⟩ (.int .u32 x)) p r k { σ with bk := fun j => if j = i then x else σ.bk j } :=
  ⟨(cell_set_block _ _ _ _ _ _ (Ne.symm h.ne)).trans h.c4, (cell_set_block _ _ _ _ _ _ (Ne.symm h.ne)).trans h.c5, (cell_set_block _ _ _ _ _ _ (Ne.symm h.ne)).trans h.c6, (cell_set_block _ _ _ _ _ _ (Ne.symm h.ne)).trans h.c7, (cell_set_block _ _ _ _ _ _ (Ne.symm h.ne)).trans h.c8, (cell_set_block _ _ _ _ _ _ (Ne.symm h.ne)).trans h.c9,
    fun j hj => by
      by_cases e : j = i
      · subst e
        simpa using World.cell?_setCell_same _ _ (.int .u32 x) (h.cb j hj)
      · rw [cell_set_off _ _ _ _ _ _ (by omega), h.cb j hj]
        simp [e],
    fun j => (World.frozen?_setCell _ _ _ _).trans (h.zp j), fun j => (World.frozen?_setCell _ _ _ _).trans (h.zr j), h.ne, h.kb, h.h0, fun j => by
      by_cases e : j = i
      · simpa [e] using hx
      · simpa [e] using h.bb j⟩
/-- All buckets wiped. -/
theorem Win.wipe (h : Win w p r k σ) : Win (w.setCells r 0 (List.replicate (k * 3) (.int .u32 0))) p r k { σ with bk := fun _ => 0 } := by
  have far : ∀ j, (w.setCells r 0 (List.replicate (k * 3) (Value.int .u32 0))).cell? ⟨p, j, none⟩ = w.cell? ⟨p, j, none⟩ := fun j =>
    World.cell?_setCells_out r _ 0 w ⟨p, j, none⟩ (fun e => absurd e h.ne)
  refine ⟨(far 4).trans h.c4, (far 5).trans h.c5, (far 6).trans h.c6, (far 7).trans h.c7, (far 8).trans h.c8, (far 9).trans h.c9, ?_, fun j => (World.frozen?_setCells _ _ _ _ _).trans (h.zp j), fun j => (World.frozen?_setCells _ _ _ _ _).trans (h.zr j), h.ne, h.kb, h.h0, by simp⟩
  intro j hj
  have := World.cell?_setCells_in r (List.replicate (k * 3) (Value.int .u32 0)) 0 w (by intro i hi; simp at hi; rw [Nat.zero_add, h.cb i hi]; rfl) j (by simpa using hj)
  simpa using this
end

/-- One bucket forward. -/
def WS.step (k : Nat) (σ : WS) : WS :=
  { head := σ.head + 1, s := wrap64 (σ.s - σ.bk (((σ.head + 1) % k).toNat * 3)), f := wrap64 (σ.f - σ.bk (((σ.head + 1) % k).toNat * 3 + 1)), t := wrap64 (σ.t - σ.bk (((σ.head + 1) % k).toNat * 3 + 2)), c := σ.c,
    bk := fun i => if i = ((σ.head + 1) % k).toNat * 3 + 2 then 0 else if i = ((σ.head + 1) % k).toNat * 3 + 1 then 0 else if i = ((σ.head + 1) % k).toNat * 3 then 0 else σ.bk i }
def WS.steps (k : Nat) : Nat → WS → WS
  | 0, σ => σ
  | m + 1, σ => WS.steps k m (σ.step k)
def WS.old (n : Int) (σ : WS) : WS := { head := n, s := 0, f := 0, t := 0, c := σ.c, bk := fun _ => 0 }
def WS.slide (k : Nat) (n : Int) (σ : WS) : WS := if (k : Int) ≤ n - σ.head then σ.old n else σ.steps k (n - σ.head).toNat
def WS.put (k : Nat) (n c : Int) (σ : WS) : WS :=
  if (k : Int) ≤ σ.head - n then σ else { σ with s := wrap64 (σ.s + c), bk := fun i => if i = (n % k).toNat * 3 then (σ.bk ((n % k).toNat * 3) + c) % 4294967296 else σ.bk i }
def WS.add (k : Nat) (n c : Int) (σ : WS) : WS := if σ.head < n then (WS.slide k n { σ with c := 0 }).put k n c else (WS.put k n c { σ with c := 0 })

theorem run_clear_three {P : Program} (w : World) (t e ty : TypeId) (ht : P.underlying t = some (.slice e)) (hv : ∀ w, (zeroValue e).run P w = .ok (.agg #[.int .u32 0, .int .u32 0, .int .u32 0]) w) (b o n c : Nat) (hn : 0 < n)
    (hc : ∀ j, j < n * 3 → (w.cell? ⟨b, o + j, none⟩).isSome = true) (hf : ∀ j, j < n * 3 → w.frozen? ⟨b, o + j, none⟩ = false) :
    (Builtin.clear_ #[t] ty #[.slice (some ⟨b, o, none⟩) n c]).run P w = .ok (.tuple #[]) (w.setCells b o (List.replicate (n * 3) (.int .u32 0))) := by
  have hzc : (Builtin.zeroCells #[.int .u32 0, .int .u32 0, .int .u32 0] n).toList = List.replicate (n * 3) (.int .u32 0) := by
    simp [Builtin.zeroCells]
    apply List.ext_getElem
    · simp
    · intro i h1 h2
      simp
      have : i % 3 = 0 ∨ i % 3 = 1 ∨ i % 3 = 2 := by omega
      rcases this with h | h | h <;> simp [h]
  have hst := run_storeCells_cells (P := P) b o (List.replicate (n * 3) (.int .u32 0)) 0 w (by simpa using hc) (by simpa using hf) (by intro v hv'; rw [List.eq_of_mem_replicate hv']; rfl)
  simp only [Nat.add_zero] at hst
  obtain ⟨m, rfl⟩ : ∃ m, n = m + 1 := ⟨n - 1, by omega⟩
  simp [Builtin.clear_, run_underlying ht, hv, Value.cells, hzc, hst]

theorem zero46 (w : World) : (zeroValue 46).run Yba.prog w = .ok (.agg #[.int .u32 0, .int .u32 0, .int .u32 0]) w := by kernel_rfl

set_option maxRecDepth 100000 in
set_option maxHeartbeats 400000 in
theorem reset_any (p r k : Nat) (σ : WS) (w : World) (h : Win w p r k σ) :
    Calls Yba.prog 21 #[.pointer (some ⟨p, 0, none⟩)] w fun e w' => e = .returned (.tuple #[]) ∧ Win w' p r k { head := σ.head, s := 0, f := 0, t := 0, c := 0, bk := fun _ => 0 } ∧ Tch p r w w' := by
  have h4 := h.c4
  have hcl := fun ty => run_clear_three (P := Yba.prog) w 32 46 ty Yba.underlying32 zero46 r 0 k k h.kb.1 (by intro j hj; rw [Nat.zero_add, h.cb j hj]; rfl) (by intro j _; exact h.zr _)
  have hw := h.wipe
  have ht := Tch.seconds (p := p) (r := r) (List.replicate (k * 3) (.int .u32 0)) 0 (Tch.refl p r w)
  generalize w.setCells r 0 (List.replicate (k * 3) (.int .u32 0)) = w1 at hcl hw ht
  have k6 := hw.c6
  have k7 := hw.c7
  have k8 := hw.c8
  have k9 := hw.c9
  have z6 := hw.zp 6
  have z7 := hw.zp 7
  have z8 := hw.zp 8
  have z9 := hw.zp 9
  go_enter Yba.func21, Yba.ntmps21
  go_wp2
  go_end0
  exact ⟨rfl, (((hw.setS 0).setF 0).setT 0).setC 0, (((ht.first 6 _).first 7 _).first 8 _).first 9 _⟩
end Go.Proofs.Ybulkenw
