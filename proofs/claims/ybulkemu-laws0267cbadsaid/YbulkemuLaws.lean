/- Small laws that speak of no program: blocks known whole; maps of one entry; '==' of a pointer and itself. -/
import Derived.LaidEql
import Derived.WalkKit
import Derived.WalkSpells
import Derived.ProofKit
import Derived.Deep.Draws
import Derived.WalkSmall
namespace Go.Proofs.Ybulkemu
open Go Go.RowKit
open Go.ChangeMaps (setBlock heap_setBlock_same heap_setBlock_other)

theorem hide {p : Prop} (h : p) : Hid p := h

/-- Block b is a row of the cells cs, of type t, none of them frozen. -/
def Blk (w : World) (b : Nat) (t : TypeId) (cs : List Value) : Prop := w.heap[b]? = some (.cells cs.toArray t (0, 0))

section
variable {w : World} {b : Nat} {t : TypeId} {cs : List Value}
theorem Blk.cell (h : Blk w b t cs) (j : Nat) : w.cell? ⟨b, j, none⟩ = cs[j]? := by
  rw [cell_of_row w b j _ t _ h]; simp
theorem Blk.free (h : Blk w b t cs) (j : Nat) : w.frozen? ⟨b, j, none⟩ = false := frozen_of_row w b j _ t h
theorem Blk.lt (h : Blk w b t cs) : b < w.heap.size := lt_of_block h
theorem Blk.set (h : Blk w b t cs) (j : Nat) (v : Value) : Blk (w.setCell ⟨b, j, none⟩ v) b t (cs.set j v) := by
  have := heap_setCell_same w b j cs.toArray t v h
  simpa [Blk] using this
theorem Blk.keep {w' : World} (h : Blk w b t cs) (hk : w'.heap[b]? = w.heap[b]?) : Blk w' b t cs := hk.trans h
theorem Blk.other (h : Blk w b t cs) {c : Nat} (hc : c ≠ b) (j : Nat) (v : Value) : Blk (w.setCell ⟨c, j, none⟩ v) b t cs := h.keep (Below.heap_setCell _ _ _ _ (fun e => hc e.symm))
theorem Blk.ne (h : Blk w b t cs) {c : Nat} {t' : TypeId} {cs' : List Value} (h' : Blk w c t' cs') (ht : t ≠ t') : b ≠ c := by
  rintro rfl
  unfold Blk at h h'
  rw [h] at h'
  simp at h'
  exact ht h'.2
theorem Blk.neMap (h : Blk w b t cs) {r : Nat} {es : Array MapEntry} {c : Nat} (hm : w.heap[r]? = some (.map es c)) : b ≠ r := by
  rintro rfl
  unfold Blk at h
  rw [h] at hm
  simp at hm
theorem Blk.alloc (h : Blk w b t cs) (o : Obj) : Blk (w.alloc o) b t cs := h.keep (Below.heap_alloc _ _ _ h.lt)
theorem Blk.new (w : World) (cs : List Value) (t : TypeId) : Blk (w.alloc (.cells cs.toArray t)) w.heap.size t cs := heap_alloc_new w _
theorem Blk.drewN (h : Blk w b t cs) (n : Nat) : Blk (w.drewN n) b t cs := h
theorem Blk.map (h : Blk w b t cs) {r : Nat} {es : Array MapEntry} {c : Nat} (hm : w.heap[r]? = some (.map es c)) (o : Obj) : Blk (setBlock w r o) b t cs := h.keep (heap_setBlock_other hm o (h.neMap hm))
end

section
variable {P : Program}
theorem run_equalIn_ptr_same (w : World) (d : Nat) {t te : TypeId} {j : TypeInfo} (a : Addr) (hp : P.underlying t = some (.pointer te)) (hte : P.info? te = some j) :
    (Op.equalIn (d + 1) t (.pointer (some a)) (.pointer (some a))).run P w = .ok true w := by
  simp [Op.equalIn, run_underlying hp, typeInfo, sizeOf, hte, run_sameAddr_same]
theorem run_neq_ptr_same {t te : TypeId} {j : TypeInfo} (hp : P.underlying t = some (.pointer te)) (hte : P.info? te = some j) (a : Addr) (w : World) :
    (binOp .neq t (.pointer (some a)) (.pointer (some a))).run P w = .ok (.bool false) w := by
  simp only [binOp]
  simp [Op.equal, Op.maxDepth, run_equalIn_ptr_same w 9999 a hp hte]

variable {t kt et : TypeId}

theorem run_update_empty (ht : P.underlying t = some (.map kt et)) (hk : P.underlying kt = some (.int .i64)) (r c : Nat) (i : Int) (v : Value) (w : World) (h : w.heap[r]? = some (.map #[] c)) :
    (Instr.mapUpdate t (.map (some r)) (.int .i64 i) v).run P w = .ok () (setBlock w r (.map #[⟨.int .i64 i, v, c⟩] (c + 1))) := by
  simp [Instr.mapUpdate, run_underlying ht, MapKept.run_getObj_map h, MapKept.run_checkKey (P := P) (w := w) hk (k := .int .i64 i) (by simp [MapKept.IsKey]), MapKept.run_findKey (P := P) (w := w) (l := []) (a := none) (k := .int .i64 i) hk (by simp [Instr.findNow]), MapKept.run_setObj_map _ h, setBlock]

theorem run_lookup_one (ht : P.underlying t = some (.map kt et)) (hk : P.underlying kt = some (.int .i64)) (r b c : Nat) (i : Int) (v : Value) (w : World) (h : w.heap[r]? = some (.map #[⟨.int .i64 i, v, b⟩] c)) :
    (Instr.lookup t (.map (some r)) (.int .i64 i) false).run P w = .ok v w := by
  simp [Instr.lookup, run_underlying ht, MapKept.run_getObj_map h, MapKept.run_checkKey (P := P) (w := w) hk (k := .int .i64 i) (by simp [MapKept.IsKey]), MapKept.run_findKey (P := P) (w := w) (l := [⟨.int .i64 i, v, b⟩]) (a := some (0, v)) (k := .int .i64 i) hk (by simp [Instr.findNow, Instr.sameNow])]

theorem run_delete_one (ht : P.underlying t = some (.map kt et)) (hk : P.underlying kt = some (.int .i64)) (ty : TypeId) (r b c : Nat) (i : Int) (v : Value) (w : World) (h : w.heap[r]? = some (.map #[⟨.int .i64 i, v, b⟩] c)) :
    (Builtin.delete_ #[t, kt] ty #[.map (some r), .int .i64 i]).run P w = .ok (.tuple #[]) (setBlock w r (.map #[] c)) := by
  simp [Builtin.delete_, run_underlying ht, MapKept.run_getObj_map h, MapKept.run_checkKey (P := P) (w := w) hk (k := .int .i64 i) (by simp [MapKept.IsKey]), MapKept.run_findKey (P := P) (w := w) (l := [⟨.int .i64 i, v, b⟩]) (a := some (0, v)) (k := .int .i64 i) hk (by simp [Instr.findNow, Instr.sameNow]), MapKept.run_setObj_map _ h, setBlock]
theorem run_len_map (ht : P.underlying t = some (.map kt et)) (ty : TypeId) (r c : Nat) (es : Array MapEntry) (w : World) (h : w.heap[r]? = some (.map es c)) :
    (Builtin.len_ #[t] ty #[.map (some r)]).run P w = .ok (.int .i64 es.size) w := by
  simp [Builtin.len_, run_underlying ht, MapKept.run_getObj_map h, goInt]
end
end Go.Proofs.Ybulkemu
