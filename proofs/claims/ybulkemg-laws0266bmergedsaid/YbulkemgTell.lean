/- What the law reads back. -/
import Derived.Test.YbulkemgLay
namespace Go.Proofs.Ybulkemg
open Go Go.RowKit

section
variable {w w' : World} {B : Nat}
theorem Blk.later {b : Nat} {t : TypeId} {cs : List Value} (h : Blk w b t cs) (hb : Below B w w') (hB : w.heap.size = B) : Blk w' b t cs := h.keep (hb.block b (by have := h.lt; omega))
theorem own_later {B0 : Nat} {e : TypeId} {s : Nat} {v : Value} {n : Nat} {xs : List Value} (h : w.ownsRow B0 e s v n xs) (hb : Below B w w') (hB : w.heap.size = B) : w'.ownsRow B0 e s v n xs := by
  refine ⟨h.1, ?_⟩
  rcases h.2 with h0 | ⟨g, cap, cur, rfl, hg0, hg, rest⟩
  · exact .inl h0
  · have hb' : Blk w g e cur.toList := by unfold Blk; simpa using hg
    exact .inr ⟨g, cap, cur, rfl, hg0, by have := hb'.later hb hB; unfold Blk at this; simpa using this, rest⟩
theorem Rn.later {R : Rs} {rb : Nat} {C G : Nat → Nat} {T : Nat → Int} (h : Rn w R rb C G T) (hb : Below B w w') (hB : w.heap.size = B) : Rn w' R rb C G T where
  runs := fun r hr => let ⟨cs, a, b⟩ := h.runs r hr; ⟨cs, a.later hb hB, b⟩
  cls := fun r hr => let ⟨cs, cap, a, b⟩ := h.cls r hr; ⟨cs, cap, a.later hb hB, b⟩
  acc := fun r hr => let ⟨cs, a, b⟩ := h.acc r hr; ⟨cs, a.later hb hB, b⟩
end

/-- Numbers as cells. -/
def cellsZ (l : List Int) : List Value := l.map fun x => .int .i64 x
theorem cellsZ_snoc (l : List Int) (x : Int) : cellsZ (l ++ [x]) = cellsZ l ++ [.int .i64 x] := by simp [cellsZ]
theorem cellsI_eq (l : List Nat) : cellsI l = cellsZ (l.map fun i => ((i : Nat) : Int)) := by simp [cellsI, cellsZ]
theorem own_ints {w : World} {B : Nat} {v : Value} {l : List Int} {n : Nat} (hn : n = l.length) (h : w.ownsRow B 3 1 v n (cellsZ l)) : ∃ a b cap, v = .slice a n cap ∧ (0 < n → a = some ⟨b, 0, none⟩) ∧ ∀ j, j < n → w.cell? ⟨b, j, none⟩ = some (.int .i64 (l.getD j 0)) := by
  subst hn
  rcases h.2 with ⟨e, h0⟩ | ⟨g, cap, cur, e, hb, hg, q1, q2, q3, q4⟩
  · refine ⟨none, 0, 0, ?_, fun h => by omega, fun j hj => by omega⟩
    rw [e, h0]
  · refine ⟨some ⟨g, 0, none⟩, g, cap, e, fun _ => rfl, fun j hj => ?_⟩
    have hbk : Blk w g 3 cur.toList := by unfold Blk; simpa using hg
    rw [hbk.cell]
    have : (cellsZ l)[j]? = some (.int .i64 (l.getD j 0)) := by
      unfold cellsZ
      rw [List.getElem?_map, List.getD_eq_getElem?_getD, List.getElem?_eq_getElem hj]
      rfl
    rw [← q4, List.getElem?_take_of_lt (by omega)] at this
    exact this

/-- A stretch of run r. -/
def part (R : Rs) (r lo j : Nat) : List Int := (List.range' lo (j - lo)).map (R.A r)
theorem part_start (R : Rs) (r lo : Nat) : part R r lo lo = [] := by unfold part; rw [Nat.sub_self]; rfl
theorem part_succ (R : Rs) (r : Nat) {lo j : Nat} (h : lo ≤ j) : part R r lo (j + 1) = part R r lo j ++ [R.A r j] := by
  unfold part
  rw [show j + 1 - lo = (j - lo) + 1 by omega, List.range'_concat, List.map_append]
  simp only [List.map_cons, List.map_nil]
  rw [show lo + 1 * (j - lo) = j by omega]
theorem part_length (R : Rs) (r lo j : Nat) : (part R r lo j).length = j - lo := by simp [part]

/-- What the first x parts tell. -/
def soFar (R : Rs) (ps : List Pt) (x : Nat) : List Int := lines R (ps.take x)
theorem soFar_zero (R : Rs) (ps : List Pt) : soFar R ps 0 = [] := rfl
theorem soFar_all (R : Rs) (ps : List Pt) : soFar R ps ps.length = lines R ps := by unfold soFar; rw [List.take_length]
theorem soFar_succ (R : Rs) {ps : List Pt} {x r lo hi : Nat} (h : ps[x]? = some (r, lo, hi)) : soFar R ps (x + 1) = soFar R ps x ++ part R r lo hi := by
  unfold soFar
  rw [List.take_add_one, h]
  exact lines_snoc R _ _
theorem soFar_le (R : Rs) (ps : List Pt) (x : Nat) : (soFar R ps x).length ≤ (lines R ps).length := by
  have : lines R ps = lines R (ps.take x) ++ lines R (ps.drop x) := by
    unfold lines
    rw [← List.flatMap_append, List.take_append_drop]
  rw [this, List.length_append]
  exact Nat.le_add_right _ _
theorem parts_le (R : Rs) : ∀ (ps : List Pt), (∀ p, p ∈ ps → p.2.1 < p.2.2) → ps.length ≤ (lines R ps).length
  | [], _ => Nat.zero_le _
  | p :: ps, h => by
    have ih := parts_le R ps (fun q hq => h q (List.mem_cons_of_mem _ hq))
    have h1 := h p (by simp)
    have : lines R (p :: ps) = seg R p ++ lines R ps := by simp [lines]
    rw [this, List.length_append, List.length_cons]
    have : (seg R p).length = p.2.2 - p.2.1 := by simp [seg]
    omega

theorem cellsP_at : ∀ (ps : List Pt) (x r lo hi : Nat), ps[x]? = some (r, lo, hi) → (cellsP ps)[x * 3]? = some (.int .i64 (r : Nat)) ∧ (cellsP ps)[x * 3 + 1]? = some (.int .i64 (lo : Nat)) ∧ (cellsP ps)[x * 3 + 2]? = some (.int .i64 (hi : Nat))
  | [], x, _, _, _, h => by simp at h
  | p :: ps, 0, r, lo, hi, h => by
    simp only [List.getElem?_cons_zero, Option.some.injEq] at h
    subst h
    exact ⟨rfl, rfl, rfl⟩
  | p :: ps, x + 1, r, lo, hi, h => by
    have ih := cellsP_at ps x r lo hi (by simpa using h)
    show (_ :: _ :: _ :: cellsP ps)[(x + 1) * 3]? = _ ∧ (_ :: _ :: _ :: cellsP ps)[(x + 1) * 3 + 1]? = _ ∧ (_ :: _ :: _ :: cellsP ps)[(x + 1) * 3 + 2]? = _
    rw [show (x + 1) * 3 = x * 3 + 1 + 1 + 1 by omega, show x * 3 + 1 + 1 + 1 + 1 = (x * 3 + 1) + 1 + 1 + 1 by omega, show x * 3 + 1 + 1 + 1 + 2 = (x * 3 + 2) + 1 + 1 + 1 by omega]
    simp only [List.getElem?_cons_succ]
    exact ih
theorem own_parts {w : World} {B : Nat} {io : Value} {ps : List Pt} (h : w.ownsRow B 61 3 io ps.length (cellsP ps)) : ∃ ia g cap, io = .slice ia ps.length cap ∧ (0 < ps.length → ia = some ⟨g, 0, none⟩ ∧ g < w.heap.size ∧ ∀ x r lo hi, ps[x]? = some (r, lo, hi) → w.cell? ⟨g, x * 3, none⟩ = some (.int .i64 (r : Nat)) ∧ w.cell? ⟨g, x * 3 + 1, none⟩ = some (.int .i64 (lo : Nat)) ∧ w.cell? ⟨g, x * 3 + 2, none⟩ = some (.int .i64 (hi : Nat))) := by
  rcases h.2 with ⟨e, h0⟩ | ⟨g, cap, cur, e, hb, hg, q1, q2, q3, q4⟩
  · refine ⟨none, 0, 0, ?_, fun h => by omega⟩
    rw [e, h0]
  · have hbk : Blk w g 61 cur.toList := by unfold Blk; simpa using hg
    refine ⟨some ⟨g, 0, none⟩, g, cap, e, fun _ => ⟨rfl, hbk.lt, fun x r lo hi hx => ?_⟩⟩
    have hxl := (List.getElem?_eq_some_iff.1 hx).1
    obtain ⟨p0, p1, p2⟩ := cellsP_at ps x r lo hi hx
    rw [← q4] at p0 p1 p2
    rw [List.getElem?_take_of_lt (by omega)] at p0 p1 p2
    rw [hbk.cell, hbk.cell, hbk.cell]
    exact ⟨p0, p1, p2⟩
end Go.Proofs.Ybulkemg
