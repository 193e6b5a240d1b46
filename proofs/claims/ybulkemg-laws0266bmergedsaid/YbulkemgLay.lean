/- The law's other rows in memory. -/
import Derived.Test.YbulkemgCls
import Derived.Deep.OwnRows
namespace Go.Proofs.Ybulkemg
open Go Go.RowKit

/-- A slice of bytes that came in. -/
def InU (w : World) (a : Option Addr) (n : Nat) (o : Nat → Nat) : Prop :=
  (0 < n → ∃ b f, a = some ⟨b, f, none⟩ ∧ b < w.heap.size ∧ ∀ j, j < n → w.cell? ⟨b, f + j, none⟩ = some (.int .u8 (o j : Nat))) ∧ ∀ j, o j ≤ 255
theorem InU.later {w w' : World} {a : Option Addr} {n : Nat} {o : Nat → Nat} (h : InU w a n o) {B : Nat} (hB : B = w.heap.size) (hb : Below B w w') (hn : 0 < n) : ∃ b f, a = some ⟨b, f, none⟩ ∧ ∀ j, j < n → w'.cell? ⟨b, f + j, none⟩ = some (.int .u8 (o j : Nat)) := by
  obtain ⟨b, f, rfl, hlt, hc⟩ := h.1 hn
  exact ⟨b, f, rfl, fun j hj => (hb.cell (p := ⟨b, f + j, none⟩) (by rw [hB]; exact hlt)).trans (hc j hj)⟩

/-- A row of m ints, of which the first i are known. -/
def Ints (w : World) (b m : Nat) (f : Nat → Nat) (i : Nat) : Prop := ∃ cs, Blk w b 3 cs ∧ cs.length = m ∧ ∀ j, j < i → cs[j]? = some (.int .i64 (f j : Nat))
section
variable {w w' : World} {b m i : Nat} {f : Nat → Nat}
theorem Ints.keep (h : Ints w b m f i) {B' : Nat} {Ts : List TypeId} (hk : KX B' Ts w w') (h1 : 3 ∉ Ts) : Ints w' b m f i := let ⟨cs, a, r⟩ := h; ⟨cs, hk.blk a h1, r⟩
theorem Ints.cell (h : Ints w b m f i) {j : Nat} (hj : j < i) : w.cell? ⟨b, j, none⟩ = some (.int .i64 (f j : Nat)) := by
  obtain ⟨cs, a, _, r⟩ := h
  rw [a.cell]; exact r j hj
theorem Ints.there (h : Ints w b m f i) {j : Nat} (hj : j < m) : ∃ y, w.cell? ⟨b, j, none⟩ = some y := by
  obtain ⟨cs, a, hl, _⟩ := h
  exact ⟨cs[j], by rw [a.cell]; exact List.getElem?_eq_getElem (by omega)⟩
theorem Ints.free (h : Ints w b m f i) (j : Nat) : w.frozen? ⟨b, j, none⟩ = false := by
  obtain ⟨cs, a, _, _⟩ := h
  exact a.free j
theorem Ints.blk (h : Ints w b m f i) : ∃ cs, Blk w b 3 cs := let ⟨cs, a, _⟩ := h; ⟨cs, a⟩
theorem Ints.lt (h : Ints w b m f i) : b < w.heap.size := let ⟨_, a, _⟩ := h; a.lt
theorem Ints.other (h : Ints w b m f i) {c : Nat} (hc : c ≠ b) (j : Nat) (v : Value) : Ints (w.setCell ⟨c, j, none⟩ v) b m f i := let ⟨cs, a, r⟩ := h; ⟨cs, a.other hc j v, r⟩
theorem Ints.alloc (h : Ints w b m f i) (o : Obj) : Ints (w.alloc o) b m f i := let ⟨cs, a, r⟩ := h; ⟨cs, a.alloc o, r⟩
theorem Ints.less (h : Ints w b m f i) {g : Nat → Nat} {i' : Nat} (hg : ∀ j, j < i' → j < i ∧ g j = f j) : Ints w b m g i' := let ⟨cs, a, hl, r⟩ := h; ⟨cs, a, hl, fun j hj => by rw [(hg j hj).2]; exact r j (hg j hj).1⟩
theorem Ints.below (h : Ints w b m f i) {B : Nat} (hb : Below B w w') (hlt : b < B) : Ints w' b m f i := let ⟨cs, a, r⟩ := h; ⟨cs, a.keep (hb.block b hlt), r⟩
theorem Ints.snoc (h : Ints w b m f i) (hi : i < m) : Ints (w.setCell ⟨b, i, none⟩ (.int .i64 (f i : Nat))) b m f (i + 1) := by
  obtain ⟨cs, a, hl, r⟩ := h
  refine ⟨_, a.set i _, by simpa using hl, fun j hj => ?_⟩
  by_cases e : j = i
  · subst e
    rw [List.getElem?_set_self (by omega)]
  · rw [List.getElem?_set_ne (by omega)]
    exact r j (by omega)
theorem Ints.put (h : Ints w b m f i) {j : Nat} (hj : j < m) (v : Nat) : Ints (w.setCell ⟨b, j, none⟩ (.int .i64 (v : Nat))) b m (updN f j v) i := by
  obtain ⟨cs, a, hl, r⟩ := h
  refine ⟨_, a.set j _, by simpa using hl, fun x hx => ?_⟩
  unfold updN
  by_cases e : x = j
  · subst e
    rw [List.getElem?_set_self (by omega), if_pos rfl]
  · rw [List.getElem?_set_ne (by omega), if_neg e]
    exact r x hx
theorem Ints.made (w : World) (m : Nat) : Ints (w.alloc (.cells (madeCells #[.int .i64 0] m) 3)) w.heap.size m (fun _ => 0) m := by
  have hb : Blk (w.alloc (.cells (madeCells #[.int .i64 0] m) 3)) w.heap.size 3 (madeCells #[.int .i64 0] m).toList := by
    have := heap_alloc_new w (.cells (madeCells #[.int .i64 0] m) 3)
    unfold Blk
    rw [this]
  refine ⟨_, hb, by simp [size_madeCells], fun j hj => ?_⟩
  have := (World.rowIs_made w (.int .i64 0) m 3)
  rw [← hb.cell]
  exact World.rowIs.cell this hj
end

theorem updL_ls {ow : Nat → Nat} {c i : Nat} (h : ow i = c) : updL (fun c => ls ow c i) c (ls ow c i ++ [i]) = fun c => ls ow c (i + 1) := by
  funext d
  unfold updL
  rw [ls_succ]
  by_cases e : d = c
  · subst e
    rw [if_pos rfl, if_pos h]
  · rw [if_neg e, if_neg (fun q => e (q.symm.trans h))]

/-- Where each class's run begins. -/
def fsOf (o' : Nat → Nat) (n' : Nat) (ow : Nat → Nat) (n c : Nat) : Nat := if (ls ow c n).length = 0 then 0 else if n' = 0 then 0 else o' (c % n') % (ls ow c n).length
theorem fsOf_lt (o' : Nat → Nat) (n' : Nat) (ow : Nat → Nat) (n c : Nat) (h : 0 < (ls ow c n).length) : fsOf o' n' ow n c < (ls ow c n).length := by
  unfold fsOf
  rw [if_neg (by omega)]
  split
  · exact h
  · exact Nat.mod_lt _ h

theorem first_succ (fs : Nat → Nat) (i : Nat) : updN (fun c => if c < i then fs c else 0) i (fs i) = fun c => if c < i + 1 then fs c else 0 := by
  funext c
  unfold updN
  by_cases e : c = i
  · subst e
    rw [if_pos rfl, if_pos (by omega)]
  · rw [if_neg e]
    by_cases e2 : c < i
    · rw [if_pos (by omega)]
      exact if_pos e2
    · rw [if_neg (by omega)]
      exact if_neg e2

/-- Runs as cells. -/
def cellsR (C fs : Nat → Nat) (l : List Nat) : List Value := l.flatMap fun c => [.int .i64 (c : Nat), .pointer (some ⟨C c, 0, none⟩), .int .i64 (fs c : Nat)]
theorem cellsR_snoc (C fs : Nat → Nat) (l : List Nat) (c : Nat) : cellsR C fs (l ++ [c]) = cellsR C fs l ++ [.int .i64 (c : Nat), .pointer (some ⟨C c, 0, none⟩), .int .i64 (fs c : Nat)] := by simp [cellsR]
theorem cellsR_at (C fs : Nat → Nat) : ∀ (l : List Nat) (r : Nat), r < l.length → (cellsR C fs l)[r * 3]? = some (.int .i64 (l.getD r 0 : Nat)) ∧ (cellsR C fs l)[r * 3 + 1]? = some (.pointer (some ⟨C (l.getD r 0), 0, none⟩)) ∧ (cellsR C fs l)[r * 3 + 2]? = some (.int .i64 (fs (l.getD r 0) : Nat))
  | [], r, h => by simp at h
  | a :: l, 0, _ => ⟨rfl, rfl, rfl⟩
  | a :: l, r + 1, h => by
    have ih := cellsR_at C fs l r (by simpa using h)
    show (_ :: _ :: _ :: cellsR C fs l)[(r + 1) * 3]? = _ ∧ (_ :: _ :: _ :: cellsR C fs l)[(r + 1) * 3 + 1]? = _ ∧ (_ :: _ :: _ :: cellsR C fs l)[(r + 1) * 3 + 2]? = _
    rw [show (r + 1) * 3 = r * 3 + 1 + 1 + 1 by omega, show r * 3 + 1 + 1 + 1 + 1 = (r * 3 + 1) + 1 + 1 + 1 by omega, show r * 3 + 1 + 1 + 1 + 2 = (r * 3 + 2) + 1 + 1 + 1 by omega]
    simp only [List.getElem?_cons_succ]
    exact ih

/-- The store, as the law has laid it: ru its runs, io its parts, he its heads. -/
def stoL (ru io he : Value) : List Value := sto (.bool false) (.slice none 0 0) ru io he (.slice none 0 0) (.slice none 0 0) (.slice none 0 0) (.slice none 0 0)
/-- What lies in memory while the runs are laid. -/
structure Lst (w0 w : World) (B k cb fb sb ib pb ob n : Nat) (C : Nat → Nat) (V : Nat → Value) (ow P F : Nat → Nat) (ru : Value) : Prop where
  cl : Cl w B k cb C V (fun c => ls ow c n) k
  pos : Ints w pb n P n
  own : Ints w ob n ow n
  fs : Ints w fb k F k
  st : Blk w sb 59 (stoL ru (.slice (some ⟨ib, 0, none⟩) 1 1) (.slice none 0 0))
  io : w.ownsRow B 61 3 (.slice (some ⟨ib, 0, none⟩) 1 1) 1 [.int .i64 9, .int .i64 9, .int .i64 9]
  bel : Below B w0 w
theorem Lst.more {w0 w w' : World} {B k cb fb sb ib pb ob n : Nat} {C : Nat → Nat} {V : Nat → Value} {ow P F : Nat → Nat} {ru : Value} (h : Lst w0 w B k cb fb sb ib pb ob n C V ow P F ru) (hk : KX B [63] w w') (hB : B ≤ sb) (ru' : Value) :
    Lst w0 (w'.setCell ⟨sb, 2, none⟩ ru') B k cb fb sb ib pb ob n C V ow P F ru' := by
  have hs := hk.blk h.st (by simp)
  have hk2 : KX B [59, 63] w (w'.setCell ⟨sb, 2, none⟩ ru') := (hk.mono (Nat.le_refl _) (by simp)).set hs (by simp) hB _ _
  exact ⟨h.cl.keep hk2 (by simp) (by simp) (by simp), h.pos.keep hk2 (by simp), h.own.keep hk2 (by simp), h.fs.keep hk2 (by simp), hs.set 2 ru', own_keep h.io hk2 (by simp), h.bel.trans hk2.bel⟩
theorem Lst.put {w0 w : World} {B k cb fb sb ib pb ob n : Nat} {C : Nat → Nat} {V : Nat → Value} {ow P F : Nat → Nat} {ru : Value} (h : Lst w0 w B k cb fb sb ib pb ob n C V ow P F ru) (h1 : fb ≠ pb) (h2 : fb ≠ ob) (hB : B ≤ fb) {j : Nat} (hj : j < k) (v : Nat) :
    Lst w0 (w.setCell ⟨fb, j, none⟩ (.int .i64 (v : Nat))) B k cb fb sb ib pb ob n C V ow P (updN F j v) ru := by
  obtain ⟨cs, hc⟩ := h.fs.blk
  have hk2 : KX B [3] w (w.setCell ⟨fb, j, none⟩ (.int .i64 (v : Nat))) := (KX.refl B [3] w).set hc (by simp) hB _ _
  exact ⟨h.cl.keep hk2 (by simp) (by simp) (by simp), h.pos.other h1 _ _, h.own.other h2 _ _, h.fs.put hj v, hk2.blk h.st (by simp), own_keep h.io hk2 (by simp), h.bel.trans hk2.bel⟩

theorem Lst.re {w0 w : World} {B k cb fb sb ib pb ob n : Nat} {C : Nat → Nat} {V : Nat → Value} {ow P F : Nat → Nat} {ru : Value} (h : Lst w0 w B k cb fb sb ib pb ob n C V ow P F ru) {F' : Nat → Nat} (hF : ∀ c, c < k → F' c = F c) : Lst w0 w B k cb fb sb ib pb ob n C V ow P F' ru :=
  ⟨h.cl, h.pos, h.own, h.fs.less fun j hj => ⟨hj, hF j hj⟩, h.st, h.io, h.bel⟩

/-- Ints as cells. -/
def cellsI (l : List Nat) : List Value := l.map fun i => .int .i64 (i : Nat)
theorem cellsI_snoc (l : List Nat) (i : Nat) : cellsI (l ++ [i]) = cellsI l ++ [.int .i64 (i : Nat)] := by simp [cellsI]
theorem want_le (ow fs : Nat → Nat) (i : Nat) : (want ow fs i).length ≤ i := by
  unfold want
  have := List.length_filter_le (fun j => decide (fs (ow j) ≤ (ls ow (ow j) j).length)) (List.range i)
  simpa using this

/-- The block of a slice. -/
def blkOf (v : Value) : Nat := v.ownBlock.getD 0
theorem rn_of {w : World} {B k cb n : Nat} {C : Nat → Nat} {V : Nat → Value} {ow fs : Nat → Nat} (hcl : Cl w B k cb C V (fun c => ls ow c n) k) {ru : Value} (hru : w.ownsRow B 63 3 ru (rs ow n k).length (cellsR C fs (rs ow n k))) :
    ∃ ro rc rb, ru = .slice ro (dealt ow n k fs).m rc ∧ (0 < (dealt ow n k fs).m → ro = some ⟨rb, 0, none⟩) ∧
      Rn w (dealt ow n k fs) rb (fun r => C ((rs ow n k).getD r 0)) (fun r => blkOf (V ((rs ow n k).getD r 0))) (fun r => ((rs ow n k).getD r 0 : Nat)) := by
  have hc : ∀ r, r < (dealt ow n k fs).m → (rs ow n k).getD r 0 < k ∧ 0 < (ls ow ((rs ow n k).getD r 0) n).length := fun r hr => mem_rs.1 (List.mem_of_getElem? (rs_get hr))
  have hcls : ∀ r, r < (dealt ow n k fs).m → ∃ cs cap, Blk w (C ((rs ow n k).getD r 0)) 48 cs ∧ cs[4]? = some (.slice (some ⟨blkOf (V ((rs ow n k).getD r 0)), 0, none⟩) ((dealt ow n k fs).N r) cap) := by
    intro r hr
    obtain ⟨h1, h2⟩ := hc r hr
    obtain ⟨cs, q1, q2, _⟩ := hcl.cls _ h1
    obtain ⟨a, cap, e, hg⟩ := own_form (hcl.own _ h1)
    obtain ⟨g, rfl, _⟩ := hg h2
    refine ⟨cs, cap, q1, ?_⟩
    rw [q2, e]
    rfl
  have hacc : ∀ r, r < (dealt ow n k fs).m → ∃ cs, Blk w (blkOf (V ((rs ow n k).getD r 0))) 50 cs ∧ ∀ j, j < (dealt ow n k fs).N r → cs[j * 2]? = some (.int .i64 ((dealt ow n k fs).A r j)) := by
    intro r hr
    obtain ⟨h1, h2⟩ := hc r hr
    rcases (hcl.own _ h1).2 with ⟨_, h0⟩ | ⟨g, cap, cur, e, hb, hg, q1, q2, q3, q4⟩
    · exact absurd h0 (Nat.ne_of_gt h2)
    · rw [e]
      refine ⟨cur.toList, by unfold Blk; simpa [blkOf, Value.ownBlock] using hg, fun j hj => ?_⟩
      have := cellsA_at (ls ow ((rs ow n k).getD r 0) n) j hj
      rw [← q4, List.getElem?_take_of_lt (by change j < (ls ow ((rs ow n k).getD r 0) n).length at hj; omega)] at this
      exact this
  rcases hru.2 with ⟨e, h0⟩ | ⟨g, cap, cur, e, hb, hg, q1, q2, q3, q4⟩
  · refine ⟨none, 0, 0, ?_, fun h => ?_, ?_, hcls, hacc⟩
    · rw [e]
      show _ = Value.slice none (rs ow n k).length 0
      rw [h0]
    · exact absurd h0 (Nat.ne_of_gt h)
    · intro r hr
      exact absurd h0 (Nat.ne_of_gt (Nat.lt_of_le_of_lt (Nat.zero_le _) hr))
  · refine ⟨some ⟨g, 0, none⟩, cap, g, e, fun _ => rfl, ?_, hcls, hacc⟩
    intro r hr
    refine ⟨cur.toList, by unfold Blk; simpa using hg, ?_⟩
    obtain ⟨p0, p1, p2⟩ := cellsR_at C fs (rs ow n k) r hr
    change r < (rs ow n k).length at hr
    rw [← q4] at p0 p1 p2
    rw [List.getElem?_take_of_lt (by omega)] at p0 p1 p2
    exact ⟨p0, p1, p2⟩
end Go.Proofs.Ybulkemg
