/- The contract of (*Locksets).thread: function 6. -/
import Derived.Test.YbulkemgRows
import Derived.WalkKit
import Derived.WalkSpells
import Derived.Deep.LoopGhost
import Derived.Test.YbulkemgLaws
namespace Go.Proofs.Ybulkemg
open Go.RowKit

/-- The cells of the zero lockset. -/
def zc : List Value := [.map none, .int .i32 0, .int .i64 0, .slice none 0 0]
/-- k zero locksets, one behind the other. -/
def Z : Nat → List Value
  | 0 => []
  | k + 1 => Z k ++ zc

theorem Z_length (k : Nat) : (Z k).length = k * 4 := by
  induction k with
  | zero => rfl
  | succ k ih => simp [Z, ih, zc]; omega

theorem Yba.info35 : (Yba.prog.info? 35).map (fun i => (i.zero, i.size, i.bytes)) = some (some (.agg #[.map none, .int .i32 0, .int .i64 0, .slice none 0 0]), 4, 48) := by kernel_rfl

/-- The Locksets at block b: its field 'threads' holds v, which owns n locksets, the cells xs. -/
structure St (b : Nat) (w : World) (v : Value) (n : Nat) (xs : List Value) : Prop where
  cell : w.cell? ⟨b, 3, none⟩ = some v
  free : w.frozen? ⟨b, 3, none⟩ = false
  own : w.ownsRow (b + 1) 35 4 v n xs
  lt : b < w.heap.size

theorem ownsRow_shape {w : World} {base : Nat} {e : TypeId} {size : Nat} {v : Value} {n : Nat} {xs : List Value} (h : w.ownsRow base e size v n xs) : ∃ ao cap, v = .slice ao n cap := by
  rcases h.2 with ⟨rfl, rfl⟩ | ⟨g, cap, cur, rfl, _⟩
  · exact ⟨none, 0, rfl⟩
  · exact ⟨_, cap, rfl⟩

theorem ownsRow_some {w : World} {base : Nat} {e : TypeId} {size : Nat} {v : Value} {n : Nat} {xs : List Value} (h : w.ownsRow base e size v n xs) (hn : 0 < n) : ∃ g cap, v = .slice (some ⟨g, 0, none⟩) n cap ∧ base ≤ g := by
  rcases h.2 with ⟨_, h0⟩ | ⟨g, cap, cur, rfl, hb, _⟩
  · omega
  · exact ⟨g, cap, rfl, hb⟩

set_option maxRecDepth 100000 in
set_option maxHeartbeats 400000 in
theorem thread_any (b t n : Nat) (v : Value) (xs : List Value) (w : World) (h : St b w v n xs) (ht : t ≤ 1024) (hn : n ≤ 2000) :
    Calls Yba.prog 6 #[.pointer (some ⟨b, 0, none⟩), .int .i64 t] w fun e w' => ∃ g cap, e = .returned (.pointer (some ⟨g, t * 4, none⟩)) ∧
      St b w' (.slice (some ⟨g, 0, none⟩) (max n (t + 1)) cap) (max n (t + 1)) (xs ++ Z (t + 1 - n)) ∧ Below b w w' ∧ b + 1 ≤ g ∧ (t < n → v = .slice (some ⟨g, 0, none⟩) n cap ∧ w' = w) := by
  obtain ⟨i, hi, hz0, hz1, hz2⟩ := info_parts Yba.info35
  go_enter Yba.func6, Yba.ntmps6
  go_wp2
  go_loopg [] (t + 1 - n) (fun k wr => ∃ m v', n ≤ m ∧ m ≤ max n (t + 1) ∧ k = t + 1 - m ∧ St b wr v' m (xs ++ Z (m - n)) ∧ Below b w wr ∧ (m = n → v' = v ∧ wr = w))
  case atStart => exact ⟨n, v, Nat.le_refl _, by omega, rfl, by simpa [Z] using h, Below.refl _ _, fun _ => ⟨rfl, rfl⟩⟩
  case round =>
    obtain ⟨m, v', h1, h2, hk, hst, hbel, hsame⟩ := hrel
    obtain ⟨hc, hf, hown, hlt⟩ := hst
    obtain ⟨ao, cap, rfl⟩ := ownsRow_shape hown
    have HK : Hid (gk = t + 1 - m) := hk
    have HS : Hid (m = n → Value.slice ao m cap = v ∧ wr = w) := hsame
    clear hk hsame
    by_cases hle : m ≤ t
    · go_wp2_with (at_builtin; refine wpList_append_own _ rfl (.tmp 16) (.tmp 18) 29 rfl (b + 1) 35 i (.agg #[.map none, .int .i32 0, .int .i64 0, .slice none 0 0]) 4 48 Yba.underlying29 hi hz0 hz1 hz2 rfl (by decide) _ m _ rfl (hown.alloc _) ⟨wr.heap.size, 0, none⟩ 1 1 zc rfl rfl ?c1 ?c2 (by unfold maxLen; omega) (by omega) (by simp; omega) ?_)
      case c1 =>
        intro j u hj
        match j, hj with
        | 0, hj => simp [zc] at hj; subst hj; simp [Addr.add]
        | 1, hj => simp [zc] at hj; subst hj; simp [Addr.add]
        | 2, hj => simp [zc] at hj; subst hj; simp [Addr.add]
        | 3, hj => simp [zc] at hj; subst hj; simp [Addr.add]
        | j + 4, hj => simp [zc] at hj
      case c2 =>
        intro u hu
        simp [zc] at hu
        rcases hu with rfl | rfl | rfl | rfl <;> rfl
      intro v' w1 hown' hgrow _
      obtain ⟨g', cap', hv', hg'⟩ := ownsRow_some hown' (by omega)
      subst hv'
      have hne : some b ≠ (Value.slice ao m cap).ownBlock := fun h => by have := hown.lt b h.symm; omega
      have hc1 : w1.cell? ⟨b, 3, none⟩ = some (Value.slice ao m cap) := hgrow.cell (a := ⟨b, 3, none⟩) ((World.cell?_alloc_past _ _ _ hlt).trans hc) hne
      have hf1 : w1.frozen? ⟨b, 3, none⟩ = false := by
        rw [World.frozen?_of_block (w := wr.alloc _) (hgrow.block b (by simp; omega) hne)]
        exact (World.frozen?_alloc_past _ _ _ hlt).trans hf
      have hbel1 : Below b w w1 := (hbel.alloc (by omega) _).grown hgrow (by simp; omega) (fun k hk => by have := (hown.lt k hk).1; omega)
      have hsz1 : b < w1.heap.size := by have := hgrow.size; simp at this; omega
      clear hgrow hne hc hf hbel hown h
      go_wp2
      go_roundg (t + 1 - (m + 1))
      case measure => have := HK.out; omega
      case rel =>
        have e : m + 1 - n = m - n + 1 := by omega
        refine ⟨m + 1, _, by omega, by omega, rfl, ⟨World.cell?_setCell_same _ _ _ hc1, (World.frozen?_setCell _ _ _ _).trans hf1, ?_, by simpa using hsz1⟩, hbel1.setCell (Nat.le_refl b) _, fun h => by omega⟩
        rw [e]
        exact ownsRow_setCell_below hown' (a := ⟨b, 3, none⟩) (Nat.lt_succ_self b) _
    · obtain ⟨g, cap', hv, hg⟩ := ownsRow_some hown (by omega)
      simp only [Value.slice.injEq, true_and] at hv
      obtain ⟨rfl, rfl⟩ := hv
      go_wp2
      go_ret
      have e : max n (t + 1) = m := by omega
      have e2 : Z (t + 1 - n) = Z (m - n) := by
        by_cases hh : m = n
        · subst hh; rw [show t + 1 - m = m - m by omega]
        · rw [show t + 1 - n = m - n by omega]
      rw [e, e2]
      refine ⟨g, cap, by simp, ⟨hc, hf, hown, hlt⟩, hbel, hg, fun h => ?_⟩
      obtain ⟨r1, r2⟩ := HS.out (by omega)
      have : m = n := by omega
      subst this
      exact ⟨r1.symm, r2⟩

/-- The entry is there already: nothing turns. -/
theorem thread_has (b t n g cap : Nat) (xs : List Value) (w : World) (h : St b w (.slice (some ⟨g, 0, none⟩) n cap) n xs) (ht : t ≤ 1024) (hn : n ≤ 2000) (htn : t < n) :
    Calls Yba.prog 6 #[.pointer (some ⟨b, 0, none⟩), .int .i64 t] w fun e w' => e = .returned (.pointer (some ⟨g, t * 4, none⟩)) ∧ w' = w := by
  refine (thread_any b t n _ xs w h ht hn).mono ?_
  rintro e w' ⟨g', cap', rfl, _, _, _, hs⟩
  obtain ⟨h1, h2⟩ := hs htn
  simp only [Value.slice.injEq, Option.some.injEq, Addr.mk.injEq, and_true, true_and] at h1
  obtain ⟨rfl, rfl⟩ := h1
  exact ⟨rfl, h2⟩

/-- A store into a lockset of the table. -/
theorem St.store {b g n cap : Nat} {w : World} {xs : List Value} (h : St b w (.slice (some ⟨g, 0, none⟩) n cap) n xs) (hg : b + 1 ≤ g) (j : Nat) (u : Value) :
    St b (w.setCell ⟨g, j, none⟩ u) (.slice (some ⟨g, 0, none⟩) n cap) n (xs.set j u) where
  cell := (World.cell?_setCell_other w ⟨g, j, none⟩ ⟨b, 3, none⟩ u (fun e => by injection e; omega)).trans h.cell
  free := (World.frozen?_setCell _ _ _ _).trans h.free
  own := (h.own.stored j u).1
  lt := by simpa using h.lt

/-- The table itself is stored into the field. -/
theorem St.put {b n : Nat} {w : World} {v old : Value} {xs : List Value} (hc : w.cell? ⟨b, 3, none⟩ = some old) (hf : w.frozen? ⟨b, 3, none⟩ = false) (ho : w.ownsRow (b + 1) 35 4 v n xs) (hl : b < w.heap.size) :
    St b (w.setCell ⟨b, 3, none⟩ v) v n xs where
  cell := World.cell?_setCell_same _ _ _ hc
  free := (World.frozen?_setCell _ _ _ _).trans hf
  own := ownsRow_setCell_below ho (a := ⟨b, 3, none⟩) (Nat.lt_succ_self b) _
  lt := by simpa using hl

theorem St.cellAt {b g n cap : Nat} {w : World} {xs : List Value} (h : St b w (.slice (some ⟨g, 0, none⟩) n cap) n xs) (j : Nat) (hj : j < n * 4) : w.cell? ⟨g, j, none⟩ = xs[j]? := h.own.cellAt j hj
theorem St.has {b g n cap : Nat} {w : World} {xs : List Value} (h : St b w (.slice (some ⟨g, 0, none⟩) n cap) n xs) (j : Nat) (hj : j < n * 4) : ∃ x, w.cell? ⟨g, j, none⟩ = some x := by
  rw [h.own.cellAt j hj]
  exact ⟨_, List.getElem?_eq_getElem (by have := h.own.1; omega)⟩
theorem St.freeAt {b g n cap : Nat} {w : World} {xs : List Value} (h : St b w (.slice (some ⟨g, 0, none⟩) n cap) n xs) (j : Nat) : w.frozen? ⟨g, j, none⟩ = false := h.own.frozenAt j
end Go.Proofs.Ybulkemg
