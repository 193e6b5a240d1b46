/- Blocks known whole; a heap of heads: what 'down' (11) does. -/
import Derived.Test.YbulkemgThread
import Derived.WalkSmall
import Derived.Deep.Draws
import Derived.Deep.LoopGhost
import Derived.Deep.DeepCutAuto
import Derived.Deep.QuietTactic
import Derived.BigQuiet
namespace Go.Proofs.Ybulkemg
open Go Go.RowKit

/-- Block b is a row of the cells cs, of type t, none of them frozen. -/
def Blk (w : World) (b : Nat) (t : TypeId) (cs : List Value) : Prop := w.heap[b]? = some (.cells cs.toArray t (0, 0))

section
variable {w : World} {b : Nat} {t : TypeId} {cs : List Value}
theorem Blk.cell (h : Blk w b t cs) (j : Nat) : w.cell? ⟨b, j, none⟩ = cs[j]? := by
  rw [cell_of_row w b j _ t _ h]; simp
theorem Blk.free (h : Blk w b t cs) (j : Nat) : w.frozen? ⟨b, j, none⟩ = false := frozen_of_row w b j _ t h
theorem Blk.lt (h : Blk w b t cs) : b < w.heap.size := lt_of_block h
theorem Blk.set (h : Blk w b t cs) (j : Nat) (v : Value) : Blk (w.setCell ⟨b, j, none⟩ v) b t (cs.set j v) := by
  have := heap_setCell_same w b j cs.toArray t v h
  simpa [Blk] using this
theorem Blk.keep {w' : World} (h : Blk w b t cs) (hk : w'.heap[b]? = w.heap[b]?) : Blk w' b t cs := hk.trans h
theorem Blk.other (h : Blk w b t cs) {c : Nat} (hc : c ≠ b) (j : Nat) (v : Value) : Blk (w.setCell ⟨c, j, none⟩ v) b t cs := h.keep (Below.heap_setCell _ _ _ _ (fun e => hc e.symm))
theorem Blk.ne (h : Blk w b t cs) {c : Nat} {t' : TypeId} {cs' : List Value} (h' : Blk w c t' cs') (ht : t ≠ t') : b ≠ c := by
  rintro rfl
  unfold Blk at h h'
  rw [h] at h'
  simp at h'
  exact ht h'.2
theorem Blk.alloc (h : Blk w b t cs) (o : Obj) : Blk (w.alloc o) b t cs := h.keep (Below.heap_alloc _ _ _ h.lt)
theorem Blk.new (w : World) (cs : List Value) (t : TypeId) : Blk (w.alloc (.cells cs.toArray t)) w.heap.size t cs := heap_alloc_new w _
theorem Blk.drewN (h : Blk w b t cs) (n : Nat) : Blk (w.drewN n) b t cs := h
theorem Blk.drew (h : Blk w b t cs) : Blk w.drew b t cs := h
end

/-- From w to w' only blocks of the types in L, from B on, and new ones, changed. -/
structure KX (B : Nat) (L : List TypeId) (w w' : World) : Prop where
  bel : Below B w w'
  keep : ∀ b t cs, Blk w b t cs → t ∉ L → w'.heap[b]? = w.heap[b]?

section
variable {B : Nat} {L : List TypeId} {w w' w2 : World}
theorem KX.refl (B : Nat) (L : List TypeId) (w : World) : KX B L w w := ⟨Below.refl _ _, fun _ _ _ _ _ => rfl⟩
theorem KX.blk (h : KX B L w w') {b : Nat} {t : TypeId} {cs : List Value} (hb : Blk w b t cs) (ht : t ∉ L) : Blk w' b t cs := hb.keep (h.keep b t cs hb ht)
theorem KX.trans (h : KX B L w w') (h2 : KX B L w' w2) : KX B L w w2 :=
  ⟨h.bel.trans h2.bel, fun b t cs hb ht => (h2.keep b t cs (h.blk hb ht) ht).trans (h.keep b t cs hb ht)⟩
theorem KX.mono (h : KX B L w w') {B' : Nat} {L' : List TypeId} (hB : B' ≤ B) (hL : ∀ t, t ∈ L → t ∈ L') : KX B' L' w w' :=
  ⟨h.bel.mono hB, fun b t cs hb ht => h.keep b t cs hb (fun h' => ht (hL t h'))⟩
theorem KX.alloc (h : KX B L w w') (hB : B ≤ w'.heap.size) (o : Obj) : KX B L w (w'.alloc o) :=
  ⟨h.bel.alloc hB o, fun b t cs hb ht => (Below.heap_alloc _ _ _ (h.blk hb ht).lt).trans (h.keep b t cs hb ht)⟩
theorem KX.set (h : KX B L w w') {c : Nat} {tc : TypeId} {cs0 : List Value} (hc : Blk w' c tc cs0) (htc : tc ∈ L) (hB : B ≤ c) (j : Nat) (v : Value) : KX B L w (w'.setCell ⟨c, j, none⟩ v) :=
  ⟨h.bel.setCell hB v, fun b t cs hb ht => by
    have h1 := h.blk hb ht
    have hne : t ≠ tc := fun e => ht (e ▸ htc)
    exact (Below.heap_setCell _ _ _ _ (h1.ne hc hne)).trans (h.keep b t cs hb ht)⟩
theorem KX.drew (h : KX B L w w') : KX B L w w'.drew := ⟨h.bel.drew, h.keep⟩
theorem KX.drewN (h : KX B L w w') (n : Nat) : KX B L w (w'.drewN n) := ⟨⟨h.bel.os, h.bel.tape, h.bel.output, h.bel.size, h.bel.block⟩, h.keep⟩
theorem KX.grown (h : KX B L w w') {e : TypeId} {size : Nat} {v : Value} {n : Nat} {xs : List Value} (ho : w'.ownsRow B e size v n xs) (he : e ∈ L) (hB : B ≤ w'.heap.size) (hg : w'.grownBy w2 v.ownBlock) : KX B L w w2 := by
  have hne : ∀ b t cs, Blk w' b t cs → t ∉ L → some b ≠ v.ownBlock := by
    intro b t cs hb ht
    rcases ho.2 with ⟨rfl, _⟩ | ⟨g, cap, cur, rfl, _, hgg, _⟩
    · simp [Value.ownBlock]
    · simp only [Value.ownBlock]
      intro e1
      cases e1
      unfold Blk at hb
      rw [hb] at hgg
      simp at hgg
      exact ht (hgg.2 ▸ he)
  refine ⟨h.bel.grown hg hB ?_, fun b t cs hb ht => ?_⟩
  · rcases ho.2 with ⟨rfl, _⟩ | ⟨g, cap, cur, rfl, hb, _⟩
    · intro k hk; simp [Value.ownBlock] at hk
    · intro k hk; simp only [Value.ownBlock, Option.some.injEq] at hk; omega
  · have h1 := h.blk hb ht
    exact (hg.block b h1.lt (hne b t cs h1 ht)).trans (h.keep b t cs hb ht)
end

/-- A head: its line, its run, where the run has come to. -/
abbrev T3 := Int × Int × Int

/-- The first n heads of a row. -/
def Hd (w : World) (hb : Nat) (n : Nat) (f : Nat → T3) : Prop :=
  ∃ cs, Blk w hb 68 cs ∧ ∀ j, j < n → cs[j * 3]? = some (.int .i64 (f j).1) ∧ cs[j * 3 + 1]? = some (.int .i64 (f j).2.1) ∧ cs[j * 3 + 2]? = some (.int .i64 (f j).2.2)

def upd (f : Nat → T3) (i : Nat) (x : T3) : Nat → T3 := fun j => if j = i then x else f j
def kid (n : Nat) (f : Nat → T3) (i : Nat) : Nat := if 2 * i + 2 < n ∧ (f (2 * i + 2)).1 < (f (2 * i + 1)).1 then 2 * i + 2 else 2 * i + 1
def dn : Nat → Nat → (Nat → T3) → T3 → Nat → (Nat → T3)
  | 0, _, f, x, i => upd f i x
  | g + 1, n, f, x, i => if n ≤ 2 * i + 1 then upd f i x else if x.1 < (f (kid n f i)).1 then upd f i x else dn g n (upd f i (f (kid n f i))) x (kid n f i)

section
variable {w : World} {hb n : Nat} {f : Nat → T3}
theorem Hd.put (h : Hd w hb n f) (i : Nat) (hi : i < n) (x : T3) :
    Hd (((w.setCell ⟨hb, i * 3, none⟩ (.int .i64 x.1)).setCell ⟨hb, i * 3 + 1, none⟩ (.int .i64 x.2.1)).setCell ⟨hb, i * 3 + 2, none⟩ (.int .i64 x.2.2)) hb n (upd f i x) := by
  obtain ⟨cs, h1, h2⟩ := h
  refine ⟨_, ((h1.set _ _).set _ _).set _ _, fun j hj => ?_⟩
  obtain ⟨a0, a1, a2⟩ := h2 j hj
  obtain ⟨b0, b1, b2⟩ := h2 i hi
  have l0 := (List.getElem?_eq_some_iff.1 b0).1
  have l1 := (List.getElem?_eq_some_iff.1 b1).1
  have l2 := (List.getElem?_eq_some_iff.1 b2).1
  unfold upd
  by_cases e : j = i
  · subst e
    rw [if_pos rfl]
    refine ⟨?_, ?_, ?_⟩
    · rw [List.getElem?_set_ne (by omega), List.getElem?_set_ne (by omega), List.getElem?_set_self l0]
    · rw [List.getElem?_set_ne (by omega), List.getElem?_set_self (by simpa using l1)]
    · rw [List.getElem?_set_self (by simpa using l2)]
  · rw [if_neg e]
    refine ⟨?_, ?_, ?_⟩
    all_goals
      rw [List.getElem?_set_ne (by omega), List.getElem?_set_ne (by omega), List.getElem?_set_ne (by omega)]
      assumption
theorem Hd.blk (h : Hd w hb n f) : ∃ cs, Blk w hb 68 cs := let ⟨cs, h1, _⟩ := h; ⟨cs, h1⟩
theorem Hd.at (h : Hd w hb n f) (j : Nat) (hj : j < n) : w.cell? ⟨hb, j * 3, none⟩ = some (.int .i64 (f j).1) ∧ w.cell? ⟨hb, j * 3 + 1, none⟩ = some (.int .i64 (f j).2.1) ∧ w.cell? ⟨hb, j * 3 + 2, none⟩ = some (.int .i64 (f j).2.2) := by
  obtain ⟨cs, h1, h2⟩ := h
  rw [h1.cell, h1.cell, h1.cell]
  exact h2 j hj
theorem Hd.keep {w' : World} (h : Hd w hb n f) (hk : w'.heap[hb]? = w.heap[hb]?) : Hd w' hb n f := let ⟨cs, h1, h2⟩ := h; ⟨cs, h1.keep hk, h2⟩
theorem Hd.free (h : Hd w hb n f) (j : Nat) : w.frozen? ⟨hb, j, none⟩ = false := let ⟨_, h1, _⟩ := h; h1.free j
theorem Hd.lt (h : Hd w hb n f) : hb < w.heap.size := let ⟨_, h1, _⟩ := h; h1.lt
end

set_option maxRecDepth 100000 in
set_option maxHeartbeats 1000000 in
/-- The walk of 'down' (11). -/
theorem down_walk (hb n cap i : Nat) (f : Nat → T3) (w : World) (hn : n ≤ 4) (hi : i < n) (h : Hd w hb n f) :
    Calls Yba.prog 11 #[.slice (some ⟨hb, 0, none⟩) n cap, .int .i64 (i : Nat)] w fun e w' => e = .returned (.tuple #[]) ∧ Hd w' hb n (dn 4 n f (f i) i) ∧ KX hb [68] w w' := by
  obtain ⟨a0, a1, a2⟩ := h.at i hi
  obtain ⟨F, hF⟩ : ∃ F, dn 4 n f (f i) i = F := ⟨_, rfl⟩
  rw [hF]
  go_enter Yba.func11, Yba.ntmps11
  go_wp2_with fail
  have hx0 := Blk.new w [.int .i64 (f i).1, .int .i64 (f i).2.1, .int .i64 (f i).2.2] 68
  have hlt := h.lt
  have hh0 := h.keep (Below.heap_alloc w (.cells #[.int .i64 (f i).1, .int .i64 (f i).2.1, .int .i64 (f i).2.2] 68) hb hlt)
  have hk0 := (KX.refl hb [68] w).alloc (Nat.le_of_lt hlt) (.cells #[.int .i64 (f i).1, .int .i64 (f i).2.1, .int .i64 (f i).2.2] 68)
  have hne : w.heap.size ≠ hb := by omega
  generalize w.alloc (.cells #[.int .i64 (f i).1, .int .i64 (f i).2.1, .int .i64 (f i).2.2] 68) = w1 at hx0 hh0 hk0 ⊢
  generalize w.heap.size = xb at hx0 hne ⊢
  generalize f i = x at hF hx0
  have HF := hide hF
  clear hF a0 a1 a2 h hlt
  go_loopg [1] 4 (fun g s1 wr => ∃ j f', s1 = .int .i64 (j : Nat) ∧ j < n ∧ 4 - g ≤ j ∧ g ≤ 4 ∧ Hid (dn g n f' x j = F) ∧ Hd wr hb n f' ∧ Blk wr xb 68 [.int .i64 x.1, .int .i64 x.2.1, .int .i64 x.2.2] ∧ KX hb [68] w wr)
  case atStart => exact ⟨i, f, rfl, hi, by omega, by omega, HF, hh0, hx0, hk0⟩
  case round =>
    clear hh0 hx0 hk0 HF hi
    obtain ⟨j, f', rfl, hj, hgj, hg4, HF, hh, hx, hk⟩ := hrel
    have x0 : wr.cell? ⟨xb, 0, none⟩ = some (.int .i64 x.1) := by rw [hx.cell]; rfl
    have x1 : wr.cell? ⟨xb, 1, none⟩ = some (.int .i64 x.2.1) := by rw [hx.cell]; rfl
    have x2 : wr.cell? ⟨xb, 2, none⟩ = some (.int .i64 x.2.2) := by rw [hx.cell]; rfl
    obtain ⟨j0, j1, j2⟩ := hh.at j hj
    have z0 := hh.free (j * 3)
    have z1 := hh.free (j * 3 + 1)
    have z2 := hh.free (j * 3 + 2)
    obtain ⟨g, rfl⟩ : ∃ g, gk = g + 1 := ⟨gk - 1, by omega⟩
    obtain ⟨c, hc⟩ : ∃ c : Nat, 2 * (j : Int) + 1 = (c : Nat) := ⟨2 * j + 1, by omega⟩
    by_cases hcn : c < n
    · have hcn' : ¬ (n : Int) ≤ (c : Int) := by omega
      obtain ⟨c0, c1, c2⟩ := hh.at c hcn
      go_upto_region 3 with fail
      obtain ⟨d, hd⟩ : ∃ d : Nat, (c : Int) + 1 = (d : Nat) := ⟨c + 1, by omega⟩
      go_cut [35] (fun s35 wx => s35 = .bool (decide (d < n ∧ (f' d).1 < (f' c).1)) ∧ Hd wx hb n f' ∧ Blk wx xb 68 [.int .i64 x.1, .int .i64 x.2.1, .int .i64 x.2.2] ∧ KX hb [68] w wx)
      case first =>
        by_cases hdn : d < n
        · have hdn' : decide ((d : Int) < (n : Int)) = true := by simp; omega
          obtain ⟨d0, _, _⟩ := hh.at d hdn
          by_cases hl : (f' d).1 < (f' c).1
          · go_quiet (fail)
            go_wp2
            go_meet
            case rel => exact ⟨by simp [hdn, hl], hh, hx, hk.drewN _⟩
          · go_quiet (fail)
            go_wp2
            go_meet
            case rel => exact ⟨by simp [hl], hh, hx, hk.drewN _⟩
        · have hdn' : decide ((d : Int) < (n : Int)) = false := by simp; omega
          go_quiet (fail)
          go_wp2
          go_meet
          case rel => exact ⟨by simp [hdn], hh, hx, hk.drewN _⟩
      case rest =>
       clear c0 c1 c2 hh hx hk x0 x1 x2 j0 j1 j2 z0 z1 z2
       obtain ⟨rfl, hh, hx, hk⟩ := hcut
       go_upto_if 35 with fail
       go_cut [5] (fun s5 wx => s5 = .int .i64 ((kid n f' j : Nat) : Int) ∧ wx = wc)
       case first =>
         by_cases hdc : d < n ∧ (f' d).1 < (f' c).1
         · have e1 : kid n f' j = d := by unfold kid; rw [show 2 * j + 2 = d by omega, show 2 * j + 1 = c by omega, if_pos hdc]
           have E1 := hide e1
           clear e1
           have hdc' : decide (d < n ∧ (f' d).1 < (f' c).1) = true := by simp [hdc]
           go_wp2
           go_meet
           case rel => exact ⟨by rw [E1.out], rfl⟩
         · have e1 : kid n f' j = c := by unfold kid; rw [show 2 * j + 2 = d by omega, show 2 * j + 1 = c by omega, if_neg hdc]
           have E1 := hide e1
           clear e1
           have hdc' : decide (d < n ∧ (f' d).1 < (f' c).1) = false := by simpa using hdc
           go_wp2
           go_meet
           case rel => exact ⟨by rw [E1.out], rfl⟩
       case rest =>
        obtain ⟨rfl, rfl⟩ := hcut
        have hkn : kid n f' j < n := by unfold kid; split <;> omega
        have hjk : j < kid n f' j := by unfold kid; split <;> omega
        have HK : Hid (dn (g + 1) n f' x j = if x.1 < (f' (kid n f' j)).1 then upd f' j x else dn g n (upd f' j (f' (kid n f' j))) x (kid n f' j)) := by
          show dn (g + 1) n f' x j = _
          rw [dn, if_neg (by omega)]
        generalize kid n f' j = e at hkn hjk HK ⊢
        have x0 : wc.cell? ⟨xb, 0, none⟩ = some (.int .i64 x.1) := by rw [hx.cell]; rfl
        have x1 : wc.cell? ⟨xb, 1, none⟩ = some (.int .i64 x.2.1) := by rw [hx.cell]; rfl
        have x2 : wc.cell? ⟨xb, 2, none⟩ = some (.int .i64 x.2.2) := by rw [hx.cell]; rfl
        obtain ⟨j0, j1, j2⟩ := hh.at j hj
        have z0 := hh.free (j * 3)
        have z1 := hh.free (j * 3 + 1)
        have z2 := hh.free (j * 3 + 2)
        obtain ⟨e0, e1, e2⟩ := hh.at e hkn
        go_upto_region 5 with fail
        by_cases hl : x.1 < (f' e).1
        · go_quiet (fail)
          go_wp2
          go_end0
          refine ⟨rfl, ?_, ?_⟩
          · have h1 := HF.out
            rw [HK.out, if_pos hl] at h1
            rw [← h1]
            exact hh.put j hj x
          · obtain ⟨cs, hcs⟩ := hh.blk
            exact (((hk.drewN _).set hcs (by simp) (Nat.le_refl _) _ _).set (hcs.set _ _) (by simp) (Nat.le_refl _) _ _).set ((hcs.set _ _).set _ _) (by simp) (Nat.le_refl _) _ _
        · go_quiet (fail)
          go_wp2
          go_roundg g
          case measure => omega
          case rel =>
            obtain ⟨cs, hcs⟩ := hh.blk
            refine ⟨e, upd f' j (f' e), rfl, hkn, by omega, by omega, ?_, hh.put j hj (f' e), ((Blk.other (Blk.drewN hx _) (Ne.symm hne) _ _).other (Ne.symm hne) _ _).other (Ne.symm hne) _ _, (((hk.drewN _).set hcs (by simp) (Nat.le_refl _) _ _).set (hcs.set _ _) (by simp) (Nat.le_refl _) _ _).set ((hcs.set _ _).set _ _) (by simp) (Nat.le_refl _) _ _⟩
            have h1 := HF.out
            rw [HK.out, if_neg (by omega)] at h1
            exact h1
    · have hcn' : (n : Int) ≤ (c : Int) := by omega
      go_wp2
      go_end0
      refine ⟨rfl, ?_, ?_⟩
      · have := HF.out
        rw [dn, if_pos (by omega)] at this
        rw [← this]
        exact hh.put j hj x
      · obtain ⟨cs, hcs⟩ := hh.blk
        exact ((hk.set hcs (by simp) (Nat.le_refl _) _ _).set (hcs.set _ _) (by simp) (Nat.le_refl _) _ _).set ((hcs.set _ _).set _ _) (by simp) (Nat.le_refl _) _ _
end Go.Proofs.Ybulkemg
