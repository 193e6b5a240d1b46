/- The walk of LawS0266AGrow: function 3. -/
import Derived.Test.YbulkemgRow
import Derived.OpenShut
import Derived.Deep.QuietTactic
import Derived.BigQuiet
namespace Go.Proofs.Ybulkemg
open Go.RowKit

set_option maxRecDepth 100000 in
set_option maxHeartbeats 1000000 in
theorem grow_made (x : Addr) (n cap0 t : Nat) (zs : List Int) (w : World) (hnc : n ≤ cap0) (hz : zs.length = cap0)
    (hcell : ∀ i, i < zs.length → w.cell? (x.add i) = some (.int .i32 (zs.getD i 0))) (hn : n ≤ 1024) (ht : t ≤ 1024) :
    Calls Yba.prog 3 #[.slice (some x) n cap0, .int .i64 t] w fun e w' => e = .returned (.bool true) ∧ Below w.heap.size w w' := by
  obtain ⟨i, hi, hz0, hz1, hz2⟩ := info_parts Yba.info35
  have hq2 := run_neq_ptr_same (P := Yba.prog) Yba.underlying36 hi
  have hq3 := fun w r => run_neq_map_nil (P := Yba.prog) w 33 3 4 r Yba.underlying33
  have hq4 := fun w a n c => run_neq_slice_nil_any (P := Yba.prog) w 26 3 a n c 0 0 Yba.underlying26
  have hq5 := fun w a n c => run_neq_slice_nil_any (P := Yba.prog) w 22 21 a n c 0 0 Yba.underlying22
  go_enter Yba.func3, Yba.ntmps3
  go_wp2_with (at_make; refine wpList_make_full _ rfl (.tmp 28) (.tmp 28) 29 rfl (w.heap.size + 1) 35 i (.agg #[.map none, .int .i32 0, .int .i64 0, .slice none 0 0]) 4 Yba.underlying29 hi hz0 hz1 .i64 .i64 _ _ n rfl rfl (by omega) (by omega) (by rw [hz2]; omega) (by unfold maxLen; omega) (by simp) ?_)
  intro w1 hown hgrow
  have hsz1 : w.heap.size < w1.heap.size := by have := hgrow.size; simp at this; omega
  have hc1 : w1.cell? ⟨w.heap.size, 3, none⟩ = some (.slice none 0 0) := hgrow.cell (a := ⟨w.heap.size, 3, none⟩) (by simp) (by simp)
  have hf1 : w1.frozen? ⟨w.heap.size, 3, none⟩ = false := by
    rw [World.frozen?_of_block (w := w.alloc _) (hgrow.block w.heap.size (by simp) (by simp))]
    simp
  have hst := St.put hc1 hf1 hown hsz1
  have hb1 : Below w.heap.size w (w1.setCell ⟨w.heap.size, 3, none⟩ (.slice (some ⟨w.heap.size + 1, 0, none⟩) n n)) :=
    ((((Below.refl w.heap.size w).alloc (Nat.le_refl _) _).grown hgrow (by simp) (by simp))).setCell (Nat.le_refl _) _
  clear hown hgrow
  go_wp2
  go_loopw [7] (fun v wr => ∃ k xs, k ≤ n ∧ v = .int .i64 (k : Nat) ∧ St w.heap.size wr (.slice (some ⟨w.heap.size + 1, 0, none⟩) n n) n xs ∧ Lk xs n (fun j => if j < k then zs.getD j 0 else 0) (fun j => if j < k then j else 0) ∧ Below w.heap.size w wr)
    (fun v _ => n - (intOf v).toNat)
  case atStart =>
    exact ⟨0, _, Nat.zero_le _, rfl, hst, (Lk_made n).congr (by simp) (by simp), hb1⟩
  case round =>
    clear hst hb1 hc1 hf1 hsz1
    obtain ⟨k, xs, hk, rfl, hst, hlk, hbel⟩ := hrel
    by_cases hlt : k < n
    · obtain ⟨xb, xo, rfl, hcs⟩ := ints_at hcell (by omega)
      have hxb : xb < w.heap.size := World.block_lt_of_cell? w _ (hcs k (by omega))
      have hcx : wr.cell? ⟨xb, xo + k, none⟩ = some (.int .i32 (zs.getD k 0)) := (hbel.cell (by exact hxb)).trans (hcs k (by omega))
      have hc := hst.cell
      obtain ⟨y0, hy0⟩ := hst.has (k * 4) (by omega)
      obtain ⟨y1, hy1⟩ := hst.has (k * 4 + 1) (by omega)
      obtain ⟨y2, hy2⟩ := hst.has (k * 4 + 2) (by omega)
      obtain ⟨y3, hy3⟩ := hst.has (k * 4 + 3) (by omega)
      have f0 := hst.freeAt (k * 4)
      have f1 := hst.freeAt (k * 4 + 1)
      have f2 := hst.freeAt (k * 4 + 2)
      have f3 := hst.freeAt (k * 4 + 3)
      have hlti : (k : Int) < (n : Int) := by omega
      go_wp2
      go_region
      go_wp2
      go_roundw
      case rel =>
        have hg : w.heap.size + 1 ≤ w.heap.size + 1 := Nat.le_refl _
        refine ⟨k + 1, _, by omega, by go_num, ((((hst.store hg (k * 4) _).store hg (k * 4 + 1) _).store hg (k * 4 + 2) _).store hg (k * 4 + 3) _).drew, (hlk.put k hlt _ _).congr ?_ ?_, ?_⟩
        · intro j _
          by_cases e : j = k
          · subst e; simp
          · by_cases e2 : j < k
            · simp [e, e2, show j < k + 1 by omega]
            · simp [e, e2, show ¬ j < k + 1 by omega]
        · intro j _
          by_cases e : j = k
          · subst e; simp
          · by_cases e2 : j < k
            · simp [e, e2, show j < k + 1 by omega]
            · simp [e, e2, show ¬ j < k + 1 by omega]
        · exact ((((hbel.setCell (by simp) _).setCell (by simp) _).setCell (by simp) _).setCell (by simp) _).drew
      case measure => simp [intOf]; omega
    · go_wp2_with fail
      have ek : k = n := by omega
      subst ek
      refine (thread_any _ t _ _ _ _ hst ht (by omega)).mono ?_
      rintro e w2 ⟨g, cap, rfl, hst2, hbel2, hg2, hsame⟩
      have hlk2 := (hlk.grow (t + 1 - k)).congr (f' := fun j => if j < k then zs.getD j 0 else 0) (s' := fun j => if j < k then j else 0) (by intro j _; by_cases e : j < k <;> simp [e]) (by intro j _; by_cases e : j < k <;> simp [e])
      have hb2 := hbel.trans hbel2
      obtain ⟨m, hm⟩ : ∃ m, m = max k (t + 1) := ⟨_, rfl⟩
      rw [← hm] at hst2
      rw [show k + (t + 1 - k) = m by omega] at hlk2
      obtain ⟨xs2, hst3, hlk3⟩ : ∃ xs2, St w.heap.size w2 (.slice (some ⟨g, 0, none⟩) m cap) m xs2 ∧ Lk xs2 m (fun j => if j < k then zs.getD j 0 else 0) (fun j => if j < k then j else 0) := ⟨_, hst2, hlk2⟩
      clear hst hlk hbel hbel2 hsame hst2 hlk2
      have hc2 := hst3.cell
      have htm : t < m := by omega
      by_cases hkt : k < t + 1
      · have hkt' : (k : Int) < (t : Int) + 1 := by omega
        have em : m = t + 1 := by omega
        clear hm
        subst em
        go_wp2
        go_loopw [10] (fun v wr => ∃ q, q ≤ (t + 1) ∧ v = .int .i64 (q : Nat) ∧ St w.heap.size wr (.slice (some ⟨g, 0, none⟩) (t + 1) cap) (t + 1) xs2 ∧ Below w.heap.size w wr) (fun v _ => (t + 1) - (intOf v).toNat)
        case atStart => exact ⟨0, Nat.zero_le _, rfl, hst3, hb2⟩
        case round =>
          clear hst3 hb2 hc2
          obtain ⟨q, hq, rfl, hst, hbel⟩ := hrel
          by_cases hqm : q < (t + 1)
          · have hqmi : (q : Int) < ((t : Int) + 1) := by omega
            have hc := hst.cell
            have hg : g < wr.heap.size := (hst.own.lt g rfl).2
            obtain ⟨l0, l1, l2, l3⟩ := hlk3.2 q hqm
            have c0 : wr.cell? ⟨g, q * 4, none⟩ = some (.map none) := (hst.cellAt _ (by omega)).trans l0
            have c1 := (hst.cellAt (q * 4 + 1) (by omega)).trans l1
            have c2 := (hst.cellAt (q * 4 + 2) (by omega)).trans l2
            have c3 : wr.cell? ⟨g, q * 4 + 3, none⟩ = some (.slice none 0 0) := (hst.cellAt _ (by omega)).trans l3
            clear l0 l1 l2 l3
            by_cases hqk : q < k
            · have hqki : (q : Int) < (k : Nat) := by omega
              obtain ⟨xb, xo, rfl, hcs⟩ := ints_at hcell (by omega)
              have hxb : xb < w.heap.size := World.block_lt_of_cell? w _ (hcs q (by omega))
              have hxb' : xb < wr.heap.size := by have := hbel.size; omega
              have hcx : wr.cell? ⟨xb, xo + q, none⟩ = some (.int .i32 (zs.getD q 0)) := (hbel.cell (by exact hxb)).trans (hcs q (by omega))
              have c1' : wr.cell? ⟨g, q * 4 + 1, none⟩ = some (.int .i32 (zs.getD q 0)) := by simpa [hqk] using c1
              have c2' : wr.cell? ⟨g, q * 4 + 2, none⟩ = some (.int .i64 q) := by simpa [hqk] using c2
              clear c1 c2
              go_wp2
              go_quiet (fail)
              go_wp2
              go_roundw
              case rel => exact ⟨q + 1, by omega, by go_num, (hst.alloc _).drewN _, below_drewN (hbel.alloc (by have := hbel.size; omega) _) _⟩
              case measure => simp [intOf]; omega
            · have hqki : ¬ (q : Int) < (k : Nat) := by omega
              have c1' : wr.cell? ⟨g, q * 4 + 1, none⟩ = some (.int .i32 0) := by simpa [hqk] using c1
              have c2' : wr.cell? ⟨g, q * 4 + 2, none⟩ = some (.int .i64 0) := by simpa [hqk] using c2
              clear c1 c2
              go_wp2
              go_roundw
              case rel => exact ⟨q + 1, by omega, by go_num, hst.alloc _, hbel.alloc (by have := hbel.size; omega) _⟩
              case measure => simp [intOf]; omega
          · have hqe : q = (t + 1) := by omega
            have hqmi : ¬ (q : Int) < ((t : Int) + 1) := by omega
            clear hqe
            go_wp2
            go_ret
            exact ⟨rfl, hbel⟩
      · have hkt' : ¬ (k : Int) < (t : Int) + 1 := by omega
        have em : m = k := by omega
        clear hm
        subst em
        go_wp2
        go_loopw [10] (fun v wr => ∃ q, q ≤ m ∧ v = .int .i64 (q : Nat) ∧ St w.heap.size wr (.slice (some ⟨g, 0, none⟩) (m) cap) (m) xs2 ∧ Below w.heap.size w wr) (fun v _ => m - (intOf v).toNat)
        case atStart => exact ⟨0, Nat.zero_le _, rfl, hst3, hb2⟩
        case round =>
          clear hst3 hb2 hc2
          obtain ⟨q, hq, rfl, hst, hbel⟩ := hrel
          by_cases hqm : q < m
          · have hqmi : (q : Int) < ((m : Nat)) := by omega
            have hc := hst.cell
            have hg : g < wr.heap.size := (hst.own.lt g rfl).2
            obtain ⟨l0, l1, l2, l3⟩ := hlk3.2 q hqm
            have c0 : wr.cell? ⟨g, q * 4, none⟩ = some (.map none) := (hst.cellAt _ (by omega)).trans l0
            have c1 := (hst.cellAt (q * 4 + 1) (by omega)).trans l1
            have c2 := (hst.cellAt (q * 4 + 2) (by omega)).trans l2
            have c3 : wr.cell? ⟨g, q * 4 + 3, none⟩ = some (.slice none 0 0) := (hst.cellAt _ (by omega)).trans l3
            clear l0 l1 l2 l3
            by_cases hqk : q < m
            · have hqki : (q : Int) < (m : Nat) := by omega
              obtain ⟨xb, xo, rfl, hcs⟩ := ints_at hcell (by omega)
              have hxb : xb < w.heap.size := World.block_lt_of_cell? w _ (hcs q (by omega))
              have hxb' : xb < wr.heap.size := by have := hbel.size; omega
              have hcx : wr.cell? ⟨xb, xo + q, none⟩ = some (.int .i32 (zs.getD q 0)) := (hbel.cell (by exact hxb)).trans (hcs q (by omega))
              have c1' : wr.cell? ⟨g, q * 4 + 1, none⟩ = some (.int .i32 (zs.getD q 0)) := by simpa [hqk] using c1
              have c2' : wr.cell? ⟨g, q * 4 + 2, none⟩ = some (.int .i64 q) := by simpa [hqk] using c2
              clear c1 c2
              go_wp2
              go_quiet (fail)
              go_wp2
              go_roundw
              case rel => exact ⟨q + 1, by omega, by go_num, (hst.alloc _).drewN _, below_drewN (hbel.alloc (by have := hbel.size; omega) _) _⟩
              case measure => simp [intOf]; omega
            · exact absurd hqm hqk
          · have hqe : q = m := by omega
            have hqmi : ¬ (q : Int) < ((m : Nat)) := by omega
            clear hqe
            go_wp2
            go_ret
            exact ⟨rfl, hbel⟩

set_option maxRecDepth 100000 in
set_option maxHeartbeats 1000000 in
theorem grow_nil (t : Nat) (w : World) (ht : t ≤ 1024) :
    Calls Yba.prog 3 #[.slice none 0 0, .int .i64 t] w fun e w' => e = .returned (.bool true) ∧ Below w.heap.size w w' := by
  obtain ⟨i, hi, hz0, hz1, hz2⟩ := info_parts Yba.info35
  have hq2 := run_neq_ptr_same (P := Yba.prog) Yba.underlying36 hi
  have hq3 := fun w r => run_neq_map_nil (P := Yba.prog) w 33 3 4 r Yba.underlying33
  have hq4 := fun w a n c => run_neq_slice_nil_any (P := Yba.prog) w 26 3 a n c 0 0 Yba.underlying26
  have hq5 := fun w a n c => run_neq_slice_nil_any (P := Yba.prog) w 22 21 a n c 0 0 Yba.underlying22
  have hst : St w.heap.size (w.alloc (.cells #[.slice none 0 0, .map none, .slice none 0 0, .slice none 0 0] 31)) (.slice none 0 0) 0 [] :=
    ⟨by simp, by simp, World.ownsRow_nil _ _ _ _, by simp⟩
  have hb1 : Below w.heap.size w (w.alloc (.cells #[.slice none 0 0, .map none, .slice none 0 0, .slice none 0 0] 31)) := (Below.refl w.heap.size w).alloc (Nat.le_refl _) _
  go_enter Yba.func3, Yba.ntmps3
  go_wp2_with fail
  refine (thread_any _ t _ _ _ _ hst ht (by omega)).mono ?_
  rintro e w2 ⟨g, cap, rfl, hst2, hbel2, hg2, hsame⟩
  have hlk2 := ((Lk_nil (fun _ => 0) (fun _ => 0)).grow (t + 1)).congr (f' := fun _ => 0) (s' := fun _ => 0) (by simp) (by simp)
  have hb2 := hb1.trans hbel2
  rw [show max 0 (t + 1) = t + 1 by omega, show t + 1 - 0 = t + 1 by omega] at hst2
  rw [show 0 + (t + 1) = t + 1 by omega] at hlk2
  obtain ⟨xs2, hst3, hlk3⟩ : ∃ xs2, St w.heap.size w2 (.slice (some ⟨g, 0, none⟩) (t + 1) cap) (t + 1) xs2 ∧ Lk xs2 (t + 1) (fun _ => 0) (fun _ => 0) := ⟨_, hst2, hlk2⟩
  clear hst hb1 hbel2 hsame hst2 hlk2
  have hc2 := hst3.cell
  have hpos : (0 : Int) < (t : Int) + 1 := by omega
  go_wp2
  go_loopw [10] (fun v wr => ∃ q, q ≤ (t + 1) ∧ v = .int .i64 (q : Nat) ∧ St w.heap.size wr (.slice (some ⟨g, 0, none⟩) (t + 1) cap) (t + 1) xs2 ∧ Below w.heap.size w wr) (fun v _ => (t + 1) - (intOf v).toNat)
  case atStart => exact ⟨0, Nat.zero_le _, rfl, hst3, hb2⟩
  case round =>
    clear hst3 hb2 hc2
    obtain ⟨q, hq, rfl, hst, hbel⟩ := hrel
    by_cases hqm : q < (t + 1)
    · have hqmi : (q : Int) < ((t : Int) + 1) := by omega
      have hc := hst.cell
      have hg : g < wr.heap.size := (hst.own.lt g rfl).2
      obtain ⟨l0, l1, l2, l3⟩ := hlk3.2 q hqm
      have c0 : wr.cell? ⟨g, q * 4, none⟩ = some (.map none) := (hst.cellAt _ (by omega)).trans l0
      have c1 := (hst.cellAt (q * 4 + 1) (by omega)).trans l1
      have c2 := (hst.cellAt (q * 4 + 2) (by omega)).trans l2
      have c3 : wr.cell? ⟨g, q * 4 + 3, none⟩ = some (.slice none 0 0) := (hst.cellAt _ (by omega)).trans l3
      clear l0 l1 l2 l3
      have c1' : wr.cell? ⟨g, q * 4 + 1, none⟩ = some (.int .i32 0) := by simpa using c1
      have c2' : wr.cell? ⟨g, q * 4 + 2, none⟩ = some (.int .i64 0) := by simpa using c2
      have hq0 : ¬ (q : Int) < 0 := by omega
      clear c1 c2
      go_wp2
      go_roundw
      case rel => exact ⟨q + 1, by omega, by go_num, hst.alloc _, hbel.alloc (by have := hbel.size; omega) _⟩
      case measure => simp [intOf]; omega
    · have hqe : q = (t + 1) := by omega
      have hqmi : ¬ (q : Int) < ((t : Int) + 1) := by omega
      clear hqe
      go_wp2
      go_ret
      exact ⟨rfl, hbel⟩

set_option maxRecDepth 100000 in
set_option maxHeartbeats 400000 in
theorem grow_out (a : Option Addr) (n c : Nat) (t : Int) (h : 1024 < n ∨ t < 0 ∨ 1024 < t) (w : World) :
    Calls Yba.prog 3 #[.slice a n c, .int .i64 t] w fun e w' => e = .returned (.bool true) ∧ Below w.heap.size w w' := by
  by_cases h0 : 1024 < n
  · go_enter Yba.func3, Yba.ntmps3
    go_wp2
    go_ret
    exact ⟨rfl, Below.refl _ _⟩
  · rcases (show t < 0 ∨ 1024 < t by omega) with h1 | h1
    all_goals
      clear h
      go_enter Yba.func3, Yba.ntmps3
      go_wp2
      all_goals go_ret
      all_goals exact ⟨rfl, Below.refl _ _⟩
end Go.Proofs.Ybulkemg
