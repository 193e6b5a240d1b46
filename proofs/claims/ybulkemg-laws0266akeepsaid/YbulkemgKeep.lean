/- The walk of LawS0266AKeep: function 4. -/
import Derived.Test.YbulkemgThread
import Derived.Deep.QuietTactic
import Derived.BigQuiet
namespace Go.Proofs.Ybulkemg
open Go.RowKit

theorem getElem?_set_other (xs : List Value) (i j : Nat) (u : Value) (h : i ≠ j) : (xs.set i u)[j]? = xs[j]? := List.getElem?_set_ne h

set_option maxRecDepth 100000 in
set_option maxHeartbeats 1000000 in
theorem keep_made (k t u : Nat) (a3 : Int) (hk : k ≤ 255) (ht : t ≤ 1024) (hu : u ≤ 1024) (hn : 0 < k) (w : World) :
    Calls Yba.prog 4 #[.int .u8 k, .int .i64 t, .int .i64 u, .int .i32 a3] w fun e w' => e = .returned (.bool true) ∧ Below w.heap.size w w' := by
  obtain ⟨i, hi, hz0, hz1, hz2⟩ := info_parts Yba.info35
  have hn' : (0 : Int) < (k : Int) := by omega
  obtain ⟨j, hj, _⟩ := info_parts Yba.info35
  have hq1 := run_eql_ptr_same (P := Yba.prog) Yba.underlying36 hj
  have hq2 := run_neq_ptr_same (P := Yba.prog) Yba.underlying36 hj
  go_enter Yba.func4, Yba.ntmps4
  go_wp2_with (at_make; refine wpList_make_full _ rfl (.tmp 36) (.tmp 36) 29 rfl (w.heap.size + 1) 35 i (.agg #[.map none, .int .i32 0, .int .i64 0, .slice none 0 0]) 4 Yba.underlying29 hi hz0 hz1 .i64 .i64 _ _ (k % 8) rfl rfl (by omega) (by omega) (by rw [hz2]; omega) (by unfold maxLen; omega) (by simp) ?_)
  intro w1 hown hgrow
  have hsz1 : w.heap.size < w1.heap.size := by have := hgrow.size; simp at this; omega
  have hc1 : w1.cell? ⟨w.heap.size, 3, none⟩ = some (.slice none 0 0) := hgrow.cell (a := ⟨w.heap.size, 3, none⟩) (by simp) (by simp)
  have hf1 : w1.frozen? ⟨w.heap.size, 3, none⟩ = false := by
    rw [World.frozen?_of_block (w := w.alloc _) (hgrow.block w.heap.size (by simp) (by simp))]
    simp
  have hst := St.put hc1 hf1 hown hsz1
  have hb1 : Below w.heap.size w (w1.setCell ⟨w.heap.size, 3, none⟩ (.slice (some ⟨w.heap.size + 1, 0, none⟩) (k % 8) (k % 8))) :=
    ((((Below.refl w.heap.size w).alloc (Nat.le_refl _) _).grown hgrow (by simp) (by simp))).setCell (Nat.le_refl _) _
  clear hown hgrow
  go_wp2_with fail
  refine (thread_any _ t _ _ _ _ hst ht (by omega)).mono ?_
  rintro e w2 ⟨g, cap, rfl, hst2, hbel2, hg2, _⟩
  have hb2 := hb1.trans hbel2
  clear hst hb1 hbel2
  obtain ⟨n2, hn2⟩ : ∃ n2, n2 = max (k % 8) (t + 1) := ⟨_, rfl⟩
  rw [← hn2] at hst2
  have htn : t < n2 := by omega
  have hn2' : n2 ≤ 1030 := by omega
  clear hn2
  obtain ⟨xs2, hst2⟩ : ∃ xs2, St w.heap.size w2 (.slice (some ⟨g, 0, none⟩) n2 cap) n2 xs2 := ⟨_, hst2⟩
  obtain ⟨x1, hx1⟩ := hst2.has (t * 4 + 1) (by omega)
  obtain ⟨x2, hx2⟩ := hst2.has (t * 4 + 2) (by omega)
  have hf1 := hst2.freeAt (t * 4 + 1)
  have hf2 := hst2.freeAt (t * 4 + 2)
  have hst3 := (hst2.store hg2 (t * 4 + 1) (.int .i32 a3)).store hg2 (t * 4 + 2) (.int .i64 7)
  have hb3 := (hb2.setCell (p := ⟨g, t * 4 + 1, none⟩) (by simp; omega) (.int .i32 a3)).setCell (p := ⟨g, t * 4 + 2, none⟩) (by simp; omega) (.int .i64 7)
  have HX : Hid ((((xs2.set (t * 4 + 1) (.int .i32 a3)).set (t * 4 + 2) (.int .i64 7)))[t * 4 + 1]? = some (.int .i32 a3) ∧ (((xs2.set (t * 4 + 1) (.int .i32 a3)).set (t * 4 + 2) (.int .i64 7)))[t * 4 + 2]? = some (.int .i64 7)) := by
    have hl := hst2.own.1
    refine ⟨?_, ?_⟩
    · rw [getElem?_set_other _ _ _ _ (by omega), List.getElem?_set_self (by omega)]
    · rw [List.getElem?_set_self (by simp; omega)]
  generalize hxs3 : (xs2.set (t * 4 + 1) (.int .i32 a3)).set (t * 4 + 2) (.int .i64 7) = xs3 at hst3 HX
  clear hxs3 hst2 hb2
  go_wp2_with fail
  refine (thread_any _ u _ _ _ _ hst3 hu (by omega)).mono ?_
  rintro e w4 ⟨g4, cap4, rfl, hst4, hbel4, hg4, _⟩
  have hb4 := hb3.trans hbel4
  have hl3 := hst3.own.1
  clear hst3 hb3 hbel4 hx1 hx2 hf1 hf2
  obtain ⟨n4, hn4⟩ : ∃ n4, n4 = max n2 (u + 1) := ⟨_, rfl⟩
  rw [← hn4] at hst4
  have htn4 : t < n4 := by omega
  have hun4 : u < n4 := by omega
  have hn4' : n4 ≤ 2000 := by omega
  clear hn4
  have hy1 : w4.cell? ⟨g4, t * 4 + 1, none⟩ = some (.int .i32 a3) := by
    rw [hst4.cellAt _ (by omega), List.getElem?_append_left (by omega)]; exact HX.out.1
  have hy2 : w4.cell? ⟨g4, t * 4 + 2, none⟩ = some (.int .i64 7) := by
    rw [hst4.cellAt _ (by omega), List.getElem?_append_left (by omega)]; exact HX.out.2
  generalize hxs4 : xs3 ++ Z (u + 1 - n2) = xs4 at hst4
  clear hxs4 hl3
  have hc4 := hst4.cell
  go_wp2_with fail
  refine (thread_has _ t _ _ _ _ _ hst4 ht (by omega) htn4).mono ?_
  rintro e w5 ⟨rfl, rfl⟩
  go_wp2_with fail
  refine (thread_has _ t _ _ _ _ _ hst4 ht (by omega) htn4).mono ?_
  rintro e w6 ⟨rfl, rfl⟩
  go_wp2
  go_ret
  exact ⟨by simp, hb4⟩

set_option maxRecDepth 100000 in
set_option maxHeartbeats 1000000 in
theorem keep_nil (t u : Nat) (a3 : Int) (ht : t ≤ 1024) (hu : u ≤ 1024) (w : World) :
    Calls Yba.prog 4 #[.int .u8 0, .int .i64 t, .int .i64 u, .int .i32 a3] w fun e w' => e = .returned (.bool true) ∧ Below w.heap.size w w' := by
  have hst : St w.heap.size (w.alloc (.cells #[.slice none 0 0, .map none, .slice none 0 0, .slice none 0 0] 31)) (.slice none 0 0) 0 [] :=
    ⟨by simp, by simp, World.ownsRow_nil _ _ _ _, by simp⟩
  have hb1 : Below w.heap.size w (w.alloc (.cells #[.slice none 0 0, .map none, .slice none 0 0, .slice none 0 0] 31)) := (Below.refl w.heap.size w).alloc (Nat.le_refl _) _
  obtain ⟨j, hj, _⟩ := info_parts Yba.info35
  have hq1 := run_eql_ptr_same (P := Yba.prog) Yba.underlying36 hj
  have hq2 := run_neq_ptr_same (P := Yba.prog) Yba.underlying36 hj
  go_enter Yba.func4, Yba.ntmps4
  go_wp2_with fail
  refine (thread_any _ t _ _ _ _ hst ht (by omega)).mono ?_
  rintro e w2 ⟨g, cap, rfl, hst2, hbel2, hg2, _⟩
  have hb2 := hb1.trans hbel2
  clear hst hb1 hbel2
  obtain ⟨n2, hn2⟩ : ∃ n2, n2 = max 0 (t + 1) := ⟨_, rfl⟩
  rw [← hn2] at hst2
  have htn : t < n2 := by omega
  have hn2' : n2 ≤ 1030 := by omega
  clear hn2
  obtain ⟨xs2, hst2⟩ : ∃ xs2, St w.heap.size w2 (.slice (some ⟨g, 0, none⟩) n2 cap) n2 xs2 := ⟨_, hst2⟩
  obtain ⟨x1, hx1⟩ := hst2.has (t * 4 + 1) (by omega)
  obtain ⟨x2, hx2⟩ := hst2.has (t * 4 + 2) (by omega)
  have hf1 := hst2.freeAt (t * 4 + 1)
  have hf2 := hst2.freeAt (t * 4 + 2)
  have hst3 := (hst2.store hg2 (t * 4 + 1) (.int .i32 a3)).store hg2 (t * 4 + 2) (.int .i64 7)
  have hb3 := (hb2.setCell (p := ⟨g, t * 4 + 1, none⟩) (by simp; omega) (.int .i32 a3)).setCell (p := ⟨g, t * 4 + 2, none⟩) (by simp; omega) (.int .i64 7)
  have HX : Hid ((((xs2.set (t * 4 + 1) (.int .i32 a3)).set (t * 4 + 2) (.int .i64 7)))[t * 4 + 1]? = some (.int .i32 a3) ∧ (((xs2.set (t * 4 + 1) (.int .i32 a3)).set (t * 4 + 2) (.int .i64 7)))[t * 4 + 2]? = some (.int .i64 7)) := by
    have hl := hst2.own.1
    refine ⟨?_, ?_⟩
    · rw [getElem?_set_other _ _ _ _ (by omega), List.getElem?_set_self (by omega)]
    · rw [List.getElem?_set_self (by simp; omega)]
  generalize hxs3 : (xs2.set (t * 4 + 1) (.int .i32 a3)).set (t * 4 + 2) (.int .i64 7) = xs3 at hst3 HX
  clear hxs3 hst2 hb2
  go_wp2_with fail
  refine (thread_any _ u _ _ _ _ hst3 hu (by omega)).mono ?_
  rintro e w4 ⟨g4, cap4, rfl, hst4, hbel4, hg4, _⟩
  have hb4 := hb3.trans hbel4
  have hl3 := hst3.own.1
  clear hst3 hb3 hbel4 hx1 hx2 hf1 hf2
  obtain ⟨n4, hn4⟩ : ∃ n4, n4 = max n2 (u + 1) := ⟨_, rfl⟩
  rw [← hn4] at hst4
  have htn4 : t < n4 := by omega
  have hun4 : u < n4 := by omega
  have hn4' : n4 ≤ 2000 := by omega
  clear hn4
  have hy1 : w4.cell? ⟨g4, t * 4 + 1, none⟩ = some (.int .i32 a3) := by
    rw [hst4.cellAt _ (by omega), List.getElem?_append_left (by omega)]; exact HX.out.1
  have hy2 : w4.cell? ⟨g4, t * 4 + 2, none⟩ = some (.int .i64 7) := by
    rw [hst4.cellAt _ (by omega), List.getElem?_append_left (by omega)]; exact HX.out.2
  generalize hxs4 : xs3 ++ Z (u + 1 - n2) = xs4 at hst4
  clear hxs4 hl3
  have hc4 := hst4.cell
  go_wp2_with fail
  refine (thread_has _ t _ _ _ _ _ hst4 ht (by omega) htn4).mono ?_
  rintro e w5 ⟨rfl, rfl⟩
  go_wp2_with fail
  refine (thread_has _ t _ _ _ _ _ hst4 ht (by omega) htn4).mono ?_
  rintro e w6 ⟨rfl, rfl⟩
  go_wp2
  go_ret
  exact ⟨by simp, hb4⟩

set_option maxRecDepth 100000 in
set_option maxHeartbeats 400000 in
theorem keep_out (a0 a1 a2 a3 : Int) (h : ¬ (0 ≤ a1 ∧ a1 ≤ 1024 ∧ 0 ≤ a2 ∧ a2 ≤ 1024)) (w : World) :
    Calls Yba.prog 4 #[.int .u8 a0, .int .i64 a1, .int .i64 a2, .int .i32 a3] w fun e w' => e = .returned (.bool true) ∧ Below w.heap.size w w' := by
  have h' : ((a1 < 0 ∨ 1024 < a1) ∨ a2 < 0) ∨ 1024 < a2 := by omega
  clear h
  rcases h' with ((h | h) | h) | h
  all_goals
    go_enter Yba.func4, Yba.ntmps4
    go_wp2
    all_goals go_ret
    all_goals exact ⟨rfl, Below.refl _ _⟩

end Go.Proofs.Ybulkemg
