/- The walks of LawS0269BCloseThenRelease, more: functions 11 (the closure), 12 (releasingBody.Close), 5 (the law). -/
import Derived.Test.YbulkenwClose
namespace Go.Proofs.Ybulkenw
open Go.RowKit

set_option maxRecDepth 100000 in
set_option maxHeartbeats 400000 in
theorem release_any (L g cap base : Nat) (w : World)
    (l0 : w.cell? ⟨L, 0, none⟩ = some (.slice (some ⟨g, 0, none⟩) 1 cap)) (lf : w.frozen? ⟨L, 0, none⟩ = false) (hown : w.ownsRow base 3 1 (.slice (some ⟨g, 0, none⟩) 1 cap) 1 [.int .i64 1]) (hL : L < base) (hb : base ≤ w.heap.size) :
    Calls Yba.prog 11 #[.pointer (some ⟨L, 0, none⟩)] w fun e w' => e = .returned (.tuple #[]) ∧
      ∃ g cap, w'.cell? ⟨L, 0, none⟩ = some (.slice (some ⟨g, 0, none⟩) 2 cap) ∧ w'.ownsRow base 3 1 (.slice (some ⟨g, 0, none⟩) 2 cap) 2 [.int .i64 1, .int .i64 2] ∧ Below L w w' := by
  obtain ⟨i, hi, hz0, hz1, hz2⟩ := info_parts Yba.info3
  have hg := (hown.lt g rfl)
  go_enter Yba.func11, Yba.ntmps11
  go_wp2_with (at_builtin; refine wpList_append_lies _ rfl (.tmp 1) (.tmp 2) 48 rfl base 3 i (.int .i64 0) 1 8 Yba.underlying48 hi hz0 hz1 hz2 rfl (by decide) _ 1 _ rfl (hown.alloc _) ⟨w.heap.size, 0, none⟩ 1 1 [.int .i64 2] rfl rfl (cell_one_new _ _ _) (by simp [Value.oneCell']) (by omega) (by unfold maxLen; omega) (by omega) (by simp; omega) (w.heap.size + 1) (by simp) ?_)
  intro g' cap' w1 hown' hgrow _ hlt
  have hne : some L ≠ (Value.slice (some ⟨g, 0, none⟩) 1 cap).ownBlock := by simp [Value.ownBlock]; omega
  have k0 : w1.cell? ⟨L, 0, none⟩ = some (.slice (some ⟨g, 0, none⟩) 1 cap) := by
    rw [grownBy_cell hgrow (p := ⟨L, 0, none⟩) (by simp; omega) hne, World.cell?_alloc_past _ _ _ (by show L < w.heap.size; omega)]
    exact l0
  have k1 : w1.frozen? ⟨L, 0, none⟩ = false := by
    rw [grownBy_frozen hgrow (p := ⟨L, 0, none⟩) (by simp; omega) hne, World.frozen?_alloc_past _ _ _ (by show L < w.heap.size; omega)]
    exact lf
  have hb1 : Below L w w1 := ((Below.refl L w).alloc (by omega) _).grown hgrow (by simp; omega) (fun k hk => by simp [Value.ownBlock] at hk; omega)
  clear hgrow
  go_wp2
  go_end0
  exact ⟨rfl, g', cap', World.cell?_setCell_same _ _ _ k0, ownsRow_setCell_below hown' (a := ⟨L, 0, none⟩) hL _, hb1.setCell (Nat.le_refl L) _⟩

theorem method_close (a : Addr) (w : World) : (method 219 52 (.pointer (some a)) "Close").run Yba.prog w = .ok (45, .pointer (some a)) w := by kernel_rfl

set_option maxRecDepth 100000 in
set_option maxHeartbeats 400000 in
theorem close_any (L R C : Nat) (fl : Bool) (ev : Value) (w : World)
    (c0 : w.cell? ⟨C, 0, none⟩ = some (.iface 52 (.pointer (some ⟨R, 0, none⟩)))) (c1 : w.cell? ⟨C, 1, none⟩ = some (.func (.func 11) #[] #[.pointer (some ⟨L, 0, none⟩)]))
    (r0 : w.cell? ⟨R, 0, none⟩ = some (.pointer (some ⟨L, 0, none⟩))) (r1 : w.cell? ⟨R, 1, none⟩ = some (.bool fl)) (r2 : w.cell? ⟨R, 2, none⟩ = some ev)
    (l0 : w.cell? ⟨L, 0, none⟩ = some (.slice none 0 0)) (lf : w.frozen? ⟨L, 0, none⟩ = false) (hL : L < w.heap.size) (hR : R < w.heap.size) (hC : C < w.heap.size) (hne : R ≠ L) (hne' : C ≠ L) :
    Calls Yba.prog 12 #[.pointer (some ⟨C, 0, none⟩)] w fun e w' => e = .returned (handed fl ev) ∧
      ∃ g cap, w'.cell? ⟨L, 0, none⟩ = some (.slice (some ⟨g, 0, none⟩) 2 cap) ∧ w'.ownsRow w.heap.size 3 1 (.slice (some ⟨g, 0, none⟩) 2 cap) 2 [.int .i64 1, .int .i64 2] ∧ Below L w w' := by
  have hm := method_close ⟨R, 0, none⟩
  go_enter Yba.func12, Yba.ntmps12
  go_wp2_with fail
  refine (inner_close L R fl ev w r0 r1 r2 l0 lf hL hR hne).mono ?_
  rintro e w1 ⟨rfl, g, cap, q0, q1, hown, hgr⟩
  have d1 : w1.cell? ⟨C, 1, none⟩ = some (.func (.func 11) #[] #[.pointer (some ⟨L, 0, none⟩)]) := (grownBy_cell hgr (p := ⟨C, 1, none⟩) hC (by simp [hne'])).trans c1
  have hb1 : Below L w w1 := grownBy_below hgr (Nat.le_refl L) (by omega)
  have hs1 : w.heap.size ≤ w1.heap.size := hgr.size
  clear hgr
  go_wp2_with fail
  refine (release_any L g cap w.heap.size w1 q0 q1 hown hL hs1).mono ?_
  rintro e w2 ⟨rfl, g2, cap2, p0, hown2, hb2⟩
  go_wp2
  go_ret
  exact ⟨rfl, g2, cap2, p0, hown2, hb1.trans hb2⟩

set_option maxRecDepth 100000 in
theorem new_any (t : ByteArray) (w : World) : Calls Yba.prog 10 #[.string t] w fun e w' => e = .returned (.iface 82 (.pointer (some ⟨w.heap.size, 0, none⟩))) ∧ w' = w.alloc (.cells #[.string t] 84) := by
  go_enter Yba.func10, Yba.ntmps10
  go_wp2
  go_ret
  exact ⟨rfl, rfl⟩

theorem Yba.info82 : (Yba.prog.info? 82).map (fun i => i.comparable) = some true := by kernel_rfl
theorem Yba.info84 : (Yba.prog.info? 84).isSome = true := by kernel_rfl

set_option maxRecDepth 100000 in
set_option maxHeartbeats 800000 in
theorem law_close (fl : Bool) (w : World) : Calls Yba.prog 5 #[.bool fl] w fun e w' => e = .returned (.bool true) ∧ Below w.heap.size w w' := by
  obtain ⟨i82, hi82, hc82⟩ := Option.map_eq_some_iff.1 Yba.info82
  obtain ⟨i84, hi84⟩ := Option.isSome_iff_exists.1 Yba.info84
  have hq := fun (a : Addr) (w : World) => run_eql_iface_ptr_same (P := Yba.prog) w a Yba.underlying50 Yba.underlying82 hi82 hc82 hi84
  go_enter Yba.func5, Yba.ntmps5
  go_wp2_with fail
  refine (new_any _ _).mono ?_
  rintro e w1 ⟨rfl, rfl⟩
  generalize (Obj.cells #[Value.string _] 84) = ob
  go_wp2_with fail
  refine (close_any w.heap.size (w.heap.size + 1 + 1) (w.heap.size + 1 + 1 + 1) fl (.iface 82 (.pointer (some ⟨w.heap.size + 1, 0, none⟩))) _ ?_ ?_ ?_ ?_ ?_ ?_ ?_ ?_ ?_ ?_ ?_ ?_).mono ?_
  all_goals first | (simp [go_sem]; done) | (simp; omega) | skip
  rintro e w2 ⟨rfl, g, cap, p0, hown, hb⟩
  have q0 := hown.cellAt 0 (by omega)
  have q1 := hown.cellAt 1 (by omega)
  simp only [List.getElem?_cons_zero, List.getElem?_cons_succ] at q0 q1
  have hbel : Below w.heap.size w w2 := (((((Below.refl w.heap.size w).alloc (Nat.le_refl _) _).alloc (by simp) _).alloc (by simp; omega) _).alloc (by simp; omega) _).trans hb
  clear hown hb
  cases fl
  · have e1 : handed false (.iface 82 (.pointer (some ⟨w.heap.size + 1, 0, none⟩))) = .nilIface := rfl
    rw [e1]
    clear e1
    go_wp2
    go_ret
    exact ⟨rfl, hbel⟩
  · have e1 : handed true (.iface 82 (.pointer (some ⟨w.heap.size + 1, 0, none⟩))) = .iface 82 (.pointer (some ⟨w.heap.size + 1, 0, none⟩)) := rfl
    rw [e1]
    clear e1
    go_wp2
    go_ret
    exact ⟨rfl, hbel⟩
end Go.Proofs.Ybulkenw
