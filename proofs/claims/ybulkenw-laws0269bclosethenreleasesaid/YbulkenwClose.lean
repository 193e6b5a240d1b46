/- The walks of LawS0269BCloseThenRelease: functions 45, 11, 12, 5. -/
import Derived.Test.YbulkenwRows
import Derived.Test.YbulkenwLaws
import Derived.Deep.RegionLaw
namespace Go.Proofs.Ybulkenw
open Go.RowKit

theorem Yba.info3 : (Yba.prog.info? 3).map (fun i => (i.zero, i.size, i.bytes)) = some (some (.int .i64 0), 1, 8) := by kernel_rfl

theorem far {w w1 : World} {o : Obj} {row : Option Nat} (h : (w.alloc o).drew.grownBy w1 row) {p : Addr} (hp : p.block < w.heap.size) (hr : row = none) : w1.cell? p = w.cell? p ∧ w1.frozen? p = w.frozen? p := by
  subst hr
  have e : (w.alloc o).drew.heap[p.block]? = w.heap[p.block]? := Below.heap_alloc w o p.block hp
  have e2 := (h.block p.block (by show p.block < (w.heap.push o).size; simp; omega) (by simp)).trans e
  exact ⟨World.cell?_of_block e2, World.frozen?_of_block e2⟩

/-- What the inner Close hands back. -/
def handed (fl : Bool) (ev : Value) : Value := if fl then ev else .nilIface

set_option maxRecDepth 100000 in
set_option maxHeartbeats 400000 in
theorem inner_close (L R : Nat) (fl : Bool) (ev : Value) (w : World)
    (r0 : w.cell? ⟨R, 0, none⟩ = some (.pointer (some ⟨L, 0, none⟩))) (r1 : w.cell? ⟨R, 1, none⟩ = some (.bool fl)) (r2 : w.cell? ⟨R, 2, none⟩ = some ev)
    (l0 : w.cell? ⟨L, 0, none⟩ = some (.slice none 0 0)) (lf : w.frozen? ⟨L, 0, none⟩ = false) (hL : L < w.heap.size) (hR : R < w.heap.size) (_hne : R ≠ L) :
    Calls Yba.prog 45 #[.pointer (some ⟨R, 0, none⟩)] w fun e w' => e = .returned (handed fl ev) ∧
      ∃ g cap, w'.cell? ⟨L, 0, none⟩ = some (.slice (some ⟨g, 0, none⟩) 1 cap) ∧ w'.frozen? ⟨L, 0, none⟩ = false ∧ w'.ownsRow w.heap.size 3 1 (.slice (some ⟨g, 0, none⟩) 1 cap) 1 [.int .i64 1] ∧ w.grownBy w' (some L) := by
  obtain ⟨i, hi, hz0, hz1, hz2⟩ := info_parts Yba.info3
  go_enter Yba.func45, Yba.ntmps45
  go_wp2
  go_region_law (refine step_append_lies _ (by rfl) _ _ _ (by rfl) w.heap.size 3 i (.int .i64 0) 1 8 Yba.underlying48 hi hz0 hz1 hz2 rfl (by decide) (.slice none 0 0) 0 [] (by rfl) (World.ownsRow_nil _ _ _ _) ⟨w.heap.size, 0, none⟩ 1 1 [.int .i64 1] (by rfl) (by rfl) (World.news_of_block (cs := #[.int .i64 1]) (t := 3) (fr := (0, 0)) (heap_alloc_new w _)) (by simp [Value.oneCell']) (by omega) (by unfold maxLen; omega) (by omega) (by simp) (w.heap.size + 1) (by simp) ?_; intro g cap w1 hown hgrow hat hlt; have k0 := (far hgrow (p := ⟨R, 0, none⟩) hR rfl).1.trans r0; have k1 := (far hgrow (p := ⟨R, 1, none⟩) hR rfl).1.trans r1; have k2 := (far hgrow (p := ⟨R, 2, none⟩) hR rfl).1.trans r2; have k3 := (far hgrow (p := ⟨L, 0, none⟩) hL rfl).1.trans l0; have k4 := (far hgrow (p := ⟨L, 0, none⟩) hL rfl).2.trans lf; have HG := hide hgrow; clear hgrow)
  all_goals
    have hge : w.heap.size ≤ g := (hown.lt g rfl).1
    have hgr : w.grownBy (w1.setCell ⟨L, 0, none⟩ (.slice (some ⟨g, 0, none⟩) 1 cap)) (some L) :=
      grownBy_trans (grownBy_trans (grownBy_drew (grownBy_none (World.grownBy_alloc w _ none) _)) (grownBy_none (HG.out : World.grownBy _ w1 none) _)) (grownBy_set w1 L 0 _)
    have HR := hide hgr
    clear hgr
    cases fl
    all_goals
      go_wp2
      go_ret
      exact ⟨by simp [handed], g, cap, World.cell?_setCell_same _ _ _ k3, (World.frozen?_setCell _ _ _ _).trans k4, ownsRow_setCell_other hown (by simp [Value.ownBlock]; omega) _, HR.out⟩
end Go.Proofs.Ybulkenw
