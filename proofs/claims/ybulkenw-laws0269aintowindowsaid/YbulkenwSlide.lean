/- The contracts of slideTo (17) and addSuccesses (9). -/
import Derived.Test.YbulkenwWin
import Derived.Test.YbulkenwWords
import Derived.Deep.LoopGhost
import Derived.Deep.DeepCutAuto
import Derived.Deep.QuietTactic
import Derived.BigQuiet
namespace Go.Proofs.Ybulkenw
open Go.RowKit

theorem wrapEq (x : Int) : IntKind.i64.wrap x = wrap64 x := by rw [IntKind.wrap_i64]; unfold wrap64; rfl

theorem WS.steps_succ (k m : Nat) (σ : WS) : σ.steps k (m + 1) = (σ.step k).steps k m := rfl

set_option maxRecDepth 100000 in
set_option maxHeartbeats 1000000 in
theorem slideTo_any (p r k : Nat) (n : Int) (σ : WS) (w : World) (h : Win w p r k σ) (hn : σ.head < n) (hn2 : n ≤ 65535) :
    Calls Yba.prog 17 #[.pointer (some ⟨p, 0, none⟩), .int .i64 n] w fun e w' => (∃ a, e = .returned (.pointer (some a))) ∧ Win w' p r k (σ.slide k n) ∧ (σ.slide k n).head = n ∧ Tch p r w w' := by
  obtain ⟨kb1, kb2⟩ := h.kb
  obtain ⟨hh1, hh2⟩ := h.h0
  have h4 := h.c4
  have h5 := h.c5
  have h9 := h.c9
  by_cases hold : (k : Int) ≤ n - σ.head
  · have eold : σ.slide k n = σ.old n := by unfold WS.slide; rw [if_pos hold]
    have EO := hide eold
    clear eold
    go_enter Yba.func17, Yba.ntmps17
    go_wp2_with fail
    refine (reset_any p r k σ w h).mono ?_
    rintro e w1 ⟨rfl, hw1, ht1⟩
    have k9 := hw1.c9
    have z9 := hw1.zp 9
    have k5 := hw1.c5
    have z5 := hw1.zp 5
    clear h4 h5 h9
    go_wp2
    have hw2 := (hw1.setC σ.c).setHead n (by omega)
    have ht2 := (ht1.first 9 (.int .i64 σ.c)).first 5 (.int .i64 n)
    have ew : ((w1.setCell ⟨p, 9, none⟩ (.int .i64 σ.c)).setCell ⟨p, 5, none⟩ (.int .i64 n)) = ((w1.setCell ⟨p, 9, none⟩ (.int .i64 σ.c)).setCell ⟨p, 5, none⟩ (.int .i64 n)) := rfl
    generalize (w1.setCell ⟨p, 9, none⟩ (.int .i64 σ.c)).setCell ⟨p, 5, none⟩ (.int .i64 n) = w2 at hw2 ht2 ⊢
    clear ew k9 z9 k5 z5 hw1 ht1
    have k4 := hw2.c4
    have k5 := hw2.c5
    obtain ⟨j, hj⟩ : ∃ j : Nat, (j : Int) = n % k := ⟨(n % k).toNat, by have := Int.emod_nonneg n (show (k : Int) ≠ 0 by omega); omega⟩
    have hjk : (j : Int) < (k : Int) := by rw [hj]; exact Int.emod_lt_of_pos _ (by omega)
    have hj' := hj.symm
    clear hj
    refine wp_loop_rounds 1 ?_
    rw [rounds_succ]
    go_wp2
    go_quiet (fail)
    go_wp2
    go_ret
    rw [EO.out]
    exact ⟨⟨_, rfl⟩, hw2.drewN _, rfl, ht2.drewN _⟩
  · have eold : σ.slide k n = σ.steps k (n - σ.head).toNat := by unfold WS.slide; rw [if_neg hold]
    have EO := hide eold
    clear eold
    go_enter Yba.func17, Yba.ntmps17
    go_wp2
    go_loopg [] ((n - σ.head).toNat) (fun g wr => ∃ σ1, σ1.head + g = n ∧ Win wr p r k σ1 ∧ σ1.steps k g = σ.steps k (n - σ.head).toNat ∧ Tch p r w wr)
    case atStart => exact ⟨σ, by omega, h, rfl, Tch.refl _ _ _⟩
    case round =>
      clear h4 h5 h9 hold h
      obtain ⟨σ1, hg, hw1, hst, htc⟩ := hrel
      obtain ⟨hh1, hh2⟩ := hw1.h0
      have HS := hide (And.intro hg hst)
      have k4 := hw1.c4
      have k5 := hw1.c5
      have k6 := hw1.c6
      have k7 := hw1.c7
      have k8 := hw1.c8
      have z5 := hw1.zp 5
      have z6 := hw1.zp 6
      have z7 := hw1.zp 7
      have z8 := hw1.zp 8
      have hpr := hw1.ne
      by_cases hlt : σ1.head < n
      · obtain ⟨j, hj⟩ : ∃ j : Nat, (j : Int) = (σ1.head + 1) % k := ⟨((σ1.head + 1) % k).toNat, by have := Int.emod_nonneg (σ1.head + 1) (show (k : Int) ≠ 0 by omega); omega⟩
        have hjk : (j : Int) < (k : Int) := by rw [hj]; exact Int.emod_lt_of_pos _ (by omega)
        have hjk' : j < k := by omega
        have b0 := hw1.cb (j * 3) (by omega)
        have b1 := hw1.cb (j * 3 + 1) (by omega)
        have b2 := hw1.cb (j * 3 + 2) (by omega)
        obtain ⟨q0, q0'⟩ := hw1.bb (j * 3)
        obtain ⟨q1, q1'⟩ := hw1.bb (j * 3 + 1)
        obtain ⟨q2, q2'⟩ := hw1.bb (j * 3 + 2)
        have y0 := hw1.zr (j * 3)
        have y1 := hw1.zr (j * 3 + 1)
        have y2 := hw1.zr (j * 3 + 2)
        have hj' := hj.symm
        clear hg hst hj
        go_wp2
        go_quiet (fail)
        go_wp2
        go_region
        go_wp2
        go_region
        go_wp2
        go_region
        go_wp2
        go_roundg (gk - 1)
        case measure => have := HS.out.1; omega
        case rel =>
          have g1 := HS.out.1
          have g2 := HS.out.2
          have hjn : ((σ1.head + 1) % (k : Int)).toNat = j := by rw [hj']; omega
          have es : σ1.step k = { head := σ1.head + 1, s := wrap64 (σ1.s - σ1.bk (j * 3)), f := wrap64 (σ1.f - σ1.bk (j * 3 + 1)), t := wrap64 (σ1.t - σ1.bk (j * 3 + 2)), c := σ1.c, bk := fun i => if i = j * 3 + 2 then 0 else if i = j * 3 + 1 then 0 else if i = j * 3 then 0 else σ1.bk i } := by unfold WS.step; rw [hjn]
          refine ⟨σ1.step k, ?_, ?_, ?_, ?_⟩
          · rw [es]; show σ1.head + 1 + ((gk - 1 : Nat) : Int) = n; omega
          · rw [es]
            exact ((((((((hw1.setHead (σ1.head + 1) (by omega)).drewN _).setS _).setF _).setT _).setB (j * 3) 0 (by omega)).setB (j * 3 + 1) 0 (by omega)).setB (j * 3 + 2) 0 (by omega)).drew.drew
          · rw [← g2, ← WS.steps_succ, show gk - 1 + 1 = gk by omega]
          · exact ((((((((htc.first 5 _).drewN _).first 6 _).first 7 _).first 8 _).second (j * 3) _).second (j * 3 + 1) _).second (j * 3 + 2) _).drew.drew
      · clear hg hst
        have hge : σ1.head = n := by have := HS.out.1; omega
        obtain ⟨j, hj⟩ : ∃ j : Nat, (j : Int) = σ1.head % k := ⟨(σ1.head % k).toNat, by have := Int.emod_nonneg σ1.head (show (k : Int) ≠ 0 by omega); omega⟩
        have hjk : (j : Int) < (k : Int) := by rw [hj]; exact Int.emod_lt_of_pos _ (by omega)
        have hj' := hj.symm
        have HE := hide hge
        clear hge hj
        go_wp2
        go_quiet (fail)
        go_wp2
        go_ret
        have g1 := HS.out.1
        have g2 := HS.out.2
        have g0 : gk = 0 := by have := HE.out; omega
        rw [EO.out, ← g2, g0]
        exact ⟨⟨_, rfl⟩, hw1.drewN _, HE.out, htc.drewN _⟩

set_option maxRecDepth 100000 in
set_option maxHeartbeats 1000000 in
theorem add_any (p r k : Nat) (n c : Int) (σ : WS) (w : World) (h : Win w p r k σ) (hn : 0 ≤ n) (hn2 : n ≤ 65535) (hc : 0 ≤ c) (hc2 : c ≤ 65535) :
    Calls Yba.prog 9 #[.pointer (some ⟨p, 0, none⟩), .int .i64 n, .int .i64 c] w fun e w' => e = .returned (.tuple #[]) ∧ Win w' p r k (σ.add k n c) ∧ Tch p r w w' := by
  obtain ⟨kb1, kb2⟩ := h.kb
  obtain ⟨hh1, hh2⟩ := h.h0
  have h9 := h.c9
  have z9 := h.zp 9
  have h5 := h.c5
  have hw0 := h.setC 0
  have ht0 := (Tch.refl p r w).first 9 (.int .i64 0)
  go_enter Yba.func9, Yba.ntmps9
  go_upto_if 16 with fail
  go_cut [] (fun wx => ∃ σ1, σ.add k n c = σ1.put k n c ∧ Win wx p r k σ1 ∧ Tch p r w wx)
  case first =>
    by_cases hlt : σ.head < n
    · go_wp2_with fail
      refine (slideTo_any p r k n _ _ hw0 hlt hn2).mono ?_
      rintro e w1 ⟨⟨a, rfl⟩, hw1, _, ht1⟩
      go_wp2
      go_meet
      case rel => exact ⟨_, by unfold WS.add; rw [if_pos (by omega)], hw1, ht0.trans ht1⟩
    · go_wp2
      go_meet
      case rel => exact ⟨_, by unfold WS.add; rw [if_neg (by omega)], hw0, ht0⟩
  case rest =>
    clear hw0 ht0 h9 z9 h5
    obtain ⟨σ1, he, hw1, ht1⟩ := hcut
    have HE := hide he
    clear he
    obtain ⟨g1, g2⟩ := hw1.h0
    have k4 := hw1.c4
    have k5 := hw1.c5
    have k6 := hw1.c6
    have z6 := hw1.zp 6
    by_cases hge : (k : Int) ≤ σ1.head - n
    · go_wp2
      refine bodyPost_ret (results_none rfl _ _ _) rfl ?_
      rw [HE.out]
      unfold WS.put
      rw [if_pos (by omega)]
      exact ⟨rfl, hw1, ht1⟩
    · obtain ⟨j, hj⟩ : ∃ j : Nat, (j : Int) = n % k := ⟨(n % k).toNat, by have := Int.emod_nonneg n (show (k : Int) ≠ 0 by omega); omega⟩
      have hjk : (j : Int) < (k : Int) := by rw [hj]; exact Int.emod_lt_of_pos _ (by omega)
      have hjk' : j < k := by omega
      have b0 := hw1.cb (j * 3) (by omega)
      obtain ⟨q0, q0'⟩ := hw1.bb (j * 3)
      have y0 := hw1.zr (j * 3)
      have hpr := hw1.ne
      have hj' := hj.symm
      clear hj
      go_wp2
      go_region
      go_wp2
      go_end0
      have hjn : (n % (k : Int)).toNat = j := by rw [hj']; omega
      have ep : σ1.put k n c = { head := σ1.head, s := wrap64 (σ1.s + c), f := σ1.f, t := σ1.t, c := σ1.c, bk := fun i => if i = j * 3 then (σ1.bk (j * 3) + c) % 4294967296 else σ1.bk i } := by
        unfold WS.put
        rw [if_neg (by omega), hjn]
      rw [HE.out, ep]
      exact ⟨rfl, ((hw1.setB (j * 3) _ (by omega)).setS _).drew, ((ht1.second (j * 3) _).first 6 _).drew⟩
end Go.Proofs.Ybulkenw
