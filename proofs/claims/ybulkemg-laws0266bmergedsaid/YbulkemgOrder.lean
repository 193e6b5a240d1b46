/- The walk of (*Store).order (7). -/
import Derived.Test.YbulkemgMerge
namespace Go.Proofs.Ybulkemg
open Go Go.RowKit

theorem Fast.length {R : Rs} {i : Nat} {ps : List Pt} (h : Fast R i ps) : ps.length = i := by rw [h.parts]; simp

set_option maxRecDepth 100000 in
set_option maxHeartbeats 2000000 in
theorem order_walk (R : Rs) (ok : R.Ok) (B sb rb : Nat) (C G : Nat → Nat) (T : Nat → Int) (a0 a1 a5 a6 a7 a8 : Value) (ro : Option Addr) (rc ib il icap : Nat) (xs : List Value) (w : World) (hB : B ≤ sb) (hr : Rn w R rb C G T) (hro : 0 < R.m → ro = some ⟨rb, 0, none⟩)
    (hs : Blk w sb 59 (sto a0 a1 (.slice ro R.m rc) (.slice (some ⟨ib, 0, none⟩) il icap) (.slice none 0 0) a5 a6 a7 a8)) (hio : w.ownsRow B 61 3 (.slice (some ⟨ib, 0, none⟩) il icap) il xs) :
    Calls Yba.prog 7 #[.pointer (some ⟨sb, 0, none⟩)] w fun e w' => e = .returned (.tuple #[]) ∧ Ordered R B sb (fun io he => sto a0 a1 (.slice ro R.m rc) io he a5 a6 a7 a8) w w' := by
  obtain ⟨i61, hi61, z61, s61, b61⟩ := info_parts Yba.info61
  have hBw : B ≤ w.heap.size := Nat.le_of_lt (Nat.lt_of_le_of_lt hB hs.lt)
  have c3 : w.cell? ⟨sb, 3, none⟩ = some (.slice (some ⟨ib, 0, none⟩) il icap) := by rw [hs.cell]; rfl
  have z3 := hs.free 3
  have hk1 : KX B [59] w (w.setCell ⟨sb, 3, none⟩ (.slice (some ⟨ib, 0, none⟩) 0 icap)) := (KX.refl B [59] w).set hs (by simp) hB _ _
  have hs1 : Blk (w.setCell ⟨sb, 3, none⟩ (.slice (some ⟨ib, 0, none⟩) 0 icap)) sb 59 (sto a0 a1 (.slice ro R.m rc) (.slice (some ⟨ib, 0, none⟩) 0 icap) (.slice none 0 0) a5 a6 a7 a8) := hs.set 3 (.slice (some ⟨ib, 0, none⟩) 0 icap)
  have hio1 := own_keep (own_cut hio) hk1 (by simp)
  have hr1 := hr.keep hk1 (by simp) (by simp) (by simp)
  have hkk : KX B [59, 61, 68] w (w.setCell ⟨sb, 3, none⟩ (.slice (some ⟨ib, 0, none⟩) 0 icap)) := hk1.mono (Nat.le_refl _) (by simp)
  have c2' : (w.setCell ⟨sb, 3, none⟩ (.slice (some ⟨ib, 0, none⟩) 0 icap)).cell? ⟨sb, 2, none⟩ = some (.slice ro R.m rc) := by rw [hs1.cell]; rfl
  have hicap : 0 ≤ icap := Nat.zero_le _
  have hm4 := ok.m4
  go_enter Yba.func7, Yba.ntmps7
  go_upto_region 1 with fail
  generalize w.setCell ⟨sb, 3, none⟩ (.slice (some ⟨ib, 0, none⟩) 0 icap) = w1 at hk1 hs1 hio1 hr1 hkk c2' ⊢
  clear hk1 c3 z3 hio hr hs hicap
  go_wp2_with fail
  clear c2'
  go_loopg [17] R.m (fun g s17 wr => ∃ i ps ib icap, i ≤ R.m ∧ Hid (g = R.m - i) ∧ s17 = .int .i64 (i : Nat) ∧ Hid (Fast R i ps) ∧ Rn wr R rb C G T ∧ Blk wr sb 59 (sto a0 a1 (.slice ro R.m rc) (.slice (some ⟨ib, 0, none⟩) i icap) (.slice none 0 0) a5 a6 a7 a8) ∧ wr.ownsRow B 61 3 (.slice (some ⟨ib, 0, none⟩) i icap) i (cellsP ps) ∧ KX B [59, 61, 68] w wr)
  case atStart => exact ⟨0, [], ib, icap, Nat.zero_le _, rfl, rfl, Fast.zero R, hr1, hs1, hio1, hkk⟩
  case round =>
    clear hs1 hio1 hr1 hkk
    obtain ⟨i, ps, ib, icap, hi, HG, rfl, HF, hr, hs, hio, hk⟩ := hrel
    by_cases hlt : i < R.m
    · have hlt' : (i : Int) < (R.m : Int) := by omega
      obtain rfl := hro (by omega)
      obtain ⟨r0, r1, r2⟩ := hr.run hlt
      go_upto_region 4 with fail
      clear r0 r1 r2
      have hwB : B ≤ wr.heap.size := Nat.le_trans hBw hk.bel.size
      have hk4 : KX B [59, 61, 68] w (wr.alloc (.cells #[.int .i64 (T i), .pointer (some ⟨C i, 0, none⟩), .int .i64 (R.F i)] 63)) := hk.alloc hwB _
      have hka : KX B [] wr (wr.alloc (.cells #[.int .i64 (T i), .pointer (some ⟨C i, 0, none⟩), .int .i64 (R.F i)] 63)) := (KX.refl B [] wr).alloc hwB _
      have hx4 := Blk.new wr [.int .i64 (T i), .pointer (some ⟨C i, 0, none⟩), .int .i64 (R.F i)] 63
      have hr4 := hr.keep hka (by simp) (by simp) (by simp)
      have hs4 := hka.blk hs (by simp)
      have hio4 := own_keep hio hka (by simp)
      clear hk hka hr hs hio hwB
      generalize wr.alloc (.cells #[.int .i64 (T i), .pointer (some ⟨C i, 0, none⟩), .int .i64 (R.F i)] 63) = w4 at *
      generalize wr.heap.size = xb at *
      have x1 : w4.cell? ⟨xb, 1, none⟩ = some (.pointer (some ⟨C i, 0, none⟩)) := by rw [hx4.cell]; rfl
      have x2 : w4.cell? ⟨xb, 2, none⟩ = some (.int .i64 (R.F i)) := by rw [hx4.cell]; rfl
      obtain ⟨ccap, x3, hbc⟩ : ∃ ccap, w4.cell? ⟨C i, 4, none⟩ = some (.slice (some ⟨G i, 0, none⟩) (R.N i) ccap) ∧ ∃ cs, Blk w4 (C i) 48 cs ∧ cs[4]? = some (.slice (some ⟨G i, 0, none⟩) (R.N i) ccap) := by
        obtain ⟨cs, ccap, q1, q2⟩ := hr4.cls i hlt
        exact ⟨ccap, by rw [q1.cell]; exact q2, cs, q1, q2⟩
      have hfn := ok.fn i hlt
      have hfl := ok.len i hlt
      have x4 := hr4.line hlt hfn
      have s2 : w4.cell? ⟨sb, 2, none⟩ = some (.slice (some ⟨rb, 0, none⟩) R.m rc) := by rw [hs4.cell]; rfl
      go_cut [46] (fun s46 wx => s46 = .bool (decide (0 < i ∧ R.A i (R.F i) < R.A (i - 1) (R.N (i - 1) - 1))) ∧ ∃ nq, wx = w4.drewN nq)
      case first =>
        by_cases h0 : 0 < i
        · have h0' : decide ((0 : Int) < (i : Int)) = true := by simp; omega
          obtain ⟨p, rfl⟩ : ∃ p, i = p + 1 := ⟨i - 1, by omega⟩
          have hp1 : ((p + 1 : Nat) : Int) - 1 = (p : Nat) := by omega
          have hp2 : (p : Int) + 1 - 1 = (p : Nat) := by omega
          have hpm : p < R.m := by omega
          have p1 := (hr4.run hpm).2.1
          obtain ⟨pcap, p2⟩ := hr4.cl hpm
          have p3 := hr4.line hpm (j := R.N p - 1) (by have := ok.fn p hpm; omega)
          have hpn := ok.fn p hpm
          have hpl := ok.len p hpm
          by_cases hcmp : R.A (p + 1) (R.F (p + 1)) < R.A p (R.N p - 1)
          · go_quiet ((go_at_call 9; refine Calls.quiet_of (last_walk (C p) (G p) (R.N p) pcap (R.A p (R.N p - 1)) _ (by omega) hpl p2 p3)))
            go_wp2
            go_meet
            case rel => exact ⟨by simp [hcmp], _, rfl⟩
          · go_quiet ((go_at_call 9; refine Calls.quiet_of (last_walk (C p) (G p) (R.N p) pcap (R.A p (R.N p - 1)) _ (by omega) hpl p2 p3)))
            go_wp2
            go_meet
            case rel => exact ⟨by simp [hcmp], _, rfl⟩
        · have h0' : decide ((0 : Int) < (i : Int)) = false := by simp; omega
          go_quiet (fail)
          go_wp2
          go_meet
          case rel => exact ⟨by simp [h0], _, rfl⟩
      case rest =>
        obtain ⟨rfl, nq, rfl⟩ := hcut
        have hk5 : KX B [59, 61, 68] w (w4.drewN nq) := hk4.drewN nq
        have hx5 : Blk (w4.drewN nq) xb 63 [.int .i64 (T i), .pointer (some ⟨C i, 0, none⟩), .int .i64 (R.F i)] := hx4
        have hr5 : Rn (w4.drewN nq) R rb C G T := ⟨hr4.runs, hr4.cls, hr4.acc⟩
        have hs5 : Blk (w4.drewN nq) sb 59 (sto a0 a1 (.slice (some ⟨rb, 0, none⟩) R.m rc) (.slice (some ⟨ib, 0, none⟩) i icap) (.slice none 0 0) a5 a6 a7 a8) := hs4
        have hio5 : (w4.drewN nq).ownsRow B 61 3 (.slice (some ⟨ib, 0, none⟩) i icap) i (cellsP ps) := hio4
        have hbc5 : ∃ cs, Blk (w4.drewN nq) (C i) 48 cs ∧ cs[4]? = some (.slice (some ⟨G i, 0, none⟩) (R.N i) ccap) := hbc
        clear hk4 hx4 hr4 hs4 hio4 hbc x1 x2 x3 x4 s2
        generalize w4.drewN nq = w5 at *
        by_cases hcmp : 0 < i ∧ R.A i (R.F i) < R.A (i - 1) (R.N (i - 1) - 1)
        · have hd : decide (0 < i ∧ R.A i (R.F i) < R.A (i - 1) (R.N (i - 1) - 1)) = true := by simpa using hcmp
          go_wp2_with fail
          refine (merge_walk R ok B sb rb C G T a0 a1 a5 a6 a7 a8 rc ib i icap (cellsP ps) w5 (by omega) hB hr5 hs5 hio5).mono ?_
          rintro e w6 ⟨rfl, h6⟩
          go_wp2
          refine bodyPost_ret (results_none rfl _ _ _) rfl ?_
          obtain ⟨ps', io', he', h1, h2, h3, h4⟩ := h6
          exact ⟨rfl, show Ordered _ _ _ _ _ _ from ⟨ps', io', he', h1, h2, h3, hk5.trans h4⟩⟩
        · have hd : decide (0 < i ∧ R.A i (R.F i) < R.A (i - 1) (R.N (i - 1) - 1)) = false := by simpa using hcmp
          have HC := hide hcmp
          clear hcmp
          go_upto_region 6 with fail
          clear hd
          have hF1 := hide hfn
          have hF2 := hide hfl
          have HS := hide hs5
          have hwB : B ≤ w5.heap.size := Nat.le_of_lt (Nat.lt_of_le_of_lt hB hs5.lt)
          have x1 : w5.cell? ⟨xb, 1, none⟩ = some (.pointer (some ⟨C i, 0, none⟩)) := by rw [hx5.cell]; rfl
          have x2 : w5.cell? ⟨xb, 2, none⟩ = some (.int .i64 (R.F i)) := by rw [hx5.cell]; rfl
          have x3 : w5.cell? ⟨C i, 4, none⟩ = some (.slice (some ⟨G i, 0, none⟩) (R.N i) ccap) := by obtain ⟨cs, q1, q2⟩ := hbc5; rw [q1.cell]; exact q2
          have s3 : w5.cell? ⟨sb, 3, none⟩ = some (.slice (some ⟨ib, 0, none⟩) i icap) := by rw [hs5.cell]; rfl
          have z3 := hs5.free 3
          have hsl := hs5.lt
          have l1 := hx5.lt
          have l2 : C i < w5.heap.size := by obtain ⟨cs, q1, q2⟩ := hbc5; exact q1.lt
          have HR := hide hr5
          have HX := hide hx5
          have HK := hide hk5
          clear hr5 hk5 hs5 hfn hfl
          have HF2 : Hid (Fast R (i + 1) (ps ++ [(i, R.F i, R.N i)])) := by
            refine HF.out.step ok hlt ?_
            intro h0
            have hc := HC.out
            have hfi := hF1.out
            have hfp := ok.fn (i - 1) (by omega)
            have := ok.apart (i - 1) i (R.N (i - 1) - 1) (R.F i) (by omega) hlt (by omega) (by omega) hfi
            have h3 : ¬ R.A i (R.F i) < R.A (i - 1) (R.N (i - 1) - 1) := fun h => hc ⟨h0, h⟩
            omega
          clear HF HC hF1 hF2 hbc5 hro hBw
          have hi4 : i < 4 := by omega
          have HM := hide hlt
          clear hi hlt hm4
          go_region_law
            ((refine step_append_lies _ (by rfl) _ _ _ (by rfl) B 61 i61 (.agg #[.int .i64 0, .int .i64 0, .int .i64 0]) 3 24 Yba.underlying54 hi61 z61 s61 b61 rfl (by decide) _ i (cellsP ps) (by rfl) (hio5.drew.alloc _) ⟨w5.heap.size, 0, none⟩ 1 1 [.int .i64 (i : Nat), .int .i64 (R.F i : Nat), .int .i64 (R.N i : Nat)] (by rfl) (by rfl) (World.news_of_block (cs := #[.int .i64 (i : Nat), .int .i64 (R.F i : Nat), .int .i64 (R.N i : Nat)]) (t := 61) (fr := (0, 0)) (heap_alloc_new w5 _)) (by simp [Value.oneCell']) (by omega) (by unfold maxLen; omega) (by omega) (by simp; omega) (w5.heap.size + 1) (by simp) ?_; intro g cap w6 hown6 hgrow hat hgl; have hk6 : KX B [61] w5 w6 := ((KX.refl B [61] w5).drew.alloc hwB _).grown (hio5.drew.alloc _) (by simp) (by simp; omega) hgrow; have y3 : w6.cell? ⟨sb, 3, none⟩ = some (.slice (some ⟨ib, 0, none⟩) i icap) := (World.cell?_of_block (a := ⟨sb, 3, none⟩) (hk6.keep _ _ _ HS.out (by simp))).trans s3; have y4 : w6.frozen? ⟨sb, 3, none⟩ = false := (World.frozen?_of_block (a := ⟨sb, 3, none⟩) (hk6.keep _ _ _ HS.out (by simp))).trans z3))
          all_goals
            have hb6 := hk6.blk HS.out (by simp)
            have hk7 : KX B [59] w6 (w6.setCell ⟨sb, 3, none⟩ (.slice (some ⟨g, 0, none⟩) (i + 1) cap)) := (KX.refl B [59] w6).set hb6 (by simp) hB _ _
            have hk8 : KX B [59, 61] w5 (w6.setCell ⟨sb, 3, none⟩ (.slice (some ⟨g, 0, none⟩) (i + 1) cap)) := (hk6.mono (Nat.le_refl _) (by simp)).trans (hk7.mono (Nat.le_refl _) (by simp))
            have hr6 := HR.out.keep hk8 (by simp) (by simp) (by simp)
            have hkw := HK.out.trans (hk8.mono (Nat.le_refl _) (by simp))
            have hs6 : Blk (w6.setCell ⟨sb, 3, none⟩ (.slice (some ⟨g, 0, none⟩) (i + 1) cap)) sb 59 (sto a0 a1 (.slice (some ⟨rb, 0, none⟩) R.m rc) (.slice (some ⟨g, 0, none⟩) (i + 1) cap) (.slice none 0 0) a5 a6 a7 a8) := hb6.set 3 _
            have hio6 : (w6.setCell ⟨sb, 3, none⟩ (.slice (some ⟨g, 0, none⟩) (i + 1) cap)).ownsRow B 61 3 (.slice (some ⟨g, 0, none⟩) (i + 1) cap) (i + 1) (cellsP (ps ++ [(i, R.F i, R.N i)])) := by
              rw [cellsP_snoc]
              exact own_keep hown6 hk7 (by simp)
            clear hk6 hk7 hk8 hb6 hown6 hgrow hat hgl y3 y4 x1 x2 x3 s3 z3 hsl l1 l2 hio5 HR HX HK HS hwB
            generalize w6.setCell ⟨sb, 3, none⟩ (.slice (some ⟨g, 0, none⟩) (i + 1) cap) = w7 at *
            go_wp2
            go_roundg (R.m - (i + 1))
            case measure => have := HG.out; have := HM.out; omega
            case rel => exact ⟨i + 1, _, g, cap, (by have := HM.out; omega), rfl, by go_num, HF2, hr6, hs6, hio6, hkw⟩
    · have hlt' : ¬ (i : Int) < (R.m : Int) := by omega
      obtain rfl : i = R.m := by omega
      have htold := HF.out.told ok
      have hlen := HF.out.length
      have HL := hide hlen
      clear hlen
      go_wp2
      go_end0
      refine ⟨rfl, show Ordered _ _ _ _ _ _ from ⟨ps, .slice (some ⟨ib, 0, none⟩) R.m icap, .slice none 0 0, htold, hs, ?_, hk⟩⟩
      rw [HL.out]
      exact hio
end Go.Proofs.Ybulkemg
