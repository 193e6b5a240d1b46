/- The contracts of PieceSize (10) and Finish (6), both ways. -/
import Derived.Test.YbulkemuPic
import Derived.Deep.RegionWith
import Derived.Deep.DeepCutAuto
namespace Go.Proofs.Ybulkemu
open Go.RowKit

set_option maxRecDepth 100000 in
set_option maxHeartbeats 400000 in
theorem size_any (ib i pn p ln : Nat) (w : World) (h1 : w.cell? ⟨ib, 1, none⟩ = some (.int .i64 pn)) (h3 : w.cell? ⟨ib, 3, none⟩ = some (.int .i64 ln)) (hp : (i : Int) * (pn : Int) = (p : Int)) (_hpn : pn ≤ 65536) (hpb : p ≤ 4194304) (hln : ln ≤ 4194304) :
    Calls Yba.prog 10 #[.pointer (some ⟨ib, 0, none⟩), .int .i64 i] w fun e w' => e = .returned (.int .i64 (min (pn : Int) ((ln : Int) - (p : Int)))) ∧ ∃ k, w' = w.drewN k := by
  go_enter Yba.func10, Yba.ntmps10
  go_wp2
  go_quiet (fail)
  go_wp2
  all_goals go_ret
  all_goals exact ⟨congrArg (fun z => Ending.returned (Value.int .i64 z)) (by omega), _, rfl⟩

theorem wrapEq (x : Int) : IntKind.i64.wrap x = wrap64 x := by rw [IntKind.wrap_i64]; unfold wrap64; rfl

theorem Pic.congrV {w0 w : World} {pb ib hb am wm row L n nb : Nat} {info : List Value} {PB HB : Nat → Nat} {BS : Nat → List Int} {M V V' : Nat → Int} {nh lf : Int} {av : Value} {bs : List Int} {ea ew : Array MapEntry} {ca cw : Nat} (h : Pic w0 w pb ib hb am wm row L n nb info PB HB BS M V nh lf av bs ea ew ca cw) (e : ∀ k, k < L → V k = V' k) :
    Pic w0 w pb ib hb am wm row L n nb info PB HB BS M V' nh lf av bs ea ew ca cw :=
  ⟨h.pic, h.held, h.hl, h.act, h.who, ⟨h.lp.inf, ⟨h.lp.prs.row, fun k hk => by rw [← e k hk]; exact h.lp.prs.peer k hk, h.lp.prs.has, h.lp.prs.inj⟩, h.lp.bits, h.lp.l1, h.lp.l2, h.lp.below⟩, h.hne, h.mne, h.l1, h.l2, h.l3, h.l4⟩

set_option maxRecDepth 100000 in
set_option maxHeartbeats 1000000 in
theorem finish_good {w0 w : World} {pb ib hb am wm row L n nb : Nat} {info : List Value} {PB HB : Nat → Nat} {BS : Nat → List Int} {M V : Nat → Int} {nh lf : Int} {av : Value} {bs : List Int} {ea : Array MapEntry} {ca cw b0 : Nat} (i : Nat) (v : Value)
    (h : Pic w0 w pb ib hb am wm row L n nb info PB HB BS M V nh lf av bs ea #[⟨.int .i64 i, v, b0⟩] ca cw) (hi : i / 8 < nb) (hi64 : i < 64) (hL : L ≤ 256)
    (pn p ln : Nat) (e1 : info[1]? = some (.int .i64 pn)) (e3 : info[3]? = some (.int .i64 ln)) (hp : (i : Int) * (pn : Int) = (p : Int)) (hpn : pn ≤ 65536) (hpb : p ≤ 4194304) (hln : ln ≤ 4194304) :
    Calls Yba.prog 6 #[.pointer (some ⟨pb, 0, none⟩), .int .i64 i, .bool true] w fun e w' => e = .returned (.tuple #[]) ∧
      Pic w0 w' pb ib hb am wm row L n nb info PB HB BS M (fun k => if bit (BS k) i then wrap64 (V k - 1) else V k) (wrap64 (nh + 1)) (wrap64 (lf - min (pn : Int) ((ln : Int) - (p : Int)))) av (setAt bs i) ea #[] ca cw := by
  have c6 : w.cell? ⟨pb, 6, none⟩ = some (.map (some wm)) := by rw [h.pic.cell]; rfl
  have hlk := run_lookup_one (P := Yba.prog) Yba.underlying38 Yba.underlying3 wm b0 cw i v w h.who
  have hdl := fun ty => run_delete_one (P := Yba.prog) Yba.underlying38 Yba.underlying3 ty wm b0 cw i v w h.who
  go_enter Yba.func6, Yba.ntmps6
  go_upto_region 3 with fail
  have h1 := h.setWho #[] cw
  generalize Go.ChangeMaps.setBlock w wm (.map #[] cw) = w1 at h1 ⊢
  clear hlk hdl c6 h
  have c1 : w1.cell? ⟨pb, 1, none⟩ = some (.slice (some ⟨hb, 0, none⟩) nb nb) := by rw [h1.pic.cell]; rfl
  go_wp2_with fail
  refine (set_any hb nb i bs w1 h1.held h1.hl hi hi64).mono ?_
  rintro e w2 ⟨rfl, rfl⟩
  have h2 := h1.setBit i
  generalize (w1.setCell ⟨hb, i / 8, none⟩ (.int .u8 (orB (bs.getD (i / 8) 0) (i % 8)))).drew = w2 at h2 ⊢
  clear c1 h1
  have c2 : w2.cell? ⟨pb, 2, none⟩ = some (.int .i64 nh) := by rw [h2.pic.cell]; rfl
  have z2 := h2.pic.free 2
  go_upto_region 5 with fail
  have h3 := h2.setNh (wrap64 (nh + 1))
  generalize w2.setCell ⟨pb, 2, none⟩ (.int .i64 (wrap64 (nh + 1))) = w3 at h3 ⊢
  clear c2 z2 h2
  have c3 : w3.cell? ⟨pb, 3, none⟩ = some (.int .i64 lf) := by rw [h3.pic.cell]; rfl
  have c0 : w3.cell? ⟨pb, 0, none⟩ = some (.pointer (some ⟨ib, 0, none⟩)) := by rw [h3.pic.cell]; rfl
  have z3 := h3.pic.free 3
  have d1 : w3.cell? ⟨ib, 1, none⟩ = some (.int .i64 pn) := by rw [h3.lp.inf.cell]; exact e1
  have d3 : w3.cell? ⟨ib, 3, none⟩ = some (.int .i64 ln) := by rw [h3.lp.inf.cell]; exact e3
  go_cut [] (fun wx => Pic w0 wx pb ib hb am wm row L n nb info PB HB BS M V (wrap64 (nh + 1)) (wrap64 (lf - min (pn : Int) ((ln : Int) - (p : Int)))) av (setAt bs i) ea #[] ca cw)
  case first =>
    go_region_with ((go_at_call 10; refine (size_any ib i pn p ln _ (by simpa using d1) (by simpa using d3) hp hpn hpb hln).mono ?_; rintro e w4 ⟨rfl, k, rfl⟩))
    all_goals
      go_wp2_with fail
      go_meet
      rw [wrapEq]
      first | exact (h3.setLf _).drewN _ | exact (h3.drewN _).setLf _ | exact ((h3.setLf _).drewN _).drew | exact (h3.setLf _).drew
  case rest =>
    clear h3 c3 c0 z3 d1 d3
    have c11 : wc.cell? ⟨pb, 11, none⟩ = some (.slice (some ⟨row, 0, none⟩) L L) := by rw [hcut.pic.cell]; rfl
    go_wp2
    clear c11
    go_loopg [52] L (fun g s52 wr => ∃ q, q ≤ L ∧ g = L - q ∧ s52 = .int .i64 (q : Nat) ∧ Pic w0 wr pb ib hb am wm row L n nb info PB HB BS M (fun k => if k < q ∧ bit (BS k) i = true then wrap64 (V k - 1) else V k) (wrap64 (nh + 1)) (wrap64 (lf - min (pn : Int) ((ln : Int) - (p : Int)))) av (setAt bs i) ea #[] ca cw)
    case atStart => exact ⟨0, by omega, by omega, rfl, by simpa using hcut⟩
    case round =>
      clear hcut
      obtain ⟨q, hq, hg, rfl, hpic⟩ := hrel
      have HG := hide hg
      clear hg
      by_cases hlt : q < L
      · have hlt' : (q : Int) < (L : Int) := by omega
        have k1 : wr.cell? ⟨row, q, none⟩ = some (.pointer (some ⟨PB q, 0, none⟩)) := by rw [hpic.lp.prs.row.cell]; simp [hlt]
        have hpe := hpic.lp.prs.peer q hlt
        have k2 : wr.cell? ⟨PB q, 0, none⟩ = some (.slice (some ⟨HB q, 0, none⟩) nb nb) := by rw [hpe.cell]; rfl
        have k3 : wr.cell? ⟨PB q, 2, none⟩ = some (.int .i64 (V q)) := by rw [hpe.cell]; simp
        have k4 := hpe.free 2
        clear hpe
        have hha := hpic.lp.prs.has q hlt
        go_wp2_with fail
        refine (has_any (HB q) nb i (BS q) wr hha.1 hha.2 hi hi64).mono ?_
        rintro e w5 ⟨rfl, nd, rfl⟩
        clear hha k1 k2
        cases hb' : bit (BS q) i
        · go_wp2
          go_roundg (L - (q + 1))
          case measure => have := HG.out; omega
          case rel =>
            have hp2 := hpic.drewN nd
            refine ⟨q + 1, by omega, rfl, by go_num, ?_⟩
            have : (fun k => if k < q + 1 ∧ bit (BS k) i = true then wrap64 (V k - 1) else V k) = (fun k => if k < q ∧ bit (BS k) i = true then wrap64 (V k - 1) else V k) := by
              funext k
              by_cases e : k = q
              · subst e; simp [hb']
              · by_cases e2 : k < q
                · simp [e2, show k < q + 1 by omega]
                · simp [e2, show ¬ k < q + 1 by omega]
            rw [this]
            exact hp2
        · go_wp2
          go_roundg (L - (q + 1))
          case measure => have := HG.out; omega
          case rel =>
            have hp2 := (hpic.drewN nd).setV q hlt (wrap64 (V q - 1))
            refine ⟨q + 1, by omega, rfl, by go_num, ?_⟩
            have : (fun k => if k < q + 1 ∧ bit (BS k) i = true then wrap64 (V k - 1) else V k) = (fun j => if j = q then wrap64 (V q - 1) else if j < q ∧ bit (BS j) i = true then wrap64 (V j - 1) else V j) := by
              funext k
              by_cases e : k = q
              · subst e; simp [hb']
              · by_cases e2 : k < q
                · simp [e, e2, show k < q + 1 by omega]
                · simp [e, e2, show ¬ k < q + 1 by omega]
            rw [this]
            first | exact hp2 | trace_state
      · have hlt' : ¬ (q : Int) < (L : Int) := by omega
        have hqe : q = L := by omega
        have HQ := hide hqe
        clear hqe
        go_wp2
        refine bodyPost_ret (results_none rfl _ _ _) rfl ?_
        refine ⟨rfl, hpic.congrV ?_⟩
        intro k hk
        have := HQ.out
        simp [show k < q by omega]
end Go.Proofs.Ybulkemu
