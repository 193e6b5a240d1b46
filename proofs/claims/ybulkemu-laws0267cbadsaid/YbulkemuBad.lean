/- The walk of LawS0267CBad (4). -/
import Derived.Test.YbulkemuBadFin
import Derived.Deep.RegionHeld3
import Derived.Deep.OwnRows
namespace Go.Proofs.Ybulkemu
open Go.RowKit

/-- What zzs0267cbuild hands back (YbulkemuBuild.lean proves it). -/
def BuildToo : Prop := ∀ (np : Nat) (_ : np ≤ 255) (pl last : Nat) (_ : pl ≤ 65535) (_ : last ≤ 65535) (m nh lf : Int) (_ : 0 ≤ m) (_ : m ≤ 18446744073709551615) (a : Option Addr) (L cap : Nat) (M V : Nat → Int) (_ : L ≤ 256) (w : World) (_ : InP w a L M V)
    (n pn q : Nat) (_ : n = 1 + np % 64) (_ : pn = 1 + pl) (_ : (((n : Int) - 1) * (pn : Int)) = (q : Int)),
    Calls Yba.prog 5 #[.int .u8 np, .int .u16 pl, .int .u16 last, .int .u64 m, .int .i64 nh, .int .i64 lf, .slice a L cap] w fun e w' => ∃ pb ib hb am wm row PB HB BS info av bs, e = .returned (.tuple #[.pointer (some ⟨pb, 0, none⟩), .slice (some ⟨row, 0, none⟩) L L, .int .i64 n, .int .i64 pn, .int .i64 (q + 1 + last % pn)]) ∧
      Pic w w' pb ib hb am wm row L n ((n + 7) / 8) info PB HB BS M V nh lf av bs #[] #[] 0 0 ∧ (∀ k, k < n → bit bs k = mb m k) ∧ info[1]? = some (.int .i64 pn) ∧ info[3]? = some (.int .i64 (q + 1 + last % pn))

/-- The flags that came in. -/
def InB (w : World) (a : Option Addr) (R : Nat) (Z : Nat → Bool) : Prop :=
  0 < R → ∃ b o, a = some ⟨b, o, none⟩ ∧ b < w.heap.size ∧ ∀ k, k < R → w.cell? ⟨b, o + k, none⟩ = some (.bool (Z k))

theorem Yba.size4 : (Yba.prog.info? 4).map (·.size) = some 1 := by kernel_rfl
theorem Yba.info4 : (Yba.prog.info? 4).map (fun i => (i.zero, i.size, i.bytes)) = some (some (.bool false), 1, 1) := by kernel_rfl
theorem Yba.info34 : (Yba.prog.info? 34).isSome = true := by kernel_rfl

theorem copy_flags {a : Option Addr} {R c cb : Nat} {Z : Nat → Bool} {w : World} {cs : List Value} (hin : InB w a R Z) (hb : Blk w cb 4 cs) (hl : cs.length = R) {B : Nat} (hB : B ≤ cb) :
    ∃ v w', (∀ ty, (Builtin.copy_ #[31, 31] ty #[.slice (some ⟨cb, 0, none⟩) R R, .slice a R c]).run Yba.prog w = .ok v w') ∧ (∃ cs', Blk w' cb 4 cs' ∧ cs'.length = R) ∧ (∀ b, b ≠ cb → w'.heap[b]? = w.heap[b]?) ∧ Below B w w' := by
  by_cases hR : R = 0
  · subst hR
    exact ⟨_, w, fun ty => run_copy_none w 31 31 ty 4 _ a 0 0 0 c Yba.underlying31 Yba.size4 rfl, ⟨cs, hb, hl⟩, fun _ _ => rfl, Below.refl _ _⟩
  · obtain ⟨xb, xo, rfl, _, hc⟩ := hin (by omega)
    have hrun := fun ty => run_copy_cells (P := Yba.prog) w 31 31 ty 4 cb 0 R R ⟨xb, xo, none⟩ R c ((List.range R).map fun k => .bool (Z k)) Yba.underlying31 Yba.size4 (by simp)
      (by
        intro j v hv
        have hj : j < R := by
          have := (List.getElem?_eq_some_iff.1 hv).1
          simpa using this
        rw [Addr.add_lit, hc j hj]
        simpa [hj] using hv)
      (by
        intro j hj
        rw [Nat.zero_add, hb.cell j, List.getElem?_eq_getElem (by simpa [hl] using hj)]
        rfl)
      (by intro j _; exact hb.free _)
      (by
        intro v hv
        obtain ⟨k, _, rfl⟩ := List.mem_map.1 hv
        rfl)
    refine ⟨_, _, hrun, ⟨_, Blk.puts _ 0 w cs hb (by simp [hl]), by simp [hl]⟩, fun b hb' => heap_setCells _ _ _ _ hb', below_setCells hB _ _ _⟩

set_option maxRecDepth 100000 in
set_option maxHeartbeats 2000000 in
theorem bad_walk (hbuild : BuildToo) (np : Nat) (hnp : np ≤ 255) (pl last : Nat) (hpl : pl ≤ 65535) (hlast : last ≤ 65535) (ix : Nat) (hix : ix ≤ 255) (m nh lf : Int) (hm0 : 0 ≤ m) (hm1 : m ≤ 18446744073709551615) (a : Option Addr) (L cap : Nat) (M V : Nat → Int) (hL : L ≤ 256) (a8 : Option Addr) (R cap8 : Nat) (Z : Nat → Bool) (hR : R ≤ 1024) (hRn : a8 = none → R = 0 ∧ cap8 = 0) (nr : Int) (w : World) (hp : InP w a L M V) (hpb : InB w a8 R Z)
    (n pn q : Nat) (hn : n = 1 + np % 64) (hpn : pn = 1 + pl) (hq : (((n : Int) - 1) * (pn : Int)) = (q : Int)) :
    Calls Yba.prog 4 #[.int .u8 np, .int .u16 pl, .int .u16 last, .int .u8 ix, .int .u64 m, .int .i64 nh, .int .i64 lf, .slice a L cap, .slice a8 R cap8, .int .i64 nr] w fun e w' => e = .returned (.bool true) ∧ Below w.heap.size w w' := by
  have hn1 : 1 ≤ n ∧ n ≤ 64 := by omega
  obtain ⟨hn1, hn2⟩ := hn1
  obtain ⟨i34, hi34⟩ := Option.isSome_iff_exists.1 Yba.info34
  have hqp := run_neq_ptr_same (P := Yba.prog) Yba.underlying29 hi34
  have hqs := fun w a n c => run_neq_slice_nil_any (P := Yba.prog) w 31 4 a n c 0 0 Yba.underlying31
  go_enter Yba.func4, Yba.ntmps4
  go_wp2_with fail
  refine (hbuild np hnp pl last hpl hlast m nh lf hm0 hm1 a L cap M V hL w hp n pn q hn hpn hq).mono ?_
  rintro e w1 ⟨pb, ib, hb, am, wm, row, PB, HB, BS, info, av, bs, rfl, hpic, hbits, _, _⟩
  obtain ⟨i, hi⟩ : ∃ i : Nat, (i : Int) = (ix : Int) % (n : Int) := ⟨ix % n, by omega⟩
  have hin : i < n := by
    have : (i : Int) < (n : Int) := by rw [hi]; exact Int.emod_lt_of_pos _ (by omega)
    omega
  have hi' := hi.symm
  have HX := hide hbits
  generalize (q : Int) + 1 + (last : Int) % (pn : Int) = ln
  clear hi hn hpn hq hbits
  go_upto_if 60 with fail
  rw [hi']
  clear hi'
  go_cut [27] (fun s27 wx => ∃ ro Rc, s27 = .slice ro R Rc ∧ Pic w wx pb ib hb am wm row L n ((n + 7) / 8) info PB HB BS M V nh lf av bs #[] #[] 0 0 ∧ (R = 0 ∨ ∃ cb cs, ro = some ⟨cb, 0, none⟩ ∧ Blk wx cb 4 cs ∧ cs.length = R) ∧ (∀ x, ro = some x → w.heap.size ≤ x.block))
  case first =>
    cases a8 with
    | none =>
      obtain ⟨rfl, rfl⟩ := hRn rfl
      go_wp2
      go_meet
      case rel => exact ⟨none, 0, rfl, hpic, .inl (by simp), by intro x hx; cases hx⟩
    | some ad =>
      have hs1 := hpic.lp.below.size
      have hmk := run_make_row' (P := Yba.prog) 31 4 (.bool false) 1 Yba.underlying31 Yba.info4 rfl .i64 .i64 R (by omega) (by omega) w1
      have hb1 : Below w1.heap.size w1 (w1.alloc (.cells (madeCells #[.bool false] R) 4)) := (Below.refl _ w1).alloc (Nat.le_refl _) _
      have hblk : Blk (w1.alloc (.cells (madeCells #[.bool false] R) 4)) w1.heap.size 4 (madeCells #[.bool false] R).toList := by
        have := heap_alloc_new w1 (.cells (madeCells #[.bool false] R) 4)
        unfold Blk
        rw [this]
      have hpic2 := hpic.below hb1
      have hin2 : InB (w1.alloc (.cells (madeCells #[.bool false] R) 4)) (some ad) R Z := by
        intro h
        obtain ⟨xb, xo, e1, e2, e3⟩ := hpb h
        refine ⟨xb, xo, e1, by simp; omega, fun k hk => ?_⟩
        rw [hb1.cell (p := ⟨xb, xo + k, none⟩) (by simp; omega), hpic.lp.below.cell (p := ⟨xb, xo + k, none⟩) e2]
        exact e3 k hk
      generalize w1.alloc (.cells (madeCells #[.bool false] R) 4) = w2 at hmk hblk hpic2 hin2
      obtain ⟨v, w3, hcp, ⟨cs', hcs, hcl⟩, hk3, hb3⟩ := copy_flags (c := cap8) hin2 hblk (by simp [size_madeCells]) (B := w.heap.size) hs1
      have hpic3 := hpic2.far hblk (by decide) (by decide) (by decide) (by decide) (by decide) hk3 hb3
      clear hpic hpic2 hblk hin2 hk3 hb3 hb1
      go_wp2
      go_meet
      case rel => exact ⟨some ⟨w1.heap.size, 0, none⟩, R, rfl, hpic3, .inr ⟨_, _, rfl, hcs, hcl⟩, by intro x hx; cases hx; exact hs1⟩
  case rest =>
    clear hpic hpb hRn
    obtain ⟨ro, Rc, rfl, hpic, hrec, hlo⟩ := hcut
    go_upto_if 69 with fail
    go_cut [28] (fun s28 wx => ∃ ow, s28 = .pointer ow ∧ wc = wx)
    case first =>
      by_cases hL0 : 0 < L
      · have hL0' : (0 : Int) < (L : Int) := by omega
        have k1 : wc.cell? ⟨row, 0, none⟩ = some (.pointer (some ⟨PB 0, 0, none⟩)) := by rw [hpic.lp.prs.row.cell]; simp [hL0]
        go_wp2
        go_meet
        case rel => exact ⟨_, rfl, rfl⟩
      · have hL0' : ¬ (0 : Int) < (L : Int) := by omega
        go_wp2
        go_meet
        case rel => exact ⟨_, rfl, rfl⟩
    case rest =>
      obtain ⟨ow, rfl, rfl⟩ := hcut
      have hs2 := hpic.lp.below.size
      have hmk := run_make_row' (P := Yba.prog) 30 3 (.int .i64 0) 8 Yba.underlying30 Yba.info3 rfl .i64 .i64 R (by omega) (by omega) wc
      go_upto_region 13 with fail
      clear hmk
      have hb1 : Below wc.heap.size wc ((wc.alloc (.cells (madeCells #[.int .i64 0] R) 3)).alloc (.cells #[.pointer ow, .bool false, .slice (some ⟨wc.heap.size, 0, none⟩) R R, .slice ro R Rc, .int .i64 nr] 34)) := ((Below.refl _ wc).alloc (Nat.le_refl _) _).alloc (by simp) _
      have hpr : Blk ((wc.alloc (.cells (madeCells #[.int .i64 0] R) 3)).alloc (.cells #[.pointer ow, .bool false, .slice (some ⟨wc.heap.size, 0, none⟩) R R, .slice ro R Rc, .int .i64 nr] 34)) (wc.heap.size + 1) 34 [.pointer ow, .bool false, .slice (some ⟨wc.heap.size, 0, none⟩) R R, .slice ro R Rc, .int .i64 nr] := by
        have := heap_alloc_new (wc.alloc (.cells (madeCells #[.int .i64 0] R) 3)) (.cells #[.pointer ow, .bool false, .slice (some ⟨wc.heap.size, 0, none⟩) R R, .slice ro R Rc, .int .i64 nr] 34)
        have e : (wc.alloc (.cells (madeCells #[.int .i64 0] R) 3)).heap.size = wc.heap.size + 1 := by simp
        rw [e] at this
        exact this
      have hrec2 : R = 0 ∨ ∃ cb cs, ro = some ⟨cb, 0, none⟩ ∧ Blk ((wc.alloc (.cells (madeCells #[.int .i64 0] R) 3)).alloc (.cells #[.pointer ow, .bool false, .slice (some ⟨wc.heap.size, 0, none⟩) R R, .slice ro R Rc, .int .i64 nr] 34)) cb 4 cs ∧ cs.length = R := by
        rcases hrec with h0 | ⟨cb, cs, e1, e2, e3⟩
        · exact .inl h0
        · exact .inr ⟨cb, cs, e1, (e2.alloc _).alloc _, e3⟩
      have hpic2 := hpic.below hb1
      generalize (wc.alloc (.cells (madeCells #[.int .i64 0] R) 3)).alloc (.cells #[.pointer ow, .bool false, .slice (some ⟨wc.heap.size, 0, none⟩) R R, .slice ro R Rc, .int .i64 nr] 34) = w3 at hpr hrec2 hpic2 ⊢
      have hlp3 : w.heap.size ≤ wc.heap.size + 1 := by omega
      generalize wc.heap.size + 1 = prb at hpr hlp3 ⊢
      generalize Value.slice (some ⟨wc.heap.size, 0, none⟩) R R = rq at hpr
      clear hpic hrec hb1 hs2
      have c6 : w3.cell? ⟨pb, 6, none⟩ = some (.map (some wm)) := by rw [hpic2.pic.cell]; rfl
      have hup := run_update_empty (P := Yba.prog) Yba.underlying38 Yba.underlying3 wm 0 i (.pointer (some ⟨prb, 0, none⟩)) w3 hpic2.who
      go_upto_region 14 with fail
      have hpic3 := hpic2.setWho #[⟨.int .i64 i, .pointer (some ⟨prb, 0, none⟩), 0⟩] 1
      have hpr3 := hpr.map hpic2.who (.map #[⟨.int .i64 i, .pointer (some ⟨prb, 0, none⟩), 0⟩] 1)
      have hrec3 : R = 0 ∨ ∃ cb cs, ro = some ⟨cb, 0, none⟩ ∧ Blk (Go.ChangeMaps.setBlock w3 wm (.map #[⟨.int .i64 i, .pointer (some ⟨prb, 0, none⟩), 0⟩] 1)) cb 4 cs ∧ cs.length = R := by
        rcases hrec2 with h0 | ⟨cb, cs, e1, e2, e3⟩
        · exact .inl h0
        · exact .inr ⟨cb, cs, e1, e2.map hpic2.who _, e3⟩
      clear c6 hup hpic2 hpr hrec2
      go_wp2_with fail
      refine (finish_bad i prb hpic3 ow false rq ro R Rc nr hpr3 hlp3 hrec3 hlo).mono ?_
      rintro e w4 ⟨rfl, hpic4, hpr4, hrec4⟩
      clear hpic3 hpr3 hrec3
      have c5 : w4.cell? ⟨pb, 5, none⟩ = some (.map (some am)) := by rw [hpic4.pic.cell]; rfl
      have c6 : w4.cell? ⟨pb, 6, none⟩ = some (.map (some wm)) := by rw [hpic4.pic.cell]; rfl
      have hlk := run_lookup_one (P := Yba.prog) Yba.underlying38 Yba.underlying3 am 0 1 i (.pointer (some ⟨prb, 0, none⟩)) w4 hpic4.act
      have hl1 := fun ty => run_len_map (P := Yba.prog) Yba.underlying38 ty am 1 _ w4 hpic4.act
      have hl2 := fun ty => run_len_map (P := Yba.prog) Yba.underlying38 ty wm 1 _ w4 hpic4.who
      have d0 : w4.cell? ⟨prb, 0, none⟩ = some (.pointer none) := by rw [hpr4.cell]; rfl
      have d1 : w4.cell? ⟨prb, 1, none⟩ = some (.bool true) := by rw [hpr4.cell]; rfl
      have d3 : w4.cell? ⟨prb, 3, none⟩ = some (.slice ro R Rc) := by rw [hpr4.cell]; rfl
      have d4 : w4.cell? ⟨prb, 4, none⟩ = some (.int .i64 0) := by rw [hpr4.cell]; rfl
      go_wp2
      clear c5 c6 hlk hl1 hl2 d0 d1 d4 hqp hqs
      go_loopg [30] R (fun g s30 wr => ∃ k, k ≤ R ∧ g = R - k ∧ s30 = .int .i64 (k : Nat) ∧ wr = w4)
      case atStart => exact ⟨0, by omega, by omega, rfl, rfl⟩
      case round =>
        obtain ⟨k, hk, hg, rfl, rfl⟩ := hrel
        have HG := hide hg
        clear hg
        by_cases hlt : k < R
        · have hlt' : (k : Int) < (R : Int) := by omega
          rcases hrec4 with h0 | ⟨cb, rfl, hcb⟩
          · omega
          · have kf : wr.cell? ⟨cb, k, none⟩ = some (.bool false) := by rw [hcb.cell]; simp [hlt]
            go_wp2
            go_roundg (R - (k + 1))
            case measure => have := HG.out; omega
            case rel => exact ⟨k + 1, by omega, rfl, by go_num, rfl⟩
        · have hlt' : ¬ (k : Int) < (R : Int) := by omega
          have c2 : wr.cell? ⟨pb, 2, none⟩ = some (.int .i64 nh) := by rw [hpic4.pic.cell]; rfl
          have c3 : wr.cell? ⟨pb, 3, none⟩ = some (.int .i64 lf) := by rw [hpic4.pic.cell]; rfl
          have hne1 : (nh != nh) = false := bne_self_eq_false _
          have hne2 : (lf != lf) = false := bne_self_eq_false _
          go_wp2
          clear c2 c3 hne1 hne2 d3 hlt hlt' HG hk hrec4 hpr4
          go_loopg [31] n (fun g s31 wx => ∃ k, k ≤ n ∧ g = n - k ∧ s31 = .int .i64 (k : Nat) ∧ Pic w wx pb ib hb am wm row L n ((n + 7) / 8) info PB HB BS M V nh lf av bs #[⟨.int .i64 i, .pointer (some ⟨prb, 0, none⟩), 0⟩] #[] 1 1)
          case atStart => exact ⟨0, by omega, by omega, rfl, hpic4⟩
          case round =>
            clear hpic4
            rename_i wq
            obtain ⟨j, hj, hg, rfl, hp3⟩ := hrel
            have HG := hide hg
            clear hg
            by_cases hlt : j < n
            · have hlt' : (j : Int) < (n : Int) := by omega
              have c1 : wr.cell? ⟨pb, 1, none⟩ = some (.slice (some ⟨hb, 0, none⟩) ((n + 7) / 8) ((n + 7) / 8)) := by rw [hp3.pic.cell]; rfl
              obtain ⟨b1, hb1⟩ : ∃ b1, (bits .and .u64 (m / 2 ^ j) 1 == 1) = b1 := ⟨_, rfl⟩
              have hbk : bit bs j = b1 := by rw [HX.out j hlt, ← hb1]; rfl
              have HBK := hide hbk
              clear hbk
              cases b1
              all_goals
                go_wp2_with fail
                refine (has_any hb ((n + 7) / 8) j bs wr hp3.held hp3.hl (by omega) (by omega)).mono ?_
                rintro e w5 ⟨rfl, nd, rfl⟩
                rw [HBK.out]
                clear c1
                go_wp2
                go_roundg (n - (j + 1))
                case measure => have := HG.out; omega
                case rel => exact ⟨j + 1, by omega, rfl, by go_num, hp3.drewN nd⟩
            · have hlt' : ¬ (j : Int) < (n : Int) := by omega
              go_wp2
              clear hlt hlt' HG hj
              go_loopg [32] L (fun g s32 wx => ∃ k, k ≤ L ∧ g = L - k ∧ s32 = .int .i64 (k : Nat) ∧ Pic w wx pb ib hb am wm row L n ((n + 7) / 8) info PB HB BS M V nh lf av bs #[⟨.int .i64 i, .pointer (some ⟨prb, 0, none⟩), 0⟩] #[] 1 1)
              case atStart => exact ⟨0, by omega, by omega, rfl, hp3⟩
              case round =>
                clear hp3
                rename_i wq2
                obtain ⟨t, ht, hg, rfl, hp4⟩ := hrel
                have HG := hide hg
                clear hg
                by_cases hlt : t < L
                · have hlt' : (t : Int) < (L : Int) := by omega
                  obtain ⟨xb, xo, rfl, hxb, hxc⟩ := hp.1 (by omega)
                  have hx2 : wr.cell? ⟨xb, xo + t * 2 + 1, none⟩ = some (.int .i64 (V t)) := (hp4.lp.below.cell (by exact hxb)).trans (hxc t hlt).2
                  have k1 : wr.cell? ⟨row, t, none⟩ = some (.pointer (some ⟨PB t, 0, none⟩)) := by rw [hp4.lp.prs.row.cell]; simp [hlt]
                  have k3 : wr.cell? ⟨PB t, 2, none⟩ = some (.int .i64 (V t)) := by rw [(hp4.lp.prs.peer t hlt).cell]; rfl
                  have hnn : (V t != V t) = false := bne_self_eq_false _
                  have HP := hide hp
                  have HXC := hide hxc
                  clear hp hxc
                  go_wp2
                  go_quiet (fail)
                  go_wp2
                  go_roundg (L - (t + 1))
                  case measure => have := HG.out; omega
                  case rel => exact ⟨t + 1, by omega, rfl, by go_num, hp4.drewN _⟩
                · have hlt' : ¬ (t : Int) < (L : Int) := by omega
                  go_wp2
                  go_ret
                  exact ⟨rfl, hp4.lp.below⟩
end Go.Proofs.Ybulkemu
