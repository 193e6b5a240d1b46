/- The walk of LawS0267CGood (3). -/
import Derived.Test.YbulkemuFinish
import Derived.Deep.RegionHeld3
import Derived.Deep.OwnRows
namespace Go.Proofs.Ybulkemu
open Go.RowKit

theorem Yba.info51 : (Yba.prog.info? 51).isSome = true := by kernel_rfl

/-- What zzs0267cbuild hands back (YbulkemuBuild.lean proves it). -/
def BuildSaid : Prop := ∀ (np : Nat) (_ : np ≤ 255) (pl last : Nat) (_ : pl ≤ 65535) (_ : last ≤ 65535) (m nh lf : Int) (_ : 0 ≤ m) (_ : m ≤ 18446744073709551615) (a : Option Addr) (L cap : Nat) (M V : Nat → Int) (_ : L ≤ 256) (w : World) (_ : InP w a L M V)
    (n pn q : Nat) (_ : n = 1 + np % 64) (_ : pn = 1 + pl) (_ : (((n : Int) - 1) * (pn : Int)) = (q : Int)),
    Calls Yba.prog 5 #[.int .u8 np, .int .u16 pl, .int .u16 last, .int .u64 m, .int .i64 nh, .int .i64 lf, .slice a L cap] w fun e w' => ∃ pb ib hb am wm row PB HB BS info av bs, e = .returned (.tuple #[.pointer (some ⟨pb, 0, none⟩), .slice (some ⟨row, 0, none⟩) L L, .int .i64 n, .int .i64 pn, .int .i64 (q + 1 + last % pn)]) ∧
      Pic w w' pb ib hb am wm row L n ((n + 7) / 8) info PB HB BS M V nh lf av bs #[] #[] 0 0 ∧ (∀ k, k < n → bit bs k = mb m k) ∧ info[1]? = some (.int .i64 pn) ∧ info[3]? = some (.int .i64 (q + 1 + last % pn))

set_option maxRecDepth 100000 in
set_option maxHeartbeats 2000000 in
theorem good_walk (hbuild : BuildSaid) (np : Nat) (hnp : np ≤ 255) (pl last : Nat) (hpl : pl ≤ 65535) (hlast : last ≤ 65535) (ix : Nat) (hix : ix ≤ 255) (m nh lf : Int) (hm0 : 0 ≤ m) (hm1 : m ≤ 18446744073709551615) (a : Option Addr) (L cap : Nat) (M V : Nat → Int) (hL : L ≤ 256) (w : World) (hp : InP w a L M V)
    (n pn q : Nat) (hn : n = 1 + np % 64) (hpn : pn = 1 + pl) (hq : (((n : Int) - 1) * (pn : Int)) = (q : Int)) :
    Calls Yba.prog 3 #[.int .u8 np, .int .u16 pl, .int .u16 last, .int .u8 ix, .int .u64 m, .int .i64 nh, .int .i64 lf, .slice a L cap] w fun e w' => e = .returned (.bool true) ∧ Below w.heap.size w w' := by
  have HQ := hide (And.intro hn (And.intro hpn hq))
  have hn1 : 1 ≤ n ∧ n ≤ 64 := by omega
  obtain ⟨hn1, hn2⟩ := hn1
  obtain ⟨i51, hi51⟩ := Option.isSome_iff_exists.1 Yba.info51
  have hqp := run_neq_ptr_same (P := Yba.prog) Yba.underlying32 hi51
  go_enter Yba.func3, Yba.ntmps3
  go_wp2_with fail
  refine (hbuild np hnp pl last hpl hlast m nh lf hm0 hm1 a L cap M V hL w hp n pn q hn hpn hq).mono ?_
  rintro e w1 ⟨pb, ib, hb, am, wm, row, PB, HB, BS, info, av, bs, rfl, hpic, hbits, e1, e3⟩
  obtain ⟨i, hi⟩ : ∃ i : Nat, (i : Int) = (ix : Int) % (n : Int) := ⟨ix % n, by omega⟩
  have hin : i < n := by
    have : (i : Int) < (n : Int) := by rw [hi]; exact Int.emod_lt_of_pos _ (by omega)
    omega
  have hi' := hi.symm
  obtain ⟨ln, hln⟩ : ∃ ln : Nat, (q : Int) + 1 + (last : Int) % (pn : Int) = (ln : Int) := ⟨q + 1 + last % pn, by omega⟩
  have HX := hide (And.intro hbits (And.intro e1 (And.intro e3 hln)))
  rw [hln]
  clear hi hn hpn hq hbits e1 e3 hln
  go_upto_region 5 with fail
  rw [hi']
  clear hi'
  have c6 : w1.cell? ⟨pb, 6, none⟩ = some (.map (some wm)) := by rw [hpic.pic.cell]; rfl
  have l6 : pb < w1.heap.size := hpic.pic.lt
  have l6a : pb < w1.heap.size + 1 := by omega
  have l6b : pb < w1.heap.size + 1 + 1 := by omega
  have hmk : ∀ w, (Instr.makeSlice 30 (.int .i64 1) (.int .i64 1)).run Yba.prog w = .ok (.slice (some ⟨w.heap.size, 0, none⟩) 1 1) (w.alloc (.cells #[.int .i64 0] 3)) := fun w => by kernel_rfl
  have hB3 : ∀ o1 o2 o3, Below w1.heap.size w1 ((((w1.alloc o1).alloc o2).alloc o3).drew) := fun o1 o2 o3 => ((((Below.refl _ w1).alloc (Nat.le_refl _) _).alloc (by simp) _).alloc (by simp; omega) _).drew
  have hup : ∀ v o1 o2 o3, (Instr.mapUpdate 38 (.map (some wm)) (.int .i64 (i : Int)) v).run Yba.prog ((((w1.alloc o1).alloc o2).alloc o3).drew) = .ok () (Go.ChangeMaps.setBlock ((((w1.alloc o1).alloc o2).alloc o3).drew) wm (.map #[⟨.int .i64 i, v, 0⟩] 1)) :=
    fun v o1 o2 o3 => run_update_empty (P := Yba.prog) Yba.underlying38 Yba.underlying3 wm 0 i v _ (((hB3 o1 o2 o3).block _ (lt_of_block hpic.who)).trans hpic.who)
  have hk3 : ∀ o1 o2 o3, ((((w1.alloc o1).alloc o2).alloc o3).drew).cell? ⟨pb, 6, none⟩ = some (.map (some wm)) := fun o1 o2 o3 => ((hB3 o1 o2 o3).cell (p := ⟨pb, 6, none⟩) l6).trans c6
  have hsb : ∀ o1 o2 o3 o, (Go.ChangeMaps.setBlock ((((w1.alloc o1).alloc o2).alloc o3).drew) wm o).cell? ⟨pb, 6, none⟩ = some (.map (some wm)) := fun o1 o2 o3 o => by
    have h2 := (hpic.below (hB3 o1 o2 o3))
    rw [World.cell?_of_block (w := (((w1.alloc o1).alloc o2).alloc o3).drew) (by exact Go.ChangeMaps.heap_setBlock_other h2.who o (h2.pic.neMap h2.who)), h2.pic.cell]
    rfl
  go_cut [] (fun wx => ∃ v, Pic w wx pb ib hb am wm row L n ((n + 7) / 8) info PB HB BS M V nh lf av bs #[] #[⟨.int .i64 i, v, 0⟩] 0 1)
  case first =>
    go_region_held3 (fun w' => w'.cell? ⟨pb, 6, none⟩ = some (.map (some wm))) (first | exact hk3 _ _ _ | exact hsb _ _ _ _ | go_keep) (fail)
    all_goals
      go_wp2_with fail
      go_meet
      exact ⟨_, (hpic.below (hB3 _ _ _)).setWho _ 1⟩
  case rest =>
    clear hpic c6 l6 l6a l6b hmk hB3 hup hsb hk3
    obtain ⟨v, hpic⟩ := hcut
    obtain ⟨p, hip⟩ : ∃ p : Nat, (i : Int) * (pn : Int) = (p : Int) := ⟨i * pn, by simp⟩
    have hsz : p ≤ q ∧ (i + 1 < n → p + pn ≤ q) ∧ (i + 1 = n → p = q) ∧ q ≤ 4128768 ∧ pn ≤ 65536 ∧ 1 ≤ pn ∧ ln ≤ q + pn ∧ q + 1 ≤ ln := by
      obtain ⟨g1, g2, g3⟩ := HQ.out
      have g4 := HX.out.2.2.2
      have hr : (last : Int) % (pn : Int) < (pn : Int) := Int.emod_lt_of_pos _ (by omega)
      have hr0 : 0 ≤ (last : Int) % (pn : Int) := Int.emod_nonneg _ (by omega)
      have hm1 : (i : Int) * (pn : Int) ≤ ((n : Int) - 1) * (pn : Int) := Int.mul_le_mul_of_nonneg_right (by omega) (by omega)
      have hm2 : i + 1 < n → ((i : Int) + 1) * (pn : Int) ≤ ((n : Int) - 1) * (pn : Int) := fun h => Int.mul_le_mul_of_nonneg_right (by omega) (by omega)
      have hm3 : ((i : Int) + 1) * (pn : Int) = (p : Int) + (pn : Int) := by rw [Int.add_mul, hip]; omega
      have hm4 : ((n : Int) - 1) * (pn : Int) ≤ 63 * 65536 := Int.mul_le_mul (by omega) (by omega) (by omega) (by omega)
      refine ⟨by omega, fun h => ?_, fun h => ?_, by omega, by omega, by omega, by omega, by omega⟩
      · have := hm2 h
        omega
      · have : (i : Int) = (n : Int) - 1 := by omega
        rw [this, g3] at hip
        omega
    obtain ⟨s1, s2, s3, s4, s5, s6, s7, s8⟩ := hsz
    have HS := hide (And.intro s2 s3)
    clear s2 s3
    go_wp2_with fail
    refine (finish_good i v hpic (by omega) (by omega) hL pn p ln HX.out.2.1 (by rw [HX.out.2.2.1, HX.out.2.2.2]) hip s5 (by omega) (by omega)).mono ?_
    rintro e w2 ⟨rfl, hp2⟩
    have HO := hide (And.intro hpic.held.2 hpic.hl)
    clear hpic
    have c2 : w2.cell? ⟨pb, 2, none⟩ = some (.int .i64 (wrap64 (nh + 1))) := by rw [hp2.pic.cell]; rfl
    have c3 : w2.cell? ⟨pb, 3, none⟩ = some (.int .i64 (wrap64 (lf - min (pn : Int) ((ln : Int) - (p : Int))))) := by rw [hp2.pic.cell]; rfl
    have c5 : w2.cell? ⟨pb, 5, none⟩ = some (.map (some am)) := by rw [hp2.pic.cell]; rfl
    have c6 : w2.cell? ⟨pb, 6, none⟩ = some (.map (some wm)) := by rw [hp2.pic.cell]; rfl
    have hl1 := fun ty => run_len_map (P := Yba.prog) Yba.underlying38 ty wm 1 #[] w2 hp2.who
    have hl2 := fun ty => run_len_map (P := Yba.prog) Yba.underlying38 ty am 0 #[] w2 hp2.act
    obtain ⟨sz, hsz⟩ : ∃ sz : Int, sz = min (pn : Int) ((ln : Int) - (p : Int)) := ⟨_, rfl⟩
    rw [← hsz] at c3
    have HSZ := hide hsz
    clear hsz
    go_upto_if 65 with fail
    go_cut [23] (fun s23 wx => s23 = .int .i64 sz ∧ w2 = wx)
    case first =>
      have g3 := HQ.out.2.2
      by_cases hlast1 : i + 1 = n
      · have ht : ((i : Int) == (n : Int) - 1) = true := by simp; omega
        have := HS.out.2 hlast1
        have := HSZ.out
        have hs : sz = (ln : Int) - (q : Int) := by omega
        have HH := hide hs
        clear hs
        go_wp2
        go_meet
        case rel => exact ⟨by rw [HH.out], rfl⟩
      · have ht : ((i : Int) == (n : Int) - 1) = false := by simp; omega
        have := HS.out.1 (by omega)
        have := HSZ.out
        have hs : sz = (pn : Int) := by omega
        have HH := hide hs
        clear hs
        go_wp2
        go_meet
        case rel => exact ⟨by rw [HH.out], rfl⟩
    case rest =>
      obtain ⟨rfl, rfl⟩ := hcut
      have hne1 : (wrap64 (nh + 1) != wrap64 (nh + 1)) = false := bne_self_eq_false _
      have hne2 : (wrap64 (lf - sz) != wrap64 (lf - sz)) = false := bne_self_eq_false _
      go_wp2
      clear c2 c3 c5 c6 hl1 hl2 hne1 hne2
      have hbt : ∀ k, k < n → bit (setAt bs i) k = (mb m k || decide (k = i)) := fun k hk => by
        rw [bit_setAt HO.out.1 i k (by have := HO.out.2; omega), HX.out.1 k hk]
      have HBT := hide hbt
      clear hbt
      go_loopg [24] n (fun g s24 wr => ∃ k, k ≤ n ∧ g = n - k ∧ s24 = .int .i64 (k : Nat) ∧ Pic w wr pb ib hb am wm row L n ((n + 7) / 8) info PB HB BS M (fun k => if bit (BS k) i then wrap64 (V k - 1) else V k) (wrap64 (nh + 1)) (wrap64 (lf - min (pn : Int) ((ln : Int) - (p : Int)))) av (setAt bs i) #[] #[] 0 1)
      case atStart => exact ⟨0, by omega, by omega, rfl, hp2⟩
      case round =>
        clear hp2
        obtain ⟨k, hk, hg, rfl, hp3⟩ := hrel
        have HG := hide hg
        clear hg
        by_cases hlt : k < n
        · have hlt' : (k : Int) < (n : Int) := by omega
          have c1 : wr.cell? ⟨pb, 1, none⟩ = some (.slice (some ⟨hb, 0, none⟩) ((n + 7) / 8) ((n + 7) / 8)) := by rw [hp3.pic.cell]; rfl
          obtain ⟨b1, hb1⟩ : ∃ b1, (bits .and .u64 (m / 2 ^ k) 1 == 1) = b1 := ⟨_, rfl⟩
          obtain ⟨b2, hb2⟩ : ∃ b2, ((k : Int) == (i : Int)) = b2 := ⟨_, rfl⟩
          have hbk : bit (setAt bs i) k = (b1 || b2) := by
            rw [HBT.out k hlt, ← hb1, ← hb2]
            have : decide (k = i) = ((k : Int) == (i : Int)) := by
              by_cases e : k = i
              · subst e; simp
              · have : ¬ ((k : Int) = (i : Int)) := by omega
                simp [e, this]
            rw [this]
            rfl
          have HBK := hide hbk
          clear hbk
          cases b1 <;> cases b2
          all_goals
            go_wp2_with fail
            refine (has_any hb ((n + 7) / 8) k (setAt bs i) wr hp3.held hp3.hl (by omega) (by omega)).mono ?_
            rintro e w4 ⟨rfl, nd, rfl⟩
            rw [HBK.out]
            clear c1
            go_wp2
            go_roundg (n - (k + 1))
            case measure => have := HG.out; omega
            case rel => exact ⟨k + 1, by omega, rfl, by go_num, hp3.drewN nd⟩
        · have hlt' : ¬ (k : Int) < (n : Int) := by omega
          have c11 : wr.cell? ⟨pb, 11, none⟩ = some (.slice (some ⟨row, 0, none⟩) L L) := by rw [hp3.pic.cell]; rfl
          go_wp2
          clear c11
          go_loopg [26] L (fun g s26 wx => ∃ k, k ≤ L ∧ g = L - k ∧ s26 = .int .i64 (k : Nat) ∧ Pic w wx pb ib hb am wm row L n ((n + 7) / 8) info PB HB BS M (fun k => if bit (BS k) i then wrap64 (V k - 1) else V k) (wrap64 (nh + 1)) (wrap64 (lf - min (pn : Int) ((ln : Int) - (p : Int)))) av (setAt bs i) #[] #[] 0 1)
          case atStart => exact ⟨0, by omega, by omega, rfl, hp3⟩
          case round =>
            clear hp3 HG hlt hlt' hk
            rename_i k0
            obtain ⟨k, hk, hg, rfl, hp4⟩ := hrel
            have HG := hide hg
            clear hg
            by_cases hlt : k < L
            · have hlt' : (k : Int) < (L : Int) := by omega
              obtain ⟨xb, xo, rfl, hxb, hxc⟩ := hp.1 (by omega)
              obtain ⟨m0, m1⟩ := hp.2 k
              have hx1 : wr.cell? ⟨xb, xo + k * 2, none⟩ = some (.int .u64 (M k)) := (hp4.lp.below.cell (by exact hxb)).trans (hxc k hlt).1
              have hx2 : wr.cell? ⟨xb, xo + k * 2 + 1, none⟩ = some (.int .i64 (V k)) := (hp4.lp.below.cell (by exact hxb)).trans (hxc k hlt).2
              have c11 : wr.cell? ⟨pb, 11, none⟩ = some (.slice (some ⟨row, 0, none⟩) L L) := by rw [hp4.pic.cell]; rfl
              have k1 : wr.cell? ⟨row, k, none⟩ = some (.pointer (some ⟨PB k, 0, none⟩)) := by rw [hp4.lp.prs.row.cell]; simp [hlt]
              obtain ⟨b1, hb1⟩ : ∃ b1, (bits .and .u64 (M k / 2 ^ i) 1 == 1) = b1 := ⟨_, rfl⟩
              have hbk : bit (BS k) i = b1 := by rw [hp4.lp.bits k hlt i hin, ← hb1]; rfl
              have k3 : wr.cell? ⟨PB k, 2, none⟩ = some (.int .i64 (if b1 then wrap64 (V k - 1) else V k)) := by
                rw [(hp4.lp.prs.peer k hlt).cell, hbk]
                rfl
              have HP := hide hp
              have HXC := hide hxc
              clear hp hxc hbk
              have hnn : (V k != V k) = false := bne_self_eq_false _
              have hnm : (wrap64 (V k - 1) != wrap64 (V k - 1)) = false := bne_self_eq_false _
              cases b1
              · simp only [Bool.false_eq_true, if_false] at k3
                go_wp2
                go_quiet (fail)
                go_wp2
                go_roundg (L - (k + 1))
                case measure => have := HG.out; omega
                case rel => exact ⟨k + 1, by omega, rfl, by go_num, hp4.drewN _⟩
              · simp only [if_true] at k3
                go_wp2
                go_quiet (fail)
                go_wp2
                go_roundg (L - (k + 1))
                case measure => have := HG.out; omega
                case rel => exact ⟨k + 1, by omega, rfl, by go_num, hp4.drewN _⟩
            · have hlt' : ¬ (k : Int) < (L : Int) := by omega
              go_wp2
              go_ret
              exact ⟨rfl, hp4.lp.below⟩
end Go.Proofs.Ybulkemu
