/- The contract of zzs0267cbuild (5). -/
import Derived.Test.YbulkemuPic
namespace Go.Proofs.Ybulkemu
open Go.RowKit

theorem heap_drew (x : World) : x.drew.heap = x.heap := rfl

set_option linter.unusedSimpArgs false in
set_option maxRecDepth 100000 in
set_option maxHeartbeats 8000000 in
theorem build_any (np : Nat) (hnp : np ≤ 255) (pl last : Nat) (hpl : pl ≤ 65535) (hlast : last ≤ 65535) (m nh lf : Int) (hm0 : 0 ≤ m) (hm1 : m ≤ 18446744073709551615) (a : Option Addr) (L cap : Nat) (M V : Nat → Int) (hL : L ≤ 256) (w : World) (hp : InP w a L M V)
    (n pn q : Nat) (hn : n = 1 + np % 64) (hpn : pn = 1 + pl) (hq : (((n : Int) - 1) * (pn : Int)) = (q : Int)) :
    Calls Yba.prog 5 #[.int .u8 np, .int .u16 pl, .int .u16 last, .int .u64 m, .int .i64 nh, .int .i64 lf, .slice a L cap] w fun e w' => ∃ pb ib hb am wm row PB HB BS info av bs, e = .returned (.tuple #[.pointer (some ⟨pb, 0, none⟩), .slice (some ⟨row, 0, none⟩) L L, .int .i64 n, .int .i64 pn, .int .i64 (q + 1 + last % pn)]) ∧
      Pic w w' pb ib hb am wm row L n ((n + 7) / 8) info PB HB BS M V nh lf av bs #[] #[] 0 0 ∧ (∀ k, k < n → bit bs k = mb m k) ∧ info[1]? = some (.int .i64 pn) ∧ info[3]? = some (.int .i64 (q + 1 + last % pn)) := by
  obtain ⟨i79, z79, hi79, hz79, hs79, hb79⟩ := info79_parts
  obtain ⟨i32, hi32, hz32, hs32, hb32⟩ := info_parts Yba.info32
  have hn1 : 1 ≤ n ∧ n ≤ 64 := by omega
  obtain ⟨hn1, hn2⟩ := hn1
  have hq1 : q ≤ 4128768 := by
    have h1 : ((n : Int) - 1) * (pn : Int) ≤ 63 * 65536 := Int.mul_le_mul (by omega) (by omega) (by omega) (by omega)
    omega
  have HN := hide hn
  have HPN := hide hpn
  have hpn1 : 1 ≤ pn := by omega
  have hpn2 : pn ≤ 65536 := by omega
  clear hn hpn
  have HQ := hide hq
  clear hq
  go_enter Yba.func5, Yba.ntmps5
  go_upto_region 1 with fail
  go_cut [19] (fun s19 wx => s19 = .int .i64 n ∧ w = wx)
  case first =>
    go_wp2
    go_meet
    case rel => exact ⟨by have := HN.out; go_num, rfl⟩
  case rest =>
  obtain ⟨rfl, rfl⟩ := hcut
  go_upto_region 2 with fail
  go_cut [20] (fun s20 wx => s20 = .int .i64 pn ∧ w = wx)
  case first =>
    go_wp2
    go_meet
    case rel => exact ⟨by have := HPN.out; go_num, rfl⟩
  case rest =>
  obtain ⟨rfl, rfl⟩ := hcut
  go_upto_region 3 with fail
  obtain ⟨r, hr⟩ : ∃ r : Nat, r = last % pn := ⟨_, rfl⟩
  have hr1 : r < pn := by rw [hr]; exact Nat.mod_lt _ (by omega)
  go_cut [21] (fun s21 wx => s21 = .int .i64 (q + 1 + r) ∧ w = wx)
  case first =>
    have hq := HQ.out
    have hr' : (last : Int) % (pn : Int) = (r : Int) := by omega
    clear hr
    go_wp2
    go_meet
    case rel => exact ⟨rfl, rfl⟩
  case rest =>
  obtain ⟨rfl, rfl⟩ := hcut
  have HR := hide hr
  clear hr
  go_wp2_with (at_make; refine wpList_make_full _ rfl (.tmp 45) (.tmp 45) 54 rfl w.heap.size 79 i79 (.agg z79) 20 Yba.underlying54 hi79 hz79 hs79 .i64 .i64 _ _ n rfl rfl (by omega) (by omega) (by rw [hb79]; omega) (by unfold maxLen; omega) (Nat.le_refl _) ?_)
  intro w1 hown hgrow
  have lt1 : w.heap.size < w1.heap.size := (hown.lt _ rfl).2
  have hb1 : Below w.heap.size w w1 := (Below.refl _ w).grown hgrow (Nat.le_refl _) (by simp)
  clear hown hgrow
  go_wp2_with (at_make; refine wpList_make_full _ rfl (.tmp 50) (.tmp 50) 26 rfl w.heap.size 32 i32 (.pointer none) 1 Yba.underlying26 hi32 hz32 hs32 .i64 .i64 _ _ L rfl rfl (by omega) (by omega) (by rw [hb32]; omega) (by unfold maxLen; omega) (by simp; omega) ?_)
  intro w2 hown hgrow
  have lt2 : w1.heap.size + 1 < w2.heap.size := (hown.lt _ rfl).2
  have hlp : Lp w w2 w1.heap.size (w1.heap.size + 1) L 0 n ((n + 7) / 8) [.string { data := #[] }, .int .i64 pn, .slice (some ⟨w.heap.size, 0, none⟩) n n, .int .i64 (q + 1 + r), .slice none 0 0, .bool false, .bool false] (fun _ => 0) (fun _ => 0) (fun _ => []) M V := by
    refine ⟨(Blk.new w1 _ 57).keep (hgrow.block _ (by simp) (by simp)), ⟨?_, by intro k hk; omega, by intro k hk; omega, by intro j k hj; omega⟩, by intro k hk; omega, by omega, by intro k hk; omega, ?_⟩
    · have := made_blk (z := .pointer none) hown (by simp)
      refine Eq.trans this ?_
      congr 3
      apply List.ext_getElem
      · simp
      · intro i h1 h2
        simp
    · exact (hb1.alloc (by omega) _).grown hgrow (by simp; omega) (by simp)
  clear hown hgrow hb1
  go_wp2
  generalize hinfo : [Value.string { data := #[] }, .int .i64 pn, .slice (some ⟨w.heap.size, 0, none⟩) n n, .int .i64 (q + 1 + r), .slice none 0 0, .bool false, .bool false] = info at hlp
  have HI := hide hinfo
  clear hinfo
  go_loopg [24] L (fun g s24 wr => ∃ k PB HB BS, k ≤ L ∧ g = L - k ∧ s24 = .int .i64 (k : Nat) ∧ Lp w wr w1.heap.size (w1.heap.size + 1) L k n ((n + 7) / 8) info PB HB BS M V)
  case atStart => exact ⟨0, _, _, _, by omega, by omega, rfl, hlp⟩
  case round =>
    clear hlp lt2
    obtain ⟨k, PB, HB, BS, hk, hg, rfl, hlp⟩ := hrel
    have HG := hide hg
    clear hg
    by_cases hlt : k < L
    · have hlt' : (k : Int) < (L : Int) := by omega
      have hk0 : (0 : Int) ≤ (k : Int) := by omega
      obtain ⟨xb, xo, rfl, hxb, hxc⟩ := hp.1 (by omega)
      obtain ⟨m0, m1⟩ := hp.2 k
      have hs0 := hlp.below.size
      have hx1 : wr.cell? ⟨xb, xo + k * 2, none⟩ = some (.int .u64 (M k)) := (hlp.below.cell (by exact hxb)).trans (hxc k hlt).1
      have hx2 : wr.cell? ⟨xb, xo + k * 2 + 1, none⟩ = some (.int .i64 (V k)) := (hlp.below.cell (by exact hxb)).trans (hxc k hlt).2
      have hxb' : xb < wr.heap.size := by omega
      have hrl : w1.heap.size + 1 < wr.heap.size := hlp.prs.row.lt
      have hrc : wr.cell? ⟨w1.heap.size + 1, k, none⟩ = some (.pointer none) := by rw [hlp.prs.row.cell k]; simp [hlt]
      have hrf : wr.frozen? ⟨w1.heap.size + 1, k, none⟩ = false := hlp.prs.row.free k
      have hne1 : ¬ (w1.heap.size + 1 = xb) := by omega
      have HP := hide hp
      have HXC := hide hxc
      clear hp hxc
      go_wp2
      go_region_held3 (fun w' => w'.cell? ⟨xb, xo + k * 2, none⟩ = some (.int .u64 (M k)) ∧ w'.cell? ⟨xb, xo + k * 2 + 1, none⟩ = some (.int .i64 (V k)))
        (go_keep)
        ((go_at_call 8; refine (bf_any n (M k) hn2 m0 m1 _).mono ?_; rintro e w3 ⟨rfl, bs, hbf, hbl, hbb, hbel⟩; have s1 := (hbel.cell (p := ⟨xb, xo + k * 2, none⟩) (by simp; omega)).trans hx1; have s2 := (hbel.cell (p := ⟨xb, xo + k * 2 + 1, none⟩) (by simp; omega)).trans hx2; have hx3 : xb < w3.heap.size := (by have := hbel.size; simp at this; omega); have hc3 := (hbel.cell (p := ⟨w1.heap.size + 1, k, none⟩) (by simp; omega)).trans hrc; have hf3 := (hbel.frozen (p := ⟨w1.heap.size + 1, k, none⟩) (by simp; omega)).trans hrf; have hl3 : w1.heap.size + 1 < w3.heap.size := (by have := hbel.size; simp at this; omega)))
      clear s1 s2 hx1 hx2 hc3 hf3 hrc hrf hx3 hne1
      go_wp2
      go_roundg (L - (k + 1))
      case measure => have := HG.out; omega
      case rel =>
        obtain ⟨PB', HB', BS', hlp'⟩ := hlp.next hlt (w1 := w3) hbf hbl hbb ⟨hbel.os, hbel.tape, hbel.output, hbel.size, hbel.block⟩ _ rfl _ rfl hs0
        exact ⟨k + 1, PB', HB', BS', by omega, rfl, by go_num, hlp'⟩
    · have hlt' : ¬ (k : Int) < (L : Int) := by omega
      have hke : k = L := by omega
      have HK := hide hke
      clear hke
      have hmk := run_make_row' (P := Yba.prog) 30 3 (.int .i64 0) 8 Yba.underlying30 Yba.info3 rfl .i64 .i64 n (by omega) (by omega)
      have hmm := @run_makeMap Yba.prog
      go_wp2
      go_cut [25] (fun s25 wx => ∃ pb hb am wm av bs, s25 = .pointer (some ⟨pb, 0, none⟩) ∧ Below wr.heap.size wr wx ∧ Blk wx pb 44 (pcells w1.heap.size hb ((n + 7) / 8) nh lf av am wm (w1.heap.size + 1) L) ∧ Bf wx hb bs ∧ bs.length = (n + 7) / 8 ∧ (∀ k, k < n → bit bs k = mb m k) ∧
          wx.heap[am]? = some (.map #[] 0) ∧ wx.heap[wm]? = some (.map #[] 0) ∧ am ≠ wm ∧ wr.heap.size ≤ pb ∧ wr.heap.size ≤ hb ∧ wr.heap.size ≤ am ∧ wr.heap.size ≤ wm)
      case first =>
        have HL := hide hlp
        have HMM := hide (And.intro hn2 (And.intro hm0 hm1))
        clear hlp hi79 hz79 hs79 hb79 hi32 hz32 hs32 hb32 hp hlt hlt' hn1 hn2 hq1 hpn1 hpn2 hr1 lt1 hk hL hm0 hm1 hnp hpl hlast
        go_region_held3 (fun _ => True) (trivial) ((go_at_call 8; refine (bf_any n m HMM.out.1 HMM.out.2.1 HMM.out.2.2 _).mono ?_; rintro e w3 ⟨rfl, bs, hbf, hbl, hbb, hbel⟩))
        all_goals
          go_wp2_with fail
          go_meet
          have hB : Below wr.heap.size wr w3 := by
            first
            | exact (⟨hbel.os, hbel.tape, hbel.output, hbel.size, hbel.block⟩ : Below wr.heap.size wr w3)
            | exact ((Below.refl wr.heap.size wr).alloc (Nat.le_refl _) _).drew.trans (hbel.mono (by simp [heap_drew]))
            | exact (((Below.refl wr.heap.size wr).alloc (Nat.le_refl _) _).alloc (by simp) _).drew.trans (hbel.mono (by first | omega | (simp [heap_drew]; done) | (simp [heap_drew]; omega)))
            | exact ((((Below.refl wr.heap.size wr).alloc (Nat.le_refl _) _).alloc (by simp) _).alloc (by first | omega | (simp [heap_drew]; done) | (simp [heap_drew]; omega)) _).drew.trans (hbel.mono (by first | omega | (simp [heap_drew]; done) | (simp [heap_drew]; omega)))
          have hS := hbel.size
          have hH := hbf.1.lt
          simp [heap_drew] at hS hH
          repeat apply Exists.intro
          refine ⟨rfl, ?_, heap_at _ _ _ (by simp), ?_, hbl, hbb, ?_, ?_, ?_, ?_, ?_, ?_, ?_⟩
          · repeat (first | exact hB | refine Below.alloc ?_ (by first | omega | (simp [heap_drew]; done) | (simp [heap_drew]; omega)) _)
          · refine ⟨?_, hbf.2⟩
            repeat (first | refine Blk.alloc ?_ _ | (have hF := hbf.1; simpa [heap_drew] using hF))
          · repeat (first | (refine heap_at _ _ _ ?_; simp; done) | rw [Below.heap_alloc _ _ _ (by first | omega | (simp [heap_drew]; done) | (simp [heap_drew]; omega))] | rw [hbel.block _ (by first | omega | (simp [heap_drew]; done) | (simp [heap_drew]; omega)), heap_drew])
          · repeat (first | (refine heap_at _ _ _ ?_; simp; done) | rw [Below.heap_alloc _ _ _ (by first | omega | (simp [heap_drew]; done) | (simp [heap_drew]; omega))] | rw [hbel.block _ (by first | omega | (simp [heap_drew]; done) | (simp [heap_drew]; omega)), heap_drew])
          · omega
          · omega
          · omega
          · omega
          · omega
      case rest =>
        obtain ⟨pb, hb, am, wm, av, bs, rfl, r1, r2, r3, r4, r5, r6, r7, r8, r9, r10, r11, r12⟩ := hcut
        clear hmk hmm
        have hK := HK.out
        subst hK
        have hpic := pic_made hlp r1 r2 r3 r4 r6 r7 r8 r9 r10 r11 r12
        have HPIC := hide (And.intro hpic r5)
        clear hlp r1 r2 r3 r4 r5 r6 r7 r8 r9 r10 r11 r12 hpic hp
        go_wp2
        have HRO := HR.out
        refine bodyPost_ret (v := .tuple #[.pointer (some ⟨pb, 0, none⟩), .slice (some ⟨w1.heap.size + 1, 0, none⟩) k k, .int .i64 n, .int .i64 pn, .int .i64 (q + 1 + r)]) (by simp [results, Yba.results5, go_sem]) rfl ?_
        have er : (q : Int) + 1 + (last : Int) % (pn : Int) = (q : Int) + 1 + (r : Int) := by omega
        rw [er]
        refine ⟨pb, w1.heap.size, hb, am, wm, w1.heap.size + 1, rfl, PB, HB, BS, info, av, bs, HPIC.out.1, HPIC.out.2, ?_, ?_⟩
        · rw [← HI.out]; rfl
        · rw [← HI.out]; rfl
end Go.Proofs.Ybulkemu
