/- The contract of zzs0269abuild (6). -/
import Derived.Test.YbulkenwSet
import Derived.Test.YbulkenwWords
import Derived.OpenShut
import Derived.Deep.DeepCutAuto
import Derived.Deep.LoopGhost
namespace Go.Proofs.Ybulkenw
open Go.RowKit

/-- A slice of numbers that came in. -/
def InRow (w : World) (a : Option Addr) (len cap : Nat) (zs : List Int) : Prop :=
  len ≤ cap ∧ zs.length = cap ∧ (∀ n ∈ zs, 0 ≤ n ∧ n ≤ 65535) ∧ (0 < len → ∃ b o, a = some ⟨b, o, none⟩ ∧ b < w.heap.size ∧ ∀ j, j < len → w.cell? ⟨b, o + j, none⟩ = some (.int .u16 (zs.getD j 0)))

/-- Element i, or 0 behind the end. -/
def el (zs : List Int) (len i : Nat) : Int := if i < len then zs.getD i 0 else 0

theorem el_bound {zs : List Int} {len : Nat} (h : ∀ n ∈ zs, 0 ≤ n ∧ n ≤ 65535) (hl : len ≤ zs.length) (i : Nat) : 0 ≤ el zs len i ∧ el zs len i ≤ 65535 := by
  unfold el
  split
  · rename_i hi
    rw [List.getD_eq_getElem?_getD, List.getElem?_eq_getElem (by omega)]
    exact h _ (List.getElem_mem _)
  · omega

/-- What the loop of zzs0269abuild has made behind q rounds. -/
structure Bs (w0 w : World) (b hd row n og m q : Nat) (F : Nat → Int) : Prop where
  ss : Ssn w b hd row n (fun i => if i < q then F i else 0)
  own : ∃ xs, w.ownsRow w0.heap.size 23 1 (.slice (some ⟨og, 0, none⟩) m m) m xs ∧ ∀ j, j < q → xs[j]? = some (.int .u64 (F j))
  n1 : og ≠ b
  n2 : og ≠ hd
  n3 : og ≠ row
  below : Below w0.heap.size w0 w
  l1 : w0.heap.size ≤ b
  l3 : w0.heap.size ≤ row
  l4 : w0.heap.size ≤ og

theorem heap_other (w : World) (a : Addr) (v : Value) (k : Nat) (h : a.block ≠ k) : (w.setCell a v).heap[k]? = w.heap[k]? := Below.heap_setCell _ _ _ _ (Ne.symm h)

theorem Bs.first {w0 w : World} {b hd row n og m : Nat} {F : Nat → Int} (h : Bs w0 w b hd row n og m 0 F) (hm : 0 < m) :
    Bs w0 ((w.setCell ⟨og, 0, none⟩ (.int .u64 (F 0))).setCell ⟨b, 0, none⟩ (.int .u64 (F 0))) b hd row n og m 1 F where
  ss := ((h.ss.far (heap_other _ _ _ _ h.n1) (heap_other _ _ _ _ h.n2) (heap_other _ _ _ _ h.n3)).base (F 0)).congr (by
    intro i hi
    by_cases e : i = 0
    · subst e; simp
    · simp [e])
  own := by
    obtain ⟨xs, ho, hx⟩ := h.own
    have hl := ho.1
    refine ⟨xs.set 0 (.int .u64 (F 0)), ownsRow_setCell_other (ho.stored 0 _).1 (by simp [Value.ownBlock]; exact h.n1) _, ?_⟩
    intro j hj
    obtain rfl : j = 0 := by omega
    exact List.getElem?_set_self (by omega)
  n1 := h.n1
  n2 := h.n2
  n3 := h.n3
  below := (h.below.setCell h.l4 _).setCell h.l1 _
  l1 := h.l1
  l3 := h.l3
  l4 := h.l4

theorem Bs.next {w0 w : World} {b hd row n og m q : Nat} {F : Nat → Int} (h : Bs w0 w b hd row n og m (q + 1) F) (hm : q + 1 < m) (hq : q < n) :
    Bs w0 ((w.setCell ⟨og, q + 1, none⟩ (.int .u64 (F (q + 1)))).setCell ⟨row, q * 121, none⟩ (.int .u64 (F (q + 1)))) b hd row n og m (q + 1 + 1) F where
  ss := ((h.ss.far (heap_other _ _ _ _ h.n1) (heap_other _ _ _ _ h.n2) (heap_other _ _ _ _ h.n3)).stripe q hq (F (q + 1))).congr (by
    intro i hi
    by_cases e : i = q + 1
    · subst e; simp
    · by_cases e2 : i < q + 1
      · simp [e, e2, show i < q + 1 + 1 by omega]
      · simp [e, e2, show ¬ i < q + 1 + 1 by omega])
  own := by
    obtain ⟨xs, ho, hx⟩ := h.own
    have hl := ho.1
    refine ⟨xs.set (q + 1) (.int .u64 (F (q + 1))), ownsRow_setCell_other (ho.stored (q + 1) _).1 (by simp [Value.ownBlock]; exact h.n3) _, ?_⟩
    intro j hj
    by_cases e : j = q + 1
    · subst e; exact List.getElem?_set_self (by omega)
    · rw [List.getElem?_set_ne (by omega)]; exact hx j (by omega)
  n1 := h.n1
  n2 := h.n2
  n3 := h.n3
  below := (h.below.setCell h.l4 _).setCell h.l3 _
  l1 := h.l1
  l3 := h.l3
  l4 := h.l4

theorem Yba.info23 : (Yba.prog.info? 23).map (fun i => (i.zero, i.size, i.bytes)) = some (some (.int .u64 0), 1, 8) := by kernel_rfl

set_option maxRecDepth 100000 in
set_option maxHeartbeats 400000 in
theorem build_many (k n : Nat) (hk : ((k : Int) % 4 = 1 ∧ n = 2) ∨ ((k : Int) % 4 = 2 ∧ n = 4) ∨ ((k : Int) % 4 = 3 ∧ n = 8)) (hk8 : k ≤ 255) (a1 : Option Addr) (len1 cap1 : Nat) (z1 : List Int) (a2 : Option Addr) (len2 cap2 : Nat) (z2 : List Int) (w : World)
    (i1 : InRow w a1 len1 cap1 z1) (i2 : InRow w a2 len2 cap2 z2) :
    Calls Yba.prog 6 #[.int .u8 k, .slice a1 len1 cap1, .slice a2 len2 cap2] w fun e w' => ∃ b hd row og, e = .returned (.tuple #[.pointer (some ⟨b, 0, none⟩), .slice (some ⟨og, 0, none⟩) (n + 1) (n + 1), .bool true]) ∧ Bs w w' b hd row n og (n + 1) (n + 1) (fun i => wd (el z1 len1 i) (el z2 len2 i)) := by
  have hn2 : 2 ≤ n ∧ n ≤ 8 := by omega
  obtain ⟨hn2, hn8⟩ := hn2
  have HK := hide hk
  clear hk
  go_enter Yba.func6, Yba.ntmps6
  go_upto_region 1 with fail
  go_cut [9] (fun s9 wx => s9 = .int .i64 n ∧ w = wx)
  case first =>
    rcases HK.out with ⟨h1, h2⟩ | ⟨h1, h2⟩ | ⟨h1, h2⟩
    all_goals
      have H2 := hide h2
      clear h2
      go_wp2_with fail
      go_meet
      case rel => exact ⟨by rw [H2.out]; rfl, rfl⟩
  case rest =>
    obtain ⟨rfl, rfl⟩ := hcut
    go_wp2_with fail
    refine (newset_many _ n rfl hn2 hn8 w).mono ?_
    rintro e w1 ⟨b, hd, row, rfl, hss, l1, l2, l3, g1, g2, g3, hb1⟩
    obtain ⟨i0, hi, hz0, hz1, hz2⟩ := info_parts Yba.info23
    have hn2' : (1 : Int) < (n : Int) := by omega
    go_wp2_with (at_make; refine wpList_make_full _ rfl (.tmp 28) (.tmp 28) 25 rfl w.heap.size 23 i0 (.int .u64 0) 1 Yba.underlying25 hi hz0 hz1 .i64 .i64 _ _ (n + 1) rfl rfl (by omega) (by omega) (by rw [hz2]; omega) (by unfold maxLen; omega) (by have := hb1.size; omega) ?_)
    intro w2 hown hgrow
    have hbs : Bs w w2 b hd row n w1.heap.size (n + 1) 0 (fun i => wd (el z1 len1 i) (el z2 len2 i)) :=
      ⟨(hss.far (hgrow.block _ g1 (by simp)) (hgrow.block _ g2 (by simp)) (hgrow.block _ g3 (by simp))).congr (by simp), ⟨_, hown, by intro j hj; omega⟩, by omega, by omega, by omega,
        hb1.grown hgrow hb1.size (by simp), l1, l3, hb1.size⟩
    clear hss hown hgrow hb1 g1 g2 g3 l1 l2 l3
    go_wp2
    go_loopg [13] (n + 1) (fun g s13 wr => ∃ q, q ≤ n + 1 ∧ g = n + 1 - q ∧ s13 = .int .i64 (q : Nat) ∧ Bs w wr b hd row n w1.heap.size (n + 1) q (fun i => wd (el z1 len1 i) (el z2 len2 i)))
    case atStart => exact ⟨0, by omega, by omega, rfl, hbs⟩
    case round =>
      clear hbs
      obtain ⟨q, hq, hg, rfl, hbs⟩ := hrel
      have HG := hide hg
      clear hg
      by_cases hlt : q < n + 1
      · have hlt' : (q : Int) < (n : Int) + 1 := by omega
        go_upto_if 38 with fail
        go_cut [14] (fun s14 wx => s14 = .int .u16 (el z1 len1 q) ∧ wr = wx)
        case first =>
          by_cases hc : q < len1
          · obtain ⟨xb, xo, rfl, hx1, hx2⟩ := i1.2.2.2 (by omega)
            have hcx : wr.cell? ⟨xb, xo + q, none⟩ = some (.int .u16 (z1.getD q 0)) := (hbs.below.cell (by exact hx1)).trans (hx2 q hc)
            have hc' : (q : Int) < (len1 : Int) := by omega
            go_wp2
            go_meet
            case rel => exact ⟨by simp [el, hc], rfl⟩
          · have hc' : ¬ (q : Int) < (len1 : Int) := by omega
            go_wp2
            go_meet
            case rel => exact ⟨by simp [el, hc], rfl⟩
        case rest =>
          obtain ⟨rfl, rfl⟩ := hcut
          go_upto_if 46 with fail
          go_cut [15] (fun s15 wx => s15 = .int .u16 (el z2 len2 q) ∧ wr = wx)
          case first =>
            by_cases hc : q < len2
            · obtain ⟨xb, xo, rfl, hx1, hx2⟩ := i2.2.2.2 (by omega)
              have hcx : wr.cell? ⟨xb, xo + q, none⟩ = some (.int .u16 (z2.getD q 0)) := (hbs.below.cell (by exact hx1)).trans (hx2 q hc)
              have hc' : (q : Int) < (len2 : Int) := by omega
              go_wp2
              go_meet
              case rel => exact ⟨by simp [el, hc], rfl⟩
            · have hc' : ¬ (q : Int) < (len2 : Int) := by omega
              go_wp2
              go_meet
              case rel => exact ⟨by simp [el, hc], rfl⟩
          case rest =>
            obtain ⟨rfl, rfl⟩ := hcut
            obtain ⟨b1, b2⟩ := el_bound i1.2.2.1 (by have := i1.1; have := i1.2.1; omega) (zs := z1) (len := len1) q
            obtain ⟨c1, c2⟩ := el_bound i2.2.2.1 (by have := i2.1; have := i2.2.1; omega) (zs := z2) (len := len2) q
            obtain ⟨bq, hbq⟩ : ∃ bq, bq = el z1 len1 q := ⟨_, rfl⟩
            obtain ⟨cq, hcq⟩ : ∃ cq, cq = el z2 len2 q := ⟨_, rfl⟩
            rw [← hbq] at b1 b2
            rw [← hcq] at c1 c2
            rw [← hbq, ← hcq]
            have HB := hide (And.intro hbq hcq)
            clear hbq hcq
            have e1 := and_count cq c1 c2
            have e2 := or_word bq cq b1 b2 c1 c2
            have e3 := div_word bq cq c1 c2
            obtain ⟨d1, d2⟩ := wd_bound bq cq b1 b2 c1 c2
            obtain ⟨xs, ho, hx⟩ := hbs.own
            have hlx := ho.1
            have HX := hide hx
            clear hx
            have co : wr.cell? ⟨w1.heap.size, q, none⟩ = some xs[q] := (ho.cellAt q (by omega)).trans (List.getElem?_eq_getElem (by omega))
            have zo := ho.frozenAt q
            have hne : (bq != bq) = false := bne_self_eq_false bq
            by_cases hq0 : q = 0
            · subst hq0
              have k0 := hbs.ss.c0
              have k1 := hbs.ss.z0
              have k2 := hbs.n1
              go_wp2_with fail
              refine (store_any b 0 _ _ _ ((cell_set_block _ _ _ _ _ _ k2).trans k0) ((World.frozen?_setCell _ _ _ _).trans k1)).mono ?_
              rintro e w4 ⟨rfl, rfl⟩
              clear e1 e2 e3 co zo k0 k1 ho hne
              go_wp2
              go_roundg (n + 1 - 1)
              case measure => have := HG.out; omega
              case rel =>
                have hf := hbs.first (by omega)
                rw [← HB.out.1, ← HB.out.2] at hf
                exact ⟨1, by omega, rfl, by go_num, hf⟩
            · obtain ⟨p, rfl⟩ : ∃ p, q = p + 1 := ⟨q - 1, by omega⟩
              have hpn : p < n := by omega
              have k0 := hbs.ss.c6
              have k1 := hbs.ss.ch
              have k2 := hbs.ss.cr p hpn
              have k3 := hbs.ss.zr p hpn
              have m1 := hbs.n1
              have m2 := hbs.n2
              have m3 := hbs.n3
              have hp0 : (0 : Int) ≤ (p : Int) := by omega
              have hp1 : (p : Int) < (n : Int) := by omega
              have hq1 : (((p + 1 : Nat) : Int) == 0) = false := by simp; omega
              go_wp2_with fail
              refine (store_any row (p * 121) _ _ _ ((cell_set_block _ _ _ _ _ _ m3).trans k2) ((World.frozen?_setCell _ _ _ _).trans k3)).mono ?_
              rintro e w4 ⟨rfl, rfl⟩
              clear e1 e2 e3 co zo k0 k1 k2 k3 ho hne
              go_wp2
              go_roundg (n + 1 - (p + 1 + 1))
              case measure => have := HG.out; omega
              case rel =>
                have hf := hbs.next hlt hpn
                rw [← HB.out.1, ← HB.out.2] at hf
                exact ⟨p + 1 + 1, by omega, rfl, by go_num, hf⟩
      · have hlt' : ¬ (q : Int) < (n : Int) + 1 := by omega
        have hqe : q = n + 1 := by omega
        go_wp2
        go_ret3
        subst hqe
        exact ⟨b, hd, row, w1.heap.size, by simp, hbs⟩

/-- The same for a set without cells. -/
structure Bo (w0 w : World) (b og q : Nat) (x : Int) : Prop where
  ss : Ss1 w b (if 0 < q then x else 0)
  own : ∃ xs, w.ownsRow w0.heap.size 23 1 (.slice (some ⟨og, 0, none⟩) 1 1) 1 xs ∧ ∀ j, j < q → xs[j]? = some (.int .u64 x)
  n1 : og ≠ b
  below : Below w0.heap.size w0 w
  l1 : w0.heap.size ≤ b
  l4 : w0.heap.size ≤ og

theorem Bo.first {w0 w : World} {b og : Nat} {x : Int} (h : Bo w0 w b og 0 x) :
    Bo w0 ((w.setCell ⟨og, 0, none⟩ (.int .u64 x)).setCell ⟨b, 0, none⟩ (.int .u64 x)) b og 1 x where
  ss := by simpa using (h.ss.far (heap_other _ _ _ _ h.n1)).base x
  own := by
    obtain ⟨xs, ho, hx⟩ := h.own
    have hl := ho.1
    refine ⟨xs.set 0 (.int .u64 x), ownsRow_setCell_other (ho.stored 0 _).1 (by simp [Value.ownBlock]; exact h.n1) _, ?_⟩
    intro j hj
    obtain rfl : j = 0 := by omega
    exact List.getElem?_set_self (by omega)
  n1 := h.n1
  below := (h.below.setCell h.l4 _).setCell h.l1 _
  l1 := h.l1
  l4 := h.l4

set_option maxRecDepth 100000 in
set_option maxHeartbeats 400000 in
theorem build_one (k : Nat) (hk : (k : Int) % 4 = 0) (hk8 : k ≤ 255) (a1 : Option Addr) (len1 cap1 : Nat) (z1 : List Int) (a2 : Option Addr) (len2 cap2 : Nat) (z2 : List Int) (w : World)
    (i1 : InRow w a1 len1 cap1 z1) (i2 : InRow w a2 len2 cap2 z2) :
    Calls Yba.prog 6 #[.int .u8 k, .slice a1 len1 cap1, .slice a2 len2 cap2] w fun e w' => ∃ b og, e = .returned (.tuple #[.pointer (some ⟨b, 0, none⟩), .slice (some ⟨og, 0, none⟩) 1 1, .bool true]) ∧ Bo w w' b og 1 (wd (el z1 len1 0) (el z2 len2 0)) := by
  go_enter Yba.func6, Yba.ntmps6
  go_upto_region 1 with fail
  go_cut [9] (fun s9 wx => s9 = .int .i64 1 ∧ w = wx)
  case first =>
    go_wp2_with fail
    go_meet
    case rel => exact ⟨rfl, rfl⟩
  case rest =>
    obtain ⟨rfl, rfl⟩ := hcut
    clear hk
    go_wp2_with fail
    refine (newset_one _ (by omega) w).mono ?_
    rintro e w1 ⟨b, rfl, hss, l1, g1, hb1⟩
    obtain ⟨i0, hi, hz0, hz1, hz2⟩ := info_parts Yba.info23
    go_wp2_with (at_make; refine wpList_make_full _ rfl (.tmp 28) (.tmp 28) 25 rfl w.heap.size 23 i0 (.int .u64 0) 1 Yba.underlying25 hi hz0 hz1 .i64 .i64 _ _ 1 rfl rfl (by omega) (by omega) (by rw [hz2]; omega) (by unfold maxLen; omega) (by have := hb1.size; omega) ?_)
    intro w2 hown hgrow
    have hbs : Bo w w2 b w1.heap.size 0 (wd (el z1 len1 0) (el z2 len2 0)) :=
      ⟨by simpa using hss.far (hgrow.block _ g1 (by simp)), ⟨_, hown, by intro j hj; omega⟩, by omega, hb1.grown hgrow hb1.size (by simp), l1, hb1.size⟩
    clear hss hown hgrow hb1 g1 l1
    go_wp2
    go_loopg [13] 1 (fun g s13 wr => ∃ q, q ≤ 1 ∧ g = 1 - q ∧ s13 = .int .i64 (q : Nat) ∧ Bo w wr b w1.heap.size q (wd (el z1 len1 0) (el z2 len2 0)))
    case atStart => exact ⟨0, by omega, by omega, rfl, hbs⟩
    case round =>
      clear hbs
      obtain ⟨q, hq, hg, rfl, hbs⟩ := hrel
      have HG := hide hg
      clear hg
      by_cases hlt : q < 1
      · obtain rfl : q = 0 := by omega
        have z0 : ((0 : Nat) : Int) = 0 := rfl
        rw [z0]
        clear z0
        go_upto_if 38 with fail
        go_cut [14] (fun s14 wx => s14 = .int .u16 (el z1 len1 0) ∧ wr = wx)
        case first =>
          by_cases hc : 0 < len1
          · obtain ⟨xb, xo, rfl, hx1, hx2⟩ := i1.2.2.2 (by omega)
            have hcx : wr.cell? ⟨xb, xo, none⟩ = some (.int .u16 (z1.getD 0 0)) := (hbs.below.cell (by exact hx1)).trans (hx2 0 hc)
            have hc' : (0 : Int) < (len1 : Int) := by omega
            go_wp2
            go_meet
            case rel => exact ⟨by simp [el, hc], rfl⟩
          · have hc' : ¬ (0 : Int) < (len1 : Int) := by omega
            go_wp2
            go_meet
            case rel => exact ⟨by simp [el, hc], rfl⟩
        case rest =>
          obtain ⟨rfl, rfl⟩ := hcut
          go_upto_if 46 with fail
          go_cut [15] (fun s15 wx => s15 = .int .u16 (el z2 len2 0) ∧ wr = wx)
          case first =>
            by_cases hc : 0 < len2
            · obtain ⟨xb, xo, rfl, hx1, hx2⟩ := i2.2.2.2 (by omega)
              have hcx : wr.cell? ⟨xb, xo, none⟩ = some (.int .u16 (z2.getD 0 0)) := (hbs.below.cell (by exact hx1)).trans (hx2 0 hc)
              have hc' : (0 : Int) < (len2 : Int) := by omega
              go_wp2
              go_meet
              case rel => exact ⟨by simp [el, hc], rfl⟩
            · have hc' : ¬ (0 : Int) < (len2 : Int) := by omega
              go_wp2
              go_meet
              case rel => exact ⟨by simp [el, hc], rfl⟩
          case rest =>
            obtain ⟨rfl, rfl⟩ := hcut
            obtain ⟨b1, b2⟩ := el_bound i1.2.2.1 (by have := i1.1; have := i1.2.1; omega) (zs := z1) (len := len1) 0
            obtain ⟨c1, c2⟩ := el_bound i2.2.2.1 (by have := i2.1; have := i2.2.1; omega) (zs := z2) (len := len2) 0
            obtain ⟨bq, hbq⟩ : ∃ bq, bq = el z1 len1 0 := ⟨_, rfl⟩
            obtain ⟨cq, hcq⟩ : ∃ cq, cq = el z2 len2 0 := ⟨_, rfl⟩
            rw [← hbq] at b1 b2
            rw [← hcq] at c1 c2
            rw [← hbq, ← hcq]
            have HB := hide (And.intro hbq hcq)
            clear hbq hcq
            have e1 := and_count cq c1 c2
            have e2 := or_word bq cq b1 b2 c1 c2
            have e3 := div_word bq cq c1 c2
            obtain ⟨d1, d2⟩ := wd_bound bq cq b1 b2 c1 c2
            obtain ⟨xs, ho, hx⟩ := hbs.own
            have hlx := ho.1
            clear hx
            have co : wr.cell? ⟨w1.heap.size, 0, none⟩ = some xs[0] := (ho.cellAt 0 (by omega)).trans (List.getElem?_eq_getElem (by omega))
            have zo := ho.frozenAt 0
            have hne : (bq != bq) = false := bne_self_eq_false bq
            have k0 := hbs.ss.c0
            have k1 := hbs.ss.z0
            have k2 := hbs.n1
            go_wp2_with fail
            refine (store_any b 0 _ _ _ ((cell_set_block _ _ _ _ _ _ k2).trans k0) ((World.frozen?_setCell _ _ _ _).trans k1)).mono ?_
            rintro e w4 ⟨rfl, rfl⟩
            clear e1 e2 e3 co zo k0 k1 ho hne
            go_wp2
            go_roundg 0
            case measure => have := HG.out; omega
            case rel =>
              have hf := hbs.first
              rw [← HB.out.1, ← HB.out.2] at hf
              exact ⟨1, by omega, rfl, by go_num, by rw [← HB.out.1, ← HB.out.2]; exact hf⟩
      · have hqe : q = 1 := by omega
        subst hqe
        go_wp2
        go_ret3
        exact ⟨b, w1.heap.size, by simp, hbs⟩
end Go.Proofs.Ybulkenw
