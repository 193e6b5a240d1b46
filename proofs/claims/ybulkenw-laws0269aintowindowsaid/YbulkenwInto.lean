/- The walk of LawS0269AIntoWindow (4). -/
import Derived.Test.YbulkenwAny
import Derived.WalkSmall
namespace Go.Proofs.Ybulkenw
open Go.RowKit

theorem Yba.info46 : (Yba.prog.info? 46).map (fun i => (i.zero, i.size, i.bytes)) = some (some (.agg #[.int .u32 0, .int .u32 0, .int .u32 0]), 3, 12) := by kernel_rfl

theorem made_three (K j : Nat) (hj : j < K * 3) : (madeCells #[Value.int .u32 0, .int .u32 0, .int .u32 0] (K * 3)).toList[j]? = some (.int .u32 0) := by
  have : j % 3 = 0 ∨ j % 3 = 1 ∨ j % 3 = 2 := by omega
  rcases this with h | h | h <;> simp [madeCells, hj, h]

theorem Win_new (w : World) (r K base : Nat) (h cf : Int) (hown : w.ownsRow base 46 3 (.slice (some ⟨r, 0, none⟩) K K) K (madeCells #[Value.int .u32 0, .int .u32 0, .int .u32 0] (K * 3)).toList) (hK : 1 ≤ K ∧ K ≤ 8) (hh : 0 ≤ h ∧ h ≤ 65535) :
    Win (w.alloc (.cells #[.int .u64 0, .int .i64 0, .pointer none, .int .i64 0, .slice (some ⟨r, 0, none⟩) K K, .int .i64 h, .int .i64 0, .int .i64 0, .int .i64 0, .int .i64 cf] 40)) w.heap.size r K ⟨h, 0, 0, 0, cf, fun _ => 0⟩ := by
  have hr : r < w.heap.size := (hown.lt r rfl).2
  refine ⟨by simp, by simp, by simp, by simp, by simp, by simp, ?_, by intro j; simp, ?_, by omega, hK, hh, by intro j; simp⟩
  · intro j hj
    rw [World.cell?_alloc_past _ _ _ hr, hown.cellAt j hj]
    exact made_three K j hj
  · intro j
    rw [World.frozen?_alloc_past _ _ _ hr]
    exact hown.frozenAt j

theorem Sett.sub {w : World} {b m : Nat} {f : Nat → Int} {F G : Nat → Prop} (h : Sett w b m f F G) : ∀ j, G j → F j := by
  rcases h with ⟨h1, h2, h3, h4⟩ | ⟨hd, row, n, h1, h2, h3, h4, h5, h6⟩
  · intro j hj; rw [h4] at hj; rw [h3]; exact hj
  · intro j hj
    rw [h6] at hj
    rw [h5]
    rcases hj with h | h
    · exact .inl h
    · exact .inr (.inr h)

/-- What lies in memory once the two windows are made. -/
structure Two (w w4 : World) (b og m K p1 r1 p2 r2 : Nat) (f : Nat → Int) (F G : Nat → Prop) (σ : WS) : Prop where
  set : Sett w4 b m f F G
  lo : ∀ j, G j → w.heap.size ≤ j
  olds : ∀ i, i < m → w4.cell? ⟨og, i, none⟩ = some (.int .u64 (f i))
  log : og < w4.heap.size
  win1 : Win w4 p1 r1 K σ
  win2 : Win w4 p2 r2 K σ
  far : ∀ j, F j → j < r1
  fog : og < r1
  o1 : r1 < p1
  o2 : p1 < r2
  o3 : r2 < p2
  o4 : p2 < w4.heap.size
  o5 : w.heap.size ≤ r1
  below : Below w.heap.size w w4

theorem two_made {w w1 w2 w3 : World} {b og m K : Nat} {f : Nat → Int} {F G : Nat → Prop} {h cf : Int} {o1 o2 : Obj} (hset : Sett w1 b m f F G) (hG : ∀ j, G j → w.heap.size ≤ j) (hog : ∀ i, i < m → w1.cell? ⟨og, i, none⟩ = some (.int .u64 (f i))) (log : og < w1.heap.size) (hb1 : Below w.heap.size w w1)
    (hown : w2.ownsRow w1.heap.size 46 3 (.slice (some ⟨w1.heap.size, 0, none⟩) K K) K (madeCells #[Value.int .u32 0, .int .u32 0, .int .u32 0] (K * 3)).toList) (hgrow : w1.grownBy w2 none)
    (e1 : o1 = .cells #[.int .u64 0, .int .i64 0, .pointer none, .int .i64 0, .slice (some ⟨w1.heap.size, 0, none⟩) K K, .int .i64 h, .int .i64 0, .int .i64 0, .int .i64 0, .int .i64 cf] 40)
    (hown3 : w3.ownsRow w1.heap.size 46 3 (.slice (some ⟨w2.heap.size + 1, 0, none⟩) K K) K (madeCells #[Value.int .u32 0, .int .u32 0, .int .u32 0] (K * 3)).toList) (hgrow3 : (w2.alloc o1).grownBy w3 none)
    (e2 : o2 = .cells #[.int .u64 0, .int .i64 0, .pointer none, .int .i64 0, .slice (some ⟨w2.heap.size + 1, 0, none⟩) K K, .int .i64 h, .int .i64 0, .int .i64 0, .int .i64 0, .int .i64 cf] 40)
    (hK : 1 ≤ K ∧ K ≤ 8) (hh : 0 ≤ h ∧ h ≤ 65535) :
    Two w (w3.alloc o2) b og m K w2.heap.size w1.heap.size w3.heap.size (w2.heap.size + 1) f F G ⟨h, 0, 0, 0, cf, fun _ => 0⟩ := by
  subst e1
  subst e2
  have l2 : w1.heap.size < w2.heap.size := (hown.lt _ rfl).2
  have l3 : w2.heap.size + 1 < w3.heap.size := (hown3.lt _ rfl).2
  have keep : ∀ j, j < w1.heap.size → (w3.alloc (.cells #[.int .u64 0, .int .i64 0, .pointer none, .int .i64 0, .slice (some ⟨w2.heap.size + 1, 0, none⟩) K K, .int .i64 h, .int .i64 0, .int .i64 0, .int .i64 0, .int .i64 cf] 40)).heap[j]? = w1.heap[j]? := by
    intro j hj
    rw [Below.heap_alloc _ _ _ (by omega), hgrow3.block j (by simp; omega) (by simp), Below.heap_alloc _ _ _ (by omega), hgrow.block j hj (by simp)]
  have keep2 : ∀ j, j ≤ w2.heap.size → (w3.alloc (.cells #[.int .u64 0, .int .i64 0, .pointer none, .int .i64 0, .slice (some ⟨w2.heap.size + 1, 0, none⟩) K K, .int .i64 h, .int .i64 0, .int .i64 0, .int .i64 0, .int .i64 cf] 40)).heap[j]? =
      (w2.alloc (.cells #[.int .u64 0, .int .i64 0, .pointer none, .int .i64 0, .slice (some ⟨w1.heap.size, 0, none⟩) K K, .int .i64 h, .int .i64 0, .int .i64 0, .int .i64 0, .int .i64 cf] 40)).heap[j]? := by
    intro j hj
    rw [Below.heap_alloc _ _ _ (by omega), hgrow3.block j (by simp; omega) (by simp)]
  refine ⟨hset.far (fun j hj => keep j (hset.lt j hj)), hG, fun i hi => (World.cell?_of_block (by exact keep og log)).trans (hog i hi), by simp; omega, (Win_new w2 _ K _ h cf hown hK hh).far (keep2 _ (Nat.le_refl _)) (keep2 _ (by omega)), Win_new w3 _ K _ h cf hown3 hK hh, hset.lt, log, l2, by omega, l3, by simp, hb1.size, ?_⟩
  exact (((hb1.grown hgrow hb1.size (by simp)).alloc (by have := hb1.size; omega) _).grown hgrow3 (by have := hb1.size; simp; omega) (by simp)).alloc (by have := hb1.size; omega) _

set_option maxRecDepth 100000 in
set_option maxHeartbeats 1000000 in
theorem into_walk (k : Nat) (hk8 : k ≤ 255) (a1 : Option Addr) (len1 cap1 : Nat) (z1 : List Int) (a2 : Option Addr) (len2 cap2 : Nat) (z2 : List Int) (y : Int) (ks : Nat) (hks : ks ≤ 255) (hu : Nat) (hhu : hu ≤ 65535) (cf : Int) (w : World)
    (i1 : InRow w a1 len1 cap1 z1) (i2 : InRow w a2 len2 cap2 z2) :
    Calls Yba.prog 4 #[.int .u8 k, .slice a1 len1 cap1, .slice a2 len2 cap2, .int .u64 y, .int .u8 ks, .int .u16 hu, .int .i64 cf] w fun e w' => e = .returned (.bool true) ∧ Below w.heap.size w w' := by
  obtain ⟨i0, hi, hz0, hz1, hz2⟩ := info_parts Yba.info46
  go_enter Yba.func4, Yba.ntmps4
  go_wp2_with fail
  refine (build_any k hk8 a1 len1 cap1 z1 a2 len2 cap2 z2 w i1 i2).mono ?_
  rintro e w1 ⟨b, og, m, F, G, rfl, hset, hG, hog, log, hm1, hm9, hb1⟩
  have HB := hide (And.intro hset (And.intro hG (And.intro hog hb1)))
  clear hset hG hog hb1
  go_wp2_with (at_make; refine wpList_make_full _ rfl (.tmp 43) (.tmp 43) 32 rfl w1.heap.size 46 i0 (.agg #[.int .u32 0, .int .u32 0, .int .u32 0]) 3 Yba.underlying32 hi hz0 hz1 .i64 .i64 _ _ (1 + ks % 8) rfl rfl (by omega) (by omega) (by rw [hz2]; omega) (by unfold maxLen; omega) (Nat.le_refl _) ?_)
  intro w2 hown hgrow
  have HO := hide (And.intro hown hgrow)
  clear hown hgrow
  go_wp2_with (at_make; refine wpList_make_full _ rfl (.tmp 49) (.tmp 49) 32 rfl w1.heap.size 46 i0 (.agg #[.int .u32 0, .int .u32 0, .int .u32 0]) 3 Yba.underlying32 hi hz0 hz1 .i64 .i64 _ _ (1 + ks % 8) rfl rfl (by omega) (by omega) (by rw [hz2]; omega) (by unfold maxLen; omega) ?hb ?_)
  case hb => have := HO.out.2.size; simp; omega
  intro w3 hown3 hgrow3
  have HO3 := hide (And.intro hown3 hgrow3)
  clear hown3 hgrow3
  go_wp2
  have htwo := two_made (h := (hu : Int) % 4096) (cf := cf) HB.out.1 HB.out.2.1 HB.out.2.2.1 log HB.out.2.2.2 HO.out.1 HO.out.2 rfl HO3.out.1 HO3.out.2 rfl (by omega) (by omega)
  generalize hK : 1 + ks % 8 = K at *
  have hK1 : 1 ≤ K ∧ K ≤ 8 := by omega
  have hKI : (1 : Int) + (ks : Int) % 8 = (K : Int) := by omega
  rw [hKI]
  clear HB HO HO3 hK hKI
  generalize w3.alloc _ = w4 at htwo ⊢
  generalize w2.heap.size + 1 = r2 at htwo ⊢
  generalize w2.heap.size = p1 at htwo ⊢
  generalize w3.heap.size = p2 at htwo ⊢
  clear hi hz0 hz1 hz2
  obtain ⟨σ0, htwo⟩ : ∃ σ0, Two w w4 b og m K p1 w1.heap.size p2 r2 (fun i => wd (el z1 len1 i) (el z2 len2 i)) F G σ0 := ⟨_, htwo⟩
  generalize w1.heap.size = r1 at htwo ⊢
  have hbd : ∀ i, 0 ≤ el z1 len1 i ∧ el z1 len1 i ≤ 65535 ∧ 0 ≤ el z2 len2 i ∧ el z2 len2 i ≤ 65535 := by
    intro i
    obtain ⟨b1, b2⟩ := el_bound i1.2.2.1 (by have := i1.1; have := i1.2.1; omega) (zs := z1) (len := len1) i
    obtain ⟨c1, c2⟩ := el_bound i2.2.2.1 (by have := i2.1; have := i2.2.1; omega) (zs := z2) (len := len2) i
    exact ⟨b1, b2, c1, c2⟩
  clear i1 i2
  generalize el z1 len1 = B at *
  generalize el z2 len2 = C at *
  have HBD := hide hbd
  clear hbd
  go_loopg [22] m (fun g s22 wr => ∃ q, q ≤ m ∧ g = m - q ∧ s22 = .int .i64 (q : Nat) ∧ Win wr p2 r2 K (σ0.all K B C q) ∧ Tch p2 r2 w4 wr)
  case atStart => exact ⟨0, by omega, by omega, rfl, htwo.win2, Tch.refl _ _ _⟩
  case round =>
    obtain ⟨q, hq, hg, rfl, hwin, htc⟩ := hrel
    have HG := hide hg
    clear hg
    by_cases hlt : q < m
    · have hlt' : (q : Int) < (m : Int) := by omega
      obtain ⟨h0, h1, h2, h3⟩ := HBD.out q
      have co : wr.cell? ⟨og, q, none⟩ = some (.int .u64 (wd (B q) (C q))) := (World.cell?_of_block (by exact htc.block og htwo.log (by have := htwo.fog; have := htwo.o1; have := htwo.o2; have := htwo.o3; omega) (by have := htwo.fog; have := htwo.o1; have := htwo.o2; omega))).trans (htwo.olds q hlt)
      have e1 := and_word (B q) (C q) h0 h1 h2 h3
      have e2 := div_word (B q) (C q) h2 h3
      obtain ⟨d1, d2⟩ := wd_bound (B q) (C q) h0 h1 h2 h3
      by_cases hp : 0 < C q
      · go_wp2_with fail
        refine (add_any p2 r2 K (B q) (C q) _ wr hwin h0 h1 h2 h3).mono ?_
        rintro e w5 ⟨rfl, hw5, ht5⟩
        clear e1 e2 co d1 d2
        go_wp2
        go_roundg (m - (q + 1))
        case measure => have := HG.out; omega
        case rel => exact ⟨q + 1, by omega, rfl, by go_num, by show Win _ _ _ _ (WS.one K (B q) (C q) (σ0.all K B C q)); unfold WS.one; rw [if_pos (by omega)]; exact hw5, htc.trans ht5⟩
      · go_wp2
        go_roundg (m - (q + 1))
        case measure => have := HG.out; omega
        case rel => exact ⟨q + 1, by omega, rfl, by go_num, by show Win _ _ _ _ (WS.one K (B q) (C q) (σ0.all K B C q)); unfold WS.one; rw [if_neg (by omega)]; exact hwin, htc⟩
    · have hlt' : ¬ (q : Int) < (m : Int) := by omega
      have hqe : q = m := by omega
      have HQ := hide hqe
      clear hqe
      go_wp2_with fail
      have o1 := htwo.o1
      have o2 := htwo.o2
      have o3 := htwo.o3
      have o4 := htwo.o4
      have hfar := htwo.far
      have hset : Sett wr b m (fun i => wd (B i) (C i)) F G := htwo.set.far (fun j hj => by have := hfar j hj; exact htc.block j (by omega) (by omega) (by omega))
      have hw1 : Win wr p1 r1 K σ0 := htwo.win1.far (htc.block p1 (by omega) (by omega) (by omega)) (htc.block r1 (by omega) (by omega) (by omega))
      refine (drain_any b m p1 r1 K B C y σ0 wr F G hset HBD.out hw1 (fun e => by have := hfar _ e; omega) (fun e => by have := hfar _ e; omega)).mono ?_
      rintro e w6 ⟨rfl, hset6, hw6, hk6⟩
      have hsub := hset.sub
      have hs6 := htc.size
      have hv6 : Win w6 p2 r2 K (σ0.all K B C m) := by
        rw [HQ.out] at hwin
        refine hwin.far (hk6.block p2 (by omega) ?_) (hk6.block r2 (by omega) ?_)
        · rintro (e | e | e)
          · have := hfar _ (hsub _ e); omega
          · omega
          · omega
        · rintro (e | e | e)
          · have := hfar _ (hsub _ e); omega
          · omega
          · omega
      have hbel : Below w.heap.size w w6 := by
        have h5 := htwo.o5
        refine (htwo.below.trans (htc.below (by omega) (by omega) (by omega))).trans (hk6.below ?_ (by omega))
        rintro j (e | e | e)
        · exact htwo.lo j e
        · omega
        · omega
      clear hset hw1 hk6 hwin htc htwo hs6
      generalize σ0.all K B C m = σ at hw6 hv6
      go_wp2_with fail
      refine (held_any b m y w6 F G hset6).mono ?_
      rintro e w7 ⟨rfl, rfl⟩
      clear hset6
      have a4 := hw6.c4
      have a5 := hw6.c5
      have a6 := hw6.c6
      have a7 := hw6.c7
      have a8 := hw6.c8
      have a9 := hw6.c9
      have b4 := hv6.c4
      have b5 := hv6.c5
      have b6 := hv6.c6
      have b7 := hv6.c7
      have b8 := hv6.c8
      have b9 := hv6.c9
      go_wp2
      clear a4 a5 a6 a7 a8 a9 b4 b5 b6 b7 b8 b9
      go_loopg [25] K (fun g s25 wx => ∃ q, q ≤ K ∧ g = K - q ∧ s25 = .int .i64 (q : Nat) ∧ Win wx p1 r1 K σ ∧ Win wx p2 r2 K σ ∧ Below w.heap.size w wx)
      case atStart => exact ⟨0, by omega, by omega, rfl, hw6, hv6, hbel⟩
      case round =>
        clear hw6 hv6 hbel
        obtain ⟨i, hi, hgi, rfl, hx1, hx2, hbx⟩ := hrel
        have HGI := hide hgi
        clear hgi
        by_cases hik : i < K
        · have hik' : (i : Int) < (K : Int) := by omega
          have a4 := hx1.c4
          have b4 := hx2.c4
          have c0 := hx1.cb (i * 3) (by omega)
          have c1 := hx1.cb (i * 3 + 1) (by omega)
          have c2 := hx1.cb (i * 3 + 2) (by omega)
          have d0 := hx2.cb (i * 3) (by omega)
          have d1 := hx2.cb (i * 3 + 1) (by omega)
          have d2 := hx2.cb (i * 3 + 2) (by omega)
          go_wp2
          go_quiet (fail)
          go_wp2
          go_roundg (K - (i + 1))
          case measure => have := HGI.out; omega
          case rel => exact ⟨i + 1, by omega, rfl, by go_num, hx1.drewN _, hx2.drewN _, below_drewN hbx _⟩
        · have hik' : ¬ (i : Int) < (K : Int) := by omega
          go_wp2
          go_ret
          exact ⟨rfl, hbx⟩
end Go.Proofs.Ybulkenw
