/- The walk of (*Store).merge (10). -/
import Derived.Test.YbulkemgRuns
import Derived.Deep.CutBlock
import Derived.Deep.RegionLaw
namespace Go.Proofs.Ybulkemg
open Go Go.RowKit

section
variable {w w' : World} {B : Nat} {e : TypeId} {size : Nat} {v : Value} {n : Nat} {xs : List Value}
/-- A row of the call's own, kept where its type's blocks are. -/
theorem own_keep (h : w.ownsRow B e size v n xs) {B' : Nat} {L : List TypeId} (hk : KX B' L w w') (he : e ∉ L) : w'.ownsRow B e size v n xs := by
  refine ⟨h.1, ?_⟩
  rcases h.2 with h0 | ⟨g, cap, cur, rfl, hb, hg, rest⟩
  · exact .inl h0
  · have hb' : Blk w g e cur.toList := by unfold Blk; simpa using hg
    exact .inr ⟨g, cap, cur, rfl, hb, by have := hk.blk hb' he; unfold Blk at this; simpa using this, rest⟩
/-- All of it struck. -/
theorem own_cut {g cap : Nat} (h : w.ownsRow B e size (.slice (some ⟨g, 0, none⟩) n cap) n xs) : w.ownsRow B e size (.slice (some ⟨g, 0, none⟩) 0 cap) 0 [] := by
  refine ⟨by simp, ?_⟩
  rcases h.2 with ⟨h0, _⟩ | ⟨g', cap', cur, h1, hb, hg, h3, h4, h5, _⟩
  · cases h0
  · cases h1
    exact .inr ⟨g, cap, cur, rfl, hb, hg, Nat.zero_le _, h4, h5, by simp⟩
end

/-- The first i heads, as cells. -/
def cellsH (R : Rs) (i : Nat) : List Value := (List.range i).flatMap fun r => [.int .i64 (R.A r (R.F r)), .int .i64 r, .int .i64 (R.F r)]
theorem cellsH_succ (R : Rs) (i : Nat) : cellsH R (i + 1) = cellsH R i ++ [.int .i64 (R.A i (R.F i)), .int .i64 i, .int .i64 (R.F i)] := by
  simp [cellsH, List.range_succ]
/-- The store's cells. -/
def sto (a0 a1 ru io he a5 a6 a7 a8 : Value) : List Value := [a0, a1, ru, io, he, a5, a6, a7, a8]

theorem cellsH_length (R : Rs) : ∀ m, (cellsH R m).length = m * 3
  | 0 => rfl
  | m + 1 => by rw [cellsH_succ, List.length_append, cellsH_length R m]; simp; omega
theorem cellsH_at (R : Rs) : ∀ m j, j < m → (cellsH R m)[j * 3]? = some (.int .i64 (R.A j (R.F j))) ∧ (cellsH R m)[j * 3 + 1]? = some (.int .i64 j) ∧ (cellsH R m)[j * 3 + 2]? = some (.int .i64 (R.F j))
  | 0, j, hj => by omega
  | m + 1, j, hj => by
    have hl := cellsH_length R m
    rw [cellsH_succ]
    by_cases e : j < m
    · obtain ⟨h0, h1, h2⟩ := cellsH_at R m j e
      refine ⟨?_, ?_, ?_⟩
      all_goals
        rw [List.getElem?_append_left (by omega)]
        assumption
    · obtain rfl : j = m := by omega
      refine ⟨?_, ?_, ?_⟩
      · rw [List.getElem?_append_right (by omega), hl, Nat.sub_self]; rfl
      · rw [List.getElem?_append_right (by omega), hl, show j * 3 + 1 - j * 3 = 1 by omega]; rfl
      · rw [List.getElem?_append_right (by omega), hl, show j * 3 + 2 - j * 3 = 2 by omega]; rfl

/-- The heads as they are first laid. -/
def first (R : Rs) : Nat → T3 := fun j => (R.A j (R.F j), (j : Int), (R.F j : Int))
theorem own_heads {R : Rs} {w : World} {B : Nat} {v : Value} {m : Nat} (h : w.ownsRow B 68 3 v m (cellsH R m)) (hm : 0 < m) : ∃ hb cap, v = .slice (some ⟨hb, 0, none⟩) m cap ∧ B ≤ hb ∧ m ≤ cap ∧ Hd w hb m (first R) := by
  rcases h.2 with ⟨_, h0⟩ | ⟨g, cap, cur, rfl, hb, hg, h1, h2, h3, h4⟩
  · omega
  · refine ⟨g, cap, rfl, hb, h1, cur.toList, by unfold Blk; simpa using hg, fun j hj => ?_⟩
    obtain ⟨q0, q1, q2⟩ := cellsH_at R m j hj
    rw [← h4] at q0 q1 q2
    rw [List.getElem?_take_of_lt (by omega)] at q0 q1 q2
    exact ⟨q0, q1, q2⟩
theorem first_MI {R : Rs} (ok : R.Ok) : MI R R.F R.m (first R) where
  heads := fun j hj => ⟨j, hj, ok.fn j hj, rfl⟩
  all := fun r hr _ => ⟨r, hr, rfl⟩
  inj := fun j k _ _ h => by simp only [first] at h; omega

/-- The lines that are still to come. -/
def rest : Nat → (Nat → Nat) → Nat
  | 0, _ => 0
  | k + 1, d => rest k d + d k
theorem rest_congr : ∀ (m : Nat) {d d' : Nat → Nat}, (∀ r, r < m → d r = d' r) → rest m d = rest m d'
  | 0, _, _, _ => rfl
  | m + 1, d, d', h => by
    have h1 := rest_congr m (d := d) (d' := d') (fun r hr => h r (by omega))
    have h2 := h m (by omega)
    simp only [rest]
    omega
theorem rest_less : ∀ (m : Nat) {d d' : Nat → Nat} (r : Nat), r < m → d' r < d r → (∀ s, s ≠ r → d' s = d s) → rest m d' < rest m d
  | 0, _, _, r, h, _, _ => by omega
  | m + 1, d, d', r, h, h1, h2 => by
    simp only [rest]
    by_cases e : r = m
    · subst e
      have := rest_congr r (d := d') (d' := d) (fun s hs => h2 s (by omega))
      omega
    · have h3 := rest_less m (d := d) (d' := d') r (by omega) h1 h2
      have h4 := h2 m (Ne.symm e)
      omega
theorem rest_le : ∀ (m : Nat) {d : Nat → Nat}, (∀ r, r < m → d r ≤ 1024) → rest m d ≤ m * 1024
  | 0, _, _ => by simp [rest]
  | m + 1, d, h => by
    have h1 := rest_le m (d := d) (fun r hr => h r (by omega))
    have h2 := h m (by omega)
    simp only [rest]
    omega

/-- What lies in memory while merge goes round. -/
structure Mem (w0 w : World) (R : Rs) (B sb rb hb : Nat) (C G : Nat → Nat) (T : Nat → Int) (S : Value → List Value) (n : Nat) (f : Nat → T3) (io : Value) (ps : List Pt) : Prop where
  hd : Hd w hb n f
  rn : Rn w R rb C G T
  st : Blk w sb 59 (S io)
  own : w.ownsRow B 61 3 io ps.length (cellsP ps)
  kx : KX B [59, 61, 68] w0 w
theorem Mem.drewN {w0 w : World} {R : Rs} {B sb rb hb : Nat} {C G : Nat → Nat} {T : Nat → Int} {S : Value → List Value} {n : Nat} {f : Nat → T3} {io : Value} {ps : List Pt} (h : Mem w0 w R B sb rb hb C G T S n f io ps) (k : Nat) : Mem w0 (w.drewN k) R B sb rb hb C G T S n f io ps :=
  ⟨h.hd, ⟨h.rn.runs, h.rn.cls, h.rn.acc⟩, h.st, h.own, h.kx.drewN k⟩
/-- A step that turns heads alone. -/
theorem Mem.heads {w0 w w' : World} {R : Rs} {B sb rb hb : Nat} {C G : Nat → Nat} {T : Nat → Int} {S : Value → List Value} {n n' : Nat} {f f' : Nat → T3} {io : Value} {ps : List Pt} (h : Mem w0 w R B sb rb hb C G T S n f io ps) (hk : KX B [68] w w') (hd : Hd w' hb n' f') : Mem w0 w' R B sb rb hb C G T S n' f' io ps :=
  ⟨hd, h.rn.keep hk (by simp) (by simp) (by simp), hk.blk h.st (by simp), own_keep h.own hk (by simp), h.kx.trans (hk.mono (Nat.le_refl _) (by simp))⟩

/-- What 'order' and 'merge' leave behind. -/
def Ordered (R : Rs) (B sb : Nat) (S : Value → Value → List Value) (w w' : World) : Prop :=
  ∃ ps io he, Told R ps ∧ Blk w' sb 59 (S io he) ∧ w'.ownsRow B 61 3 io ps.length (cellsP ps) ∧ KX B [59, 61, 68] w w'
theorem Hd.top {w : World} {hb n : Nat} {f : Nat → T3} (h : Hd w hb n f) (hn : 0 < n) : w.cell? ⟨hb, 0, none⟩ = some (.int .i64 (f 0).1) ∧ w.cell? ⟨hb, 1, none⟩ = some (.int .i64 (f 0).2.1) ∧ w.cell? ⟨hb, 2, none⟩ = some (.int .i64 (f 0).2.2) := by
  have := h.at 0 hn
  simpa only [Nat.zero_mul, Nat.zero_add] using this
theorem Hd.put0 {w : World} {hb n : Nat} {f : Nat → T3} (h : Hd w hb n f) (hn : 0 < n) (x : T3) :
    Hd (((w.setCell ⟨hb, 0, none⟩ (.int .i64 x.1)).setCell ⟨hb, 1, none⟩ (.int .i64 x.2.1)).setCell ⟨hb, 2, none⟩ (.int .i64 x.2.2)) hb n (upd f 0 x) := by
  have := h.put 0 hn x
  simpa only [Nat.zero_mul, Nat.zero_add] using this
theorem Hd.move {w : World} {hb n : Nat} {f : Nat → T3} (h : Hd w hb n f) (hn : 0 < n) (x y r : Int) (hr : (f 0).2.1 = r) :
    Hd ((w.setCell ⟨hb, 0, none⟩ (.int .i64 x)).setCell ⟨hb, 2, none⟩ (.int .i64 y)) hb n (upd f 0 (x, r, y)) := by
  obtain ⟨cs, h1, h2⟩ := h
  refine ⟨_, (h1.set _ _).set _ _, fun j hj => ?_⟩
  obtain ⟨a0, a1, a2⟩ := h2 j hj
  obtain ⟨b0, b1, b2⟩ := h2 0 hn
  have l2 := (List.getElem?_eq_some_iff.1 b2).1
  unfold upd
  by_cases e : j = 0
  · subst e
    rw [if_pos rfl]
    simp only [Nat.zero_mul, Nat.zero_add] at *
    refine ⟨?_, ?_, ?_⟩
    · rw [List.getElem?_set_ne (by omega), List.getElem?_set_self (by omega)]
    · rw [List.getElem?_set_ne (by omega), List.getElem?_set_ne (by omega), a1, hr]
    · rw [List.getElem?_set_self (by simpa using l2)]
  · rw [if_neg e]
    refine ⟨?_, ?_, ?_⟩
    all_goals
      rw [List.getElem?_set_ne (by omega), List.getElem?_set_ne (by omega)]
      assumption
theorem Hd.less {w : World} {hb n n' : Nat} {f : Nat → T3} (h : Hd w hb n f) (hn : n' ≤ n) : Hd w hb n' f := let ⟨cs, h1, h2⟩ := h; ⟨cs, h1, fun j hj => h2 j (by omega)⟩

set_option maxRecDepth 100000 in
set_option maxHeartbeats 2000000 in
theorem merge_walk (R : Rs) (ok : R.Ok) (B sb rb : Nat) (C G : Nat → Nat) (T : Nat → Int) (a0 a1 a5 a6 a7 a8 : Value) (rc ib il icap : Nat) (xs : List Value) (w : World) (hm : 0 < R.m) (hB : B ≤ sb) (hr : Rn w R rb C G T)
    (hs : Blk w sb 59 (sto a0 a1 (.slice (some ⟨rb, 0, none⟩) R.m rc) (.slice (some ⟨ib, 0, none⟩) il icap) (.slice none 0 0) a5 a6 a7 a8)) (hio : w.ownsRow B 61 3 (.slice (some ⟨ib, 0, none⟩) il icap) il xs) :
    Calls Yba.prog 10 #[.pointer (some ⟨sb, 0, none⟩)] w fun e w' => e = .returned (.tuple #[]) ∧ Ordered R B sb (fun io he => sto a0 a1 (.slice (some ⟨rb, 0, none⟩) R.m rc) io he a5 a6 a7 a8) w w' := by
  obtain ⟨i68, hi68, z68, s68, b68⟩ := info_parts Yba.info68
  obtain ⟨i61, hi61, z61, s61, b61⟩ := info_parts Yba.info61
  have hBw : B ≤ w.heap.size := Nat.le_of_lt (Nat.lt_of_le_of_lt hB hs.lt)
  have c2 : w.cell? ⟨sb, 2, none⟩ = some (.slice (some ⟨rb, 0, none⟩) R.m rc) := by rw [hs.cell]; rfl
  have c3 : w.cell? ⟨sb, 3, none⟩ = some (.slice (some ⟨ib, 0, none⟩) il icap) := by rw [hs.cell]; rfl
  have c4 : w.cell? ⟨sb, 4, none⟩ = some (.slice none 0 0) := by rw [hs.cell]; rfl
  have z3 := hs.free 3
  have hk1 : KX B [59] w (w.setCell ⟨sb, 3, none⟩ (.slice (some ⟨ib, 0, none⟩) 0 icap)) := (KX.refl B [59] w).set hs (by simp) hB _ _
  have hs1 : Blk (w.setCell ⟨sb, 3, none⟩ (.slice (some ⟨ib, 0, none⟩) 0 icap)) sb 59 (sto a0 a1 (.slice (some ⟨rb, 0, none⟩) R.m rc) (.slice (some ⟨ib, 0, none⟩) 0 icap) (.slice none 0 0) a5 a6 a7 a8) := hs.set 3 (.slice (some ⟨ib, 0, none⟩) 0 icap)
  have hio1 := own_keep (own_cut hio) hk1 (by simp)
  have hr1 := hr.keep hk1 (by simp) (by simp) (by simp)
  have hkk : KX B [59, 61, 68] w (w.setCell ⟨sb, 3, none⟩ (.slice (some ⟨ib, 0, none⟩) 0 icap)) := hk1.mono (Nat.le_refl _) (by simp)
  have c4' : (w.setCell ⟨sb, 3, none⟩ (.slice (some ⟨ib, 0, none⟩) 0 icap)).cell? ⟨sb, 4, none⟩ = some (.slice none 0 0) := by rw [hs1.cell]; rfl
  have c2' : (w.setCell ⟨sb, 3, none⟩ (.slice (some ⟨ib, 0, none⟩) 0 icap)).cell? ⟨sb, 2, none⟩ = some (.slice (some ⟨rb, 0, none⟩) R.m rc) := by rw [hs1.cell]; rfl
  have hicap : 0 ≤ icap := Nat.zero_le _
  go_enter Yba.func10, Yba.ntmps10
  go_upto_region 1 with fail
  generalize w.setCell ⟨sb, 3, none⟩ (.slice (some ⟨ib, 0, none⟩) 0 icap) = w1 at hk1 hs1 hio1 hr1 hkk c4' c2' ⊢
  clear hk1 c2 c3 c4 z3 hio hr hs hicap
  go_wp2_with fail
  clear c4' c2'
  have hm4 := ok.m4
  go_loopg [2, 29] R.m (fun g s2 s29 wr => ∃ i, i ≤ R.m ∧ g = R.m - i ∧ s29 = .int .i64 (i : Nat) ∧ wr.ownsRow B 68 3 s2 i (cellsH R i) ∧ Rn wr R rb C G T ∧ Blk wr sb 59 (sto a0 a1 (.slice (some ⟨rb, 0, none⟩) R.m rc) (.slice (some ⟨ib, 0, none⟩) 0 icap) (.slice none 0 0) a5 a6 a7 a8) ∧ wr.ownsRow B 61 3 (.slice (some ⟨ib, 0, none⟩) 0 icap) 0 [] ∧ KX B [59, 61, 68] w wr)
  case atStart => exact ⟨0, Nat.zero_le _, by omega, rfl, World.ownsRow_nil _ _ _ _, hr1, hs1, hio1, hkk⟩
  case round =>
    clear hs1 hio1 hr1 hkk
    obtain ⟨i, hi, hg, rfl, hown, hr, hs, hio, hk⟩ := hrel
    have HG := hide hg
    clear hg
    by_cases hlt : i < R.m
    · have hlt' : (i : Int) < (R.m : Int) := by omega
      obtain ⟨r0, r1, r2⟩ := hr.run hlt
      go_upto_region 5 with fail
      clear r0 r1 r2
      have hwB : B ≤ wr.heap.size := Nat.le_trans hBw hk.bel.size
      have hk4 : KX B [59, 61, 68] w (wr.alloc (.cells #[.int .i64 (T i), .pointer (some ⟨C i, 0, none⟩), .int .i64 (R.F i)] 63)) := hk.alloc hwB _
      have hka : KX B [] wr (wr.alloc (.cells #[.int .i64 (T i), .pointer (some ⟨C i, 0, none⟩), .int .i64 (R.F i)] 63)) := (KX.refl B [] wr).alloc hwB _
      have hx4 := Blk.new wr [.int .i64 (T i), .pointer (some ⟨C i, 0, none⟩), .int .i64 (R.F i)] 63
      have hr4 := hr.keep hka (by simp) (by simp) (by simp)
      have hs4 := hka.blk hs (by simp)
      have hio4 := own_keep hio hka (by simp)
      have hown4 := own_keep hown hka (by simp)
      clear hk hka hr hs hio hown hwB
      generalize wr.alloc (.cells #[.int .i64 (T i), .pointer (some ⟨C i, 0, none⟩), .int .i64 (R.F i)] 63) = w4 at *
      generalize wr.heap.size = xb at *
      have x1 : w4.cell? ⟨xb, 1, none⟩ = some (.pointer (some ⟨C i, 0, none⟩)) := by rw [hx4.cell]; rfl
      have x2 : w4.cell? ⟨xb, 2, none⟩ = some (.int .i64 (R.F i)) := by rw [hx4.cell]; rfl
      obtain ⟨ccap, x3, hbc⟩ : ∃ ccap, w4.cell? ⟨C i, 4, none⟩ = some (.slice (some ⟨G i, 0, none⟩) (R.N i) ccap) ∧ ∃ cs, Blk w4 (C i) 48 cs ∧ cs[4]? = some (.slice (some ⟨G i, 0, none⟩) (R.N i) ccap) := by
        obtain ⟨cs, ccap, q1, q2⟩ := hr4.cls i hlt
        exact ⟨ccap, by rw [q1.cell]; exact q2, cs, q1, q2⟩
      have hfn := ok.fn i hlt
      have hfl := ok.len i hlt
      have x4 := hr4.line hlt hfn
      have hwB : B ≤ w4.heap.size := Nat.le_of_lt (Nat.lt_of_le_of_lt hB hs4.lt)
      go_region_held3 (fun w' => w'.cell? ⟨xb, 1, none⟩ = some (.pointer (some ⟨C i, 0, none⟩)) ∧ w'.cell? ⟨xb, 2, none⟩ = some (.int .i64 (R.F i)) ∧ w'.cell? ⟨C i, 4, none⟩ = some (.slice (some ⟨G i, 0, none⟩) (R.N i) ccap) ∧ w'.cell? ⟨G i, R.F i * 2, none⟩ = some (.int .i64 (R.A i (R.F i))))
        (go_keep)
        ((refine step_append_lies _ (by rfl) _ _ _ (by rfl) B 68 i68 (.agg #[.int .i64 0, .int .i64 0, .int .i64 0]) 3 24 Yba.underlying55 hi68 z68 s68 b68 rfl (by decide) _ i (cellsH R i) (by rfl) (hown4.drew.alloc _) ⟨w4.heap.size, 0, none⟩ 1 1 [.int .i64 (R.A i (R.F i)), .int .i64 i, .int .i64 (R.F i)] (by rfl) (by rfl) (World.news_of_block (cs := #[.int .i64 (R.A i (R.F i)), .int .i64 i, .int .i64 (R.F i)]) (t := 68) (fr := (0, 0)) (heap_alloc_new w4 _)) (by simp [Value.oneCell']) (by omega) (by unfold maxLen; omega) (by omega) (by simp; omega) (w4.heap.size + 1) (by simp) ?_; intro g cap w5 hown5 hgrow hat hgl; have hk5 : KX B [68] w4 w5 := ((KX.refl B [68] w4).drew.alloc hwB _).grown (hown4.drew.alloc _) (by simp) (by simp; omega) hgrow; have y1 : w5.cell? ⟨xb, 1, none⟩ = some (.pointer (some ⟨C i, 0, none⟩)) := (by rw [(hk5.blk hx4 (by simp)).cell]; rfl); have y2 : w5.cell? ⟨xb, 2, none⟩ = some (.int .i64 (R.F i)) := (by rw [(hk5.blk hx4 (by simp)).cell]; rfl); have hr5 := hr4.keep hk5 (by simp) (by simp) (by simp); have y3 : w5.cell? ⟨C i, 4, none⟩ = some (.slice (some ⟨G i, 0, none⟩) (R.N i) ccap) := (by obtain ⟨cs, q1, q2⟩ := hbc; rw [(hk5.blk q1 (by simp)).cell]; exact q2); have y4 := hr5.line hlt hfn))
      clear x1 x2 x3 x4 y1 y2 y3 y4 hbc
      go_wp2
      go_roundg (R.m - (i + 1))
      case measure => have := HG.out; omega
      case rel =>
        refine ⟨i + 1, by omega, rfl, by go_num, ?_, hr5, hk5.blk hs4 (by simp), own_keep hio4 hk5 (by simp), hk4.trans (hk5.mono (Nat.le_refl _) (by simp))⟩
        rw [cellsH_succ]
        exact hown5
    · have hlt' : ¬ (i : Int) < (R.m : Int) := by omega
      obtain rfl : i = R.m := by omega
      obtain ⟨hb, hcap, rfl, hBb, hmc, hhd⟩ := own_heads hown hm
      obtain ⟨S, hS⟩ : ∃ S : Value → List Value, S = fun io => sto a0 a1 (.slice (some ⟨rb, 0, none⟩) R.m rc) io (.slice none 0 0) a5 a6 a7 a8 := ⟨_, rfl⟩
      have hmem : Mem w wr R B sb rb hb C G T S R.m (first R) (.slice (some ⟨ib, 0, none⟩) 0 icap) [] := ⟨hhd, hr, by rw [hS]; exact hs, hio, hk⟩
      have hmi := first_MI ok
      have HI := hide hmi
      clear hmi hhd hr hs hio hk hown HG hlt hlt'
      obtain ⟨q, hq⟩ : ∃ q : Nat, R.m / 2 = q := ⟨_, rfl⟩
      have hp0 : Hp q R.m (first R) := by intro p j h1 h2 h3; omega
      go_wp2_with fail
      go_loopg [5] q (fun g s5 wr => ∃ f, s5 = .int .i64 ((g : Int) - 1) ∧ g ≤ q ∧ Hp g R.m f ∧ Hid (MI R R.F R.m f) ∧ Mem w wr R B sb rb hb C G T S R.m f (.slice (some ⟨ib, 0, none⟩) 0 icap) [])
      case atStart => exact ⟨first R, by rw [← hq]; simp, Nat.le_refl _, hp0, HI, hmem⟩
      case round =>
        clear hmem HI hp0
        obtain ⟨f, rfl, hgq, hp, HI, hmem⟩ := hrel
        rcases Nat.eq_zero_or_pos gk with h0 | h0
        · subst h0
          have hmi := HI.out
          clear HI hq hgq
          have hgn : ¬ (0 : Int) ≤ ((0 : Nat) : Int) - 1 := by omega
          have htot : rest R.m (fun r => R.N r - R.F r) ≤ 4096 := by
            have := rest_le R.m (d := fun r => R.N r - R.F r) (fun r hr => by have := ok.len r hr; omega)
            omega
          have hu0 := Upto.start ok
          go_wp2_with fail
          go_loopg [2] (rest R.m (fun r => R.N r - R.F r)) (fun g s2 wr => ∃ n f c ps io, s2 = .slice (some ⟨hb, 0, none⟩) n hcap ∧ n ≤ R.m ∧ Hid (g = rest R.m (fun r => R.N r - c r)) ∧ Hid (ps.length + g ≤ 4096) ∧ Hid (MI R c n f) ∧ Hid (Hp 0 n f) ∧ Hid (Sep ps n f) ∧ Hid (Upto R c ps) ∧ Mem w wr R B sb rb hb C G T S n f io ps)
          case atStart => exact ⟨R.m, f, R.F, [], _, rfl, Nat.le_refl _, rfl, (by show 0 + _ ≤ _; omega), hmi, hp, (by intro q hq; cases hq), hu0, hmem⟩
          case round =>
            clear hmem hmi hp hu0 htot hgn
            obtain ⟨n, f, c, ps, io, rfl, hnm, HG, HL, HI, HP, HS, HU, hmem⟩ := hrel
            by_cases hn : 0 < n
            · have hn' : (0 : Int) < (n : Int) := by omega
              obtain ⟨r, hr, hcr, hf0⟩ := HI.out.heads 0 hn
              obtain ⟨lo, hlo⟩ : ∃ lo, c r = lo := ⟨_, rfl⟩
              rw [hlo] at hf0 hcr
              have hrm : (r : Int) < (R.m : Int) := by omega
              obtain ⟨ccap, x3⟩ := hmem.rn.cl hr
              obtain ⟨t0, t1, t2⟩ := hmem.hd.top hn
              have q1 := (hmem.rn.run hr).2.1
              have s2 : wr.cell? ⟨sb, 2, none⟩ = some (.slice (some ⟨rb, 0, none⟩) R.m rc) := by rw [hmem.st.cell, hS]; rfl
              rw [hf0] at t0 t1 t2
              have HF0 := hide hf0
              have HLO := hide hlo
              clear hf0 hlo
              go_upto_region 13 with fail
              go_cut [7] (fun s7 wx => s7 = .slice (some ⟨G r, 0, none⟩) (R.N r) ccap ∧ Mem w wx R B sb rb hb C G T S n f io ps)
              case first =>
                go_quiet (fail)
                go_wp2
                go_meet
                case rel => exact ⟨rfl, hmem.drewN _⟩
              case rest =>
                clear hmem t0 t1 t2 q1 s2 x3
                obtain ⟨rfl, hmem⟩ := hcut
                obtain ⟨mm, hmm⟩ : ∃ mm : Nat, (if (n : Int) < 3 then (n : Int) else 3) = (mm : Nat) := ⟨min 3 n, by split <;> omega⟩
                have HMM : Hid (mm ≤ n ∧ mm ≤ 3 ∧ (n ≤ mm ∨ 3 ≤ mm)) := by
                  show _ ∧ _ ∧ _
                  split at hmm <;> omega
                go_wp2_with fail
                go_loopg [8, 9] 2 (fun g s8 s9 wx => ∃ q z, s9 = .int .i64 (q : Nat) ∧ s8 = .int .i64 z ∧ 1 ≤ q ∧ q ≤ 3 ∧ q ≤ n ∧ g = 3 - q ∧ wx = wc ∧ Hid (∀ k, 1 ≤ k → k < q → z ≤ (f k).1) ∧ Hid (z = 9223372036854775807 ∨ ∃ k, 1 ≤ k ∧ k < n ∧ z = (f k).1))
                case atStart => exact ⟨1, 9223372036854775807, rfl, rfl, by omega, by omega, by omega, by omega, rfl, (by intro k h1 h2; omega), .inl rfl⟩
                case round =>
                  obtain ⟨q, z, rfl, rfl, hq1, hq3, hqn, hgk, rfl, HZ1, HZ2⟩ := hrel
                  by_cases hqm : q < mm
                  · have hqm' : (q : Int) < (mm : Int) := by omega
                    have hqn2 : q < n := by have := HMM.out; omega
                    have f0 := (hmem.hd.at q hqn2).1
                    obtain ⟨z', hz'⟩ : ∃ z', (if (f q).1 < z then (f q).1 else z) = z' := ⟨_, rfl⟩
                    have HZ3 := hide hz'
                    go_wp2
                    go_roundg (3 - (q + 1))
                    case measure => have := HMM.out; omega
                    case rel =>
                      have hz := HZ3.out
                      refine ⟨q + 1, z', by go_num, rfl, by omega, by have := HMM.out; omega, by omega, rfl, rfl, ?_, ?_⟩
                      · intro k h1 h2
                        by_cases e : k = q
                        · subst e
                          split at hz <;> omega
                        · have := HZ1.out k h1 (by omega)
                          split at hz <;> omega
                      · by_cases h : (f q).1 < z
                        · rw [if_pos h] at hz
                          exact .inr ⟨q, hq1, hqn2, hz.symm⟩
                        · rw [if_neg h] at hz
                          rw [← hz]
                          exact HZ2.out
                  · have hqm' : ¬ (q : Int) < (mm : Int) := by omega
                    have hz1 : 1 < n → z ≤ (f 1).1 := fun h => HZ1.out 1 (by omega) (by have := HMM.out; omega)
                    have hz2 : 2 < n → z ≤ (f 2).1 := fun h => HZ1.out 2 (by omega) (by have := HMM.out; omega)
                    have HZ := hide (And.intro hz1 hz2)
                    clear hz1 hz2 HZ1
                    have t2 := (hmem.hd.top hn).2.2
                    rw [HF0.out] at t2
                    have hN := ok.len r hr
                    go_upto_block 8 with fail
                    go_cut [10] (fun s10 wx => ∃ hi, s10 = .int .i64 (hi : Nat) ∧ lo < hi ∧ hi ≤ R.N r ∧ wx = wr ∧ Hid (∀ j, lo < j → j < hi → R.A r j < z) ∧ Hid (hi < R.N r → z ≤ R.A r hi))
                    case first =>
                      clear t2 hq1 hq3 hqn hqm hqm' hgk
                      go_wp2_with fail
                      go_loopg [10] (R.N r - (lo + 1)) (fun g s10 wx => ∃ hi, s10 = .int .i64 (hi : Nat) ∧ lo < hi ∧ hi ≤ R.N r ∧ g = R.N r - hi ∧ wx = wr ∧ Hid (∀ j, lo < j → j < hi → R.A r j < z))
                      case atStart => exact ⟨lo + 1, by go_num, by omega, by omega, by omega, rfl, (by intro j h1 h2; omega)⟩
                      case round =>
                        obtain ⟨hi, rfl, hi1, hi2, hgk, rfl, HA⟩ := hrel
                        by_cases h1 : hi < R.N r
                        · have h1' : (hi : Int) < (R.N r : Int) := by omega
                          have hl := hmem.rn.line hr h1
                          by_cases h2 : R.A r hi < z
                          · go_wp2
                            go_roundg (R.N r - (hi + 1))
                            case measure => omega
                            case rel =>
                              refine ⟨hi + 1, by go_num, by omega, by omega, rfl, rfl, ?_⟩
                              intro j h3 h4
                              by_cases e : j = hi
                              · subst e; exact h2
                              · exact HA.out j h3 (by omega)
                          · have h2' : z ≤ R.A r hi := by omega
                            go_wp2
                            go_meet
                            case rel => exact ⟨hi, rfl, hi1, hi2, rfl, HA, fun _ => h2'⟩
                        · have h1' : ¬ (hi : Int) < (R.N r : Int) := by omega
                          go_wp2
                          go_meet
                          case rel => exact ⟨hi, rfl, hi1, hi2, rfl, HA, fun h => by omega⟩
                    case rest =>
                      obtain ⟨hi, rfl, hi1, hi2, rfl, HA, HZ3⟩ := hcut
                      go_upto_region 22 with fail
                      clear t2 hq1 hq3 hqn hqm hqm' hgk
                      go_cut [] (fun wx => ∃ io', Mem w wx R B sb rb hb C G T S n f io' (ps ++ [(r, lo, hi)]))
                      case first =>
                        have t12 := hmem.hd.top hn
                        rw [HF0.out] at t12
                        have t1 : wc.cell? ⟨hb, 1, none⟩ = some (.int .i64 (r : Nat)) := t12.2.1
                        have t2 : wc.cell? ⟨hb, 2, none⟩ = some (.int .i64 (lo : Nat)) := t12.2.2
                        clear t12
                        obtain ⟨hcs, hbk⟩ := hmem.hd.blk
                        have hne : hb ≠ sb := hbk.ne hmem.st (by decide)
                        have hne2 : sb ≠ hb := Ne.symm hne
                        have s3 : wc.cell? ⟨sb, 3, none⟩ = some io := by rw [hmem.st.cell, hS]; rfl
                        have z3 := hmem.st.free 3
                        have hown4 := hmem.own
                        have hwB : B ≤ wc.heap.size := Nat.le_of_lt (Nat.lt_of_le_of_lt hB hmem.st.lt)
                        have hpl : ps.length ≤ 4096 := by have := HL.out; omega
                        have hsl := hmem.st.lt
                        have hhl := hbk.lt
                        have hsp := hide hmem.st
                        have hHM := hide hmem
                        clear hmem HG HL HI HP HS HU HF0 HLO HZ HA HZ2 HZ3 HMM hmm hcr hrm hi1 hi2 hN hnm hm4 hm hmc
                        go_region_law
                          ((refine step_append_lies _ (by rfl) _ _ _ (by rfl) B 61 i61 (.agg #[.int .i64 0, .int .i64 0, .int .i64 0]) 3 24 Yba.underlying54 hi61 z61 s61 b61 rfl (by decide) _ ps.length (cellsP ps) (by rfl) (hown4.drew.alloc _) ⟨wc.heap.size, 0, none⟩ 1 1 [.int .i64 (r : Nat), .int .i64 (lo : Nat), .int .i64 (hi : Nat)] (by rfl) (by rfl) (World.news_of_block (cs := #[.int .i64 (r : Nat), .int .i64 (lo : Nat), .int .i64 (hi : Nat)]) (t := 61) (fr := (0, 0)) (heap_alloc_new wc _)) (by simp [Value.oneCell']) (by omega) (by unfold maxLen; omega) (by omega) (by simp; omega) (wc.heap.size + 1) (by simp) ?_; intro g cap w5 hown5 hgrow hat hgl; have hk5 : KX B [61] wc w5 := ((KX.refl B [61] wc).drew.alloc hwB _).grown (hown4.drew.alloc _) (by simp) (by simp; omega) hgrow; have y1 : w5.cell? ⟨hb, 1, none⟩ = some (.int .i64 (r : Nat)) := (World.cell?_of_block (a := ⟨hb, 1, none⟩) (hk5.keep _ _ _ hbk (by simp))).trans t1; have y2 : w5.cell? ⟨hb, 2, none⟩ = some (.int .i64 (lo : Nat)) := (World.cell?_of_block (a := ⟨hb, 2, none⟩) (hk5.keep _ _ _ hbk (by simp))).trans t2; have y3 : w5.cell? ⟨sb, 3, none⟩ = some io := (World.cell?_of_block (a := ⟨sb, 3, none⟩) (hk5.keep _ _ _ hsp.out (by simp))).trans s3; have y4 : w5.frozen? ⟨sb, 3, none⟩ = false := (World.frozen?_of_block (a := ⟨sb, 3, none⟩) (hk5.keep _ _ _ hsp.out (by simp))).trans z3))
                        all_goals
                          go_wp2
                          go_meet
                          have hmem := hHM.out
                          have hb5 := hk5.blk hmem.st (by simp)
                          have hk6 : KX B [59] w5 (w5.setCell ⟨sb, 3, none⟩ (.slice (some ⟨g, 0, none⟩) (ps.length + 1) cap)) := (KX.refl B [59] w5).set hb5 (by simp) hB _ _
                          have hk7 : KX B [59, 61] wc (w5.setCell ⟨sb, 3, none⟩ (.slice (some ⟨g, 0, none⟩) (ps.length + 1) cap)) := (hk5.mono (Nat.le_refl _) (by simp)).trans (hk6.mono (Nat.le_refl _) (by simp))
                          refine ⟨.slice (some ⟨g, 0, none⟩) (ps.length + 1) cap, hmem.hd.keep (hk7.keep _ _ _ hbk (by simp)), hmem.rn.keep hk7 (by simp) (by simp) (by simp), ?_, ?_, hmem.kx.trans (hk7.mono (Nat.le_refl _) (by simp))⟩
                          · have := hb5.set 3 (.slice (some ⟨g, 0, none⟩) (ps.length + 1) cap)
                            rw [hS] at this ⊢
                            exact this
                          · rw [cellsP_snoc, List.length_append]
                            exact own_keep hown5 hk6 (by simp)
                      case rest =>
                        clear hmem
                        obtain ⟨io', hmem⟩ := hcut
                        obtain ⟨hz1, hz2⟩ := HZ.out
                        have HU2 := hide (part_next ok HU.out HI.out HP.out HS.out hn hr HLO.out HF0.out hz1 hz2 hi1 hi2 HA.out)
                        have hrun : (f 0).2.1 = (r : Int) := by rw [HF0.out]
                        have HM : Hid (rest R.m (fun s => R.N s - updN c r hi s) < rest R.m (fun s => R.N s - c s)) := by
                          have hl := HLO.out
                          refine rest_less R.m r hr ?_ ?_
                          · simp only [updN, if_true]; omega
                          · intro s hs; simp only [updN, if_neg hs]
                        have HL2 : Hid ((ps ++ [(r, lo, hi)]).length + rest R.m (fun s => R.N s - updN c r hi s) ≤ 4096) := by
                          show _ ≤ _
                          have h1 := HL.out
                          have h2 := HM.out
                          have h3 := HG.out
                          rw [List.length_append, List.length_singleton]
                          omega
                        have t0 := (hmem.hd.top hn).1
                        have t2 := (hmem.hd.top hn).2.2
                        have z0 := hmem.hd.free 0
                        have z2 := hmem.hd.free 2
                        obtain ⟨hcs, hbk⟩ := hmem.hd.blk
                        clear hz1 hz2 HA HZ
                        by_cases h1 : hi < R.N r
                        · have h1' : (hi : Int) < (R.N r : Int) := by omega
                          have hl := hmem.rn.line hr h1
                          have hmv := hmem.hd.move hn (R.A r hi) (hi : Int) (r : Int) hrun
                          have hkm : KX B [68] wc ((wc.setCell ⟨hb, 0, none⟩ (.int .i64 (R.A r hi))).setCell ⟨hb, 2, none⟩ (.int .i64 (hi : Nat))) := ((KX.refl B [68] wc).set hbk (by simp) hBb _ _).set (hbk.set _ _) (by simp) hBb _ _
                          have hmem2 := hmem.heads hkm hmv
                          have HI2 := hide (HI.out.move hn hr hrun h1)
                          have HP2 := hide (HP.out.upd0 (Nat.le_refl n) (R.A r hi, (r : Int), (hi : Int)))
                          have hmd := hmem2.hd
                          have u0 : (upd f 0 (R.A r hi, (r : Int), (hi : Int))) 0 = (R.A r hi, (r : Int), (hi : Int)) := by simp [upd]
                          go_wp2_with fail
                          refine (down_walk hb n hcap 0 _ _ (by omega) hn hmd).mono ?_
                          rintro e w2 ⟨rfl, hd2, hk2⟩
                          have hmem3 := hmem2.heads (hk2.mono hBb (by simp)) hd2
                          have HI3 := hide (HI2.out.dn (i := 0) hn)
                          have HP3 := hide (dn_fixes _ hn (by omega) HP2.out)
                          have HS3 := hide (sep_move (ps := ps) (lo := lo) ok HI.out hn hr hrun h1 HZ2.out (HZ3.out h1) HI3.out HP3.out)
                          clear hmem hmem2 hmd hd2 hk2 hkm hmv
                          go_wp2
                          go_roundg (rest R.m (fun s => R.N s - updN c r hi s))
                          case measure => have h2 := HM.out; have h3 := HG.out; omega
                          case rel => exact ⟨n, _, updN c r hi, ps ++ [(r, lo, hi)], io', rfl, hnm, rfl, HL2, HI3, HP3, HS3, HU2, hmem3⟩
                        · have h1' : ¬ (hi : Int) < (R.N r : Int) := by omega
                          obtain ⟨n', rfl⟩ : ∃ n', n = n' + 1 := ⟨n - 1, by omega⟩
                          have hn1 : ((n' + 1 : Nat) : Int) - 1 = (n' : Nat) := by omega
                          have hn2 : (n' : Int) + 1 - 1 = (n' : Nat) := by omega
                          obtain ⟨e0, e1, e2⟩ := hmem.hd.at n' (by omega)
                          have t1 := (hmem.hd.top hn).2.1
                          have z1 := hmem.hd.free 1
                          have hmv := (hmem.hd.put0 hn (f n')).less (n' := n') (by omega)
                          have hkm : KX B [68] wc (((wc.setCell ⟨hb, 0, none⟩ (.int .i64 (f n').1)).setCell ⟨hb, 1, none⟩ (.int .i64 (f n').2.1)).setCell ⟨hb, 2, none⟩ (.int .i64 (f n').2.2)) := (((KX.refl B [68] wc).set hbk (by simp) hBb _ _).set (hbk.set _ _) (by simp) hBb _ _).set ((hbk.set _ _).set _ _) (by simp) hBb _ _
                          have hmem2 := hmem.heads hkm hmv
                          have HI2 := hide (HI.out.drop (hi := hi) hr hrun (by omega))
                          have HP2 := hide (HP.out.upd0 (k := n') (by omega) (f n'))
                          by_cases hn0 : 0 < n'
                          · have hn0' : (0 : Int) < (n' : Int) := by omega
                            have hmd := hmem2.hd
                            go_wp2_with fail
                            refine (down_walk hb n' hcap 0 _ _ (by omega) hn0 hmd).mono ?_
                            rintro e w2 ⟨rfl, hd2, hk2⟩
                            have hmem3 := hmem2.heads (hk2.mono hBb (by simp)) hd2
                            have HI3 := hide (HI2.out.dn (i := 0) hn0)
                            have HP3 := hide (dn_fixes _ hn0 (by omega) HP2.out)
                            have HS3 := hide (sep_drop (ps := ps) (lo := lo) (by omega : R.N r ≤ hi) HI3.out)
                            clear hmem hmem2 hmd hd2 hk2 hkm hmv e0 e1 e2
                            go_wp2
                            go_roundg (rest R.m (fun s => R.N s - updN c r hi s))
                            case measure => have h2 := HM.out; have h3 := HG.out; omega
                            case rel => exact ⟨n', _, updN c r hi, ps ++ [(r, lo, hi)], io', rfl, by omega, rfl, HL2, HI3, HP3, HS3, HU2, hmem3⟩
                          · have hn0' : ¬ (0 : Int) < (n' : Int) := by omega
                            obtain rfl : n' = 0 := by omega
                            have HP3 : Hid (Hp 0 0 (upd f 0 (f 0))) := by intro p j h1 h2; omega
                            have HS3 := hide (sep_drop (ps := ps) (lo := lo) (by omega : R.N r ≤ hi) HI2.out)
                            go_wp2
                            go_roundg (rest R.m (fun s => R.N s - updN c r hi s))
                            case measure => have h2 := HM.out; have h3 := HG.out; omega
                            case rel => exact ⟨0, _, updN c r hi, ps ++ [(r, lo, hi)], io', rfl, by omega, rfl, HL2, HI2, HP3, HS3, HU2, (by rw [hrun] at hmem2; exact hmem2)⟩
            · have hn' : ¬ (0 : Int) < (n : Int) := by omega
              obtain rfl : n = 0 := by omega
              have hall : ∀ r, r < R.m → R.N r ≤ c r := by
                intro r hr
                rcases Nat.lt_or_ge (c r) (R.N r) with h1 | h1
                · obtain ⟨j, hj, _⟩ := HI.out.all r hr h1
                  omega
                · exact h1
              have htold := HU.out.told hall
              have z4 := hmem.st.free 4
              have s4 : wr.cell? ⟨sb, 4, none⟩ = some (.slice none 0 0) := by rw [hmem.st.cell, hS]; rfl
              clear hall
              go_wp2
              go_end0
              have hk := (KX.refl B [59] wr).set hmem.st (by simp) hB 4 (.slice (some ⟨hb, 0, none⟩) 0 hcap)
              refine ⟨rfl, show Ordered _ _ _ _ _ _ from ⟨ps, io, .slice (some ⟨hb, 0, none⟩) 0 hcap, htold, ?_, own_keep hmem.own hk (by simp), hmem.kx.trans (hk.mono (Nat.le_refl _) (by simp))⟩⟩
              have := hmem.st.set 4 (.slice (some ⟨hb, 0, none⟩) 0 hcap)
              rw [hS] at this
              exact this
        · obtain ⟨k, rfl⟩ : ∃ k, gk = k + 1 := ⟨gk - 1, by omega⟩
          have hgn : (0 : Int) ≤ ((k + 1 : Nat) : Int) - 1 := by omega
          have hgk : ((k + 1 : Nat) : Int) - 1 = (k : Nat) := by omega
          rw [hgk]
          clear hgn hgk
          have hk0 : (0 : Int) ≤ (k : Int) := by omega
          go_wp2_with fail
          refine (down_walk hb R.m hcap k f wr hm4 (by omega) hmem.hd).mono ?_
          rintro e w2 ⟨rfl, hd2, hk2⟩
          have hmem2 := hmem.heads (hk2.mono hBb (by simp)) hd2
          have hp2 := dn_fixes f (by omega) hm4 hp
          have HI2 := hide (HI.out.dn (i := k) (by omega))
          clear hmem hd2 hk2 hp HI
          go_wp2
          go_roundg k
          case measure => omega
          case rel => exact ⟨_, rfl, by omega, hp2, HI2, hmem2⟩
end Go.Proofs.Ybulkemg
