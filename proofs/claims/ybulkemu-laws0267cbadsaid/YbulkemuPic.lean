/- A picker in memory. -/
import Derived.Test.YbulkemuBits
import Derived.Deep.RegionHeld3
import Derived.Deep.RegionWith
import Derived.Deep.OwnRows
import Derived.Deep.DrawnRows
namespace Go.Proofs.Ybulkemu
open Go.RowKit

/-- The peers that came in: L pairs, a mask and a number. -/
def InP (w : World) (a : Option Addr) (L : Nat) (M V : Nat → Int) : Prop :=
  (0 < L → ∃ b o, a = some ⟨b, o, none⟩ ∧ b < w.heap.size ∧ ∀ k, k < L → w.cell? ⟨b, o + k * 2, none⟩ = some (.int .u64 (M k)) ∧ w.cell? ⟨b, o + k * 2 + 1, none⟩ = some (.int .i64 (V k))) ∧ ∀ k, 0 ≤ M k ∧ M k ≤ 18446744073709551615

/-- The peers that the call has made: q of L. -/
structure Prs (w : World) (row L q nb : Nat) (PB HB : Nat → Nat) (BS : Nat → List Int) (V : Nat → Int) : Prop where
  row : Blk w row 32 ((List.range L).map fun k => if k < q then .pointer (some ⟨PB k, 0, none⟩) else .pointer none)
  peer : ∀ k, k < q → Blk w (PB k) 51 [.slice (some ⟨HB k, 0, none⟩) nb nb, .int .i64 0, .int .i64 (V k), .slice none 0 0, .slice none 0 0, .int .i64 k]
  has : ∀ k, k < q → Bf w (HB k) (BS k) ∧ (BS k).length = nb
  inj : ∀ j k, j < q → k < q → PB j = PB k → j = k

theorem set_range (L q : Nat) (f : Nat → Value) (v : Value) : ((List.range L).map f).set q v = (List.range L).map (fun k => if k = q then v else f k) := by
  apply List.ext_getElem
  · simp
  · intro i h1 h2
    simp only [List.getElem_set, List.getElem_map, List.getElem_range]
    by_cases e : i = q
    · simp [e]
    · simp [e, Ne.symm e]

def aggSize : Option Value → Option Nat
  | some (.agg cs) => some cs.size
  | _ => none
theorem Yba.info79 : (Yba.prog.info? 79).map (fun i => (i.size, i.bytes, aggSize i.zero)) = some (20, 20, some 20) := by kernel_rfl
theorem Yba.info32 : (Yba.prog.info? 32).map (fun i => (i.zero, i.size, i.bytes)) = some (some (.pointer none), 1, 8) := by kernel_rfl
theorem Yba.info3 : (Yba.prog.info? 3).map (fun i => (i.zero, i.size, i.bytes)) = some (some (.int .i64 0), 1, 8) := by kernel_rfl

theorem info79_parts : ∃ i cs, Yba.prog.info? 79 = some i ∧ i.zero = some (.agg cs) ∧ i.size = 20 ∧ i.bytes = 20 := by
  obtain ⟨i, hi, h⟩ := Option.map_eq_some_iff.1 Yba.info79
  simp only [Prod.mk.injEq] at h
  have key : ∀ o : Option Value, aggSize o = some 20 → ∃ cs, o = some (.agg cs) := by
    intro o ho
    match o, ho with
    | some (.agg cs), _ => exact ⟨cs, rfl⟩
  obtain ⟨cs, hc⟩ := key _ h.2.2
  exact ⟨i, cs, hi, hc, h.1, h.2.1⟩

theorem made_blk {w : World} {base b n : Nat} {t : TypeId} {z : Value} {cs : List Value} (h : w.ownsRow base t 1 (.slice (some ⟨b, 0, none⟩) n n) n cs) (hc : cs = (madeCells #[z] (n * 1)).toList) : Blk w b t (List.replicate n z) := by
  rcases h.2 with ⟨h', _⟩ | ⟨g, cap, cur, he, _, hg, _, _, hcs, htake⟩
  · simp at h'
  · simp only [Value.slice.injEq, Option.some.injEq, Addr.mk.injEq, and_true, true_and] at he
    obtain ⟨rfl, rfl⟩ := he
    have hcur : cur.toList = List.replicate n z := by
      rw [List.take_of_length_le (by simp [hcs])] at htake
      rw [htake, hc, Nat.mul_one]
      exact toList_madeCells_one _ _
    unfold Blk
    rw [hg, ← hcur, Array.toArray_toList]

/-- What the loop of zzs0267cbuild has made behind q rounds. -/
structure Lp (w0 w : World) (ib row L q n nb : Nat) (info : List Value) (PB HB : Nat → Nat) (BS : Nat → List Int) (M V : Nat → Int) : Prop where
  inf : Blk w ib 57 info
  prs : Prs w row L q nb PB HB BS V
  bits : ∀ k, k < q → ∀ j, j < n → bit (BS k) j = mb (M k) j
  l1 : w0.heap.size ≤ row
  l2 : ∀ k, k < q → w0.heap.size ≤ PB k
  below : Below w0.heap.size w0 w

/-- A peer more: its bytes at the block hb (new in w1), itself boxed behind them, its address stored into the row. -/
theorem Lp.next {w0 w w1 : World} {ib row L q n nb : Nat} {info : List Value} {PB HB : Nat → Nat} {BS : Nat → List Int} {M V : Nat → Int} (h : Lp w0 w ib row L q n nb info PB HB BS M V) (hq : q < L) {bs : List Int}
    (hbf : Bf w1 w.heap.size bs) (hl : bs.length = nb) (hbits : ∀ j, j < n → bit bs j = mb (M q) j) (hbel : Below w.heap.size w w1) (v : Value)
    (hv : v = .pointer (some ⟨w1.heap.size, 0, none⟩)) (o : Obj) (ho : o = .cells [.slice (some ⟨w.heap.size, 0, none⟩) nb nb, .int .i64 0, .int .i64 (V q), .slice none 0 0, .slice none 0 0, .int .i64 q].toArray 51) (hs : w0.heap.size ≤ w.heap.size) :
    ∃ PB' HB' BS', Lp w0 ((w1.setCell ⟨row, q, none⟩ v).alloc o) ib row L (q + 1) n nb info PB' HB' BS' M V := by
  subst hv
  subst ho
  have hsz := hbel.size
  have lrow := h.prs.row.lt
  have linf := h.inf.lt
  have lhb := hbf.1.lt
  have hpk : ∀ k, k < q → PB k < w.heap.size := fun k hk => (h.prs.peer k hk).lt
  have hhk : ∀ k, k < q → HB k < w.heap.size := fun k hk => (h.prs.has k hk).1.1.lt
  have keep : ∀ b, b < w.heap.size → b ≠ row → ∀ (o : Obj) (v : Value), ((w1.setCell ⟨row, q, none⟩ v).alloc o).heap[b]? = w.heap[b]? := by
    intro b hb hne o v
    rw [Below.heap_alloc _ _ _ (by simp; omega), Below.heap_setCell _ _ _ _ (by simpa using hne), hbel.block b hb]
  have hsz' : ∀ v, (w1.setCell ⟨row, q, none⟩ v).heap.size = w1.heap.size := by intro v; simp
  refine ⟨fun k => if k = q then w1.heap.size else PB k, fun k => if k = q then w.heap.size else HB k, fun k => if k = q then bs else BS k, ?_, ⟨?_, ?_, ?_, ?_⟩, ?_, h.l1, ?_, ?_⟩
  · exact h.inf.keep (keep ib linf (h.inf.ne h.prs.row (by decide)) _ _)
  · have hr : Blk w1 row 32 _ := h.prs.row.keep (hbel.block row lrow)
    have := (hr.set q (.pointer (some ⟨w1.heap.size, 0, none⟩))).alloc (.cells [.slice (some ⟨w.heap.size, 0, none⟩) nb nb, .int .i64 0, .int .i64 (V q), .slice none 0 0, .slice none 0 0, .int .i64 q].toArray 51)
    rw [set_range] at this
    refine Eq.trans this ?_
    congr 3
    apply List.map_congr_left
    intro k _
    by_cases e : k = q
    · subst e; simp
    · by_cases e2 : k < q
      · simp [e, e2, show k < q + 1 by omega]
      · simp [e, e2, show ¬ k < q + 1 by omega]
  · intro k hk
    by_cases e : k = q
    · subst e
      simp only [if_true]
      have := Blk.new (w1.setCell ⟨row, k, none⟩ (.pointer (some ⟨w1.heap.size, 0, none⟩))) [.slice (some ⟨w.heap.size, 0, none⟩) nb nb, .int .i64 0, .int .i64 (V k), .slice none 0 0, .slice none 0 0, .int .i64 k] 51
      rw [hsz'] at this
      exact this
    · simp only [e, if_false]
      exact (h.prs.peer k (by omega)).keep (keep _ (hpk k (by omega)) ((h.prs.peer k (by omega)).ne h.prs.row (by decide)) _ _)
  · intro k hk
    by_cases e : k = q
    · subst e
      simp only [if_true]
      exact ⟨⟨(hbf.1.other (by omega) _ _).alloc _, hbf.2⟩, hl⟩
    · simp only [e, if_false]
      have hh := h.prs.has k (by omega)
      exact ⟨⟨hh.1.1.keep (keep _ (hhk k (by omega)) (hh.1.1.ne h.prs.row (by decide)) _ _), hh.1.2⟩, hh.2⟩
  · intro j k hj hk he
    by_cases e1 : j = q
    · by_cases e2 : k = q
      · omega
      · simp only [e1, if_true, e2, if_false] at he
        have := hpk k (by omega)
        omega
    · by_cases e2 : k = q
      · simp only [e1, if_false, e2, if_true] at he
        have := hpk j (by omega)
        omega
      · simp only [e1, if_false, e2] at he
        exact h.prs.inj j k (by omega) (by omega) he
  · intro k hk j hj
    by_cases e : k = q
    · subst e
      simp only [if_true]
      exact hbits j hj
    · simp only [e, if_false]
      exact h.bits k (by omega) j hj
  · intro k hk
    by_cases e : k = q
    · simp only [e, if_true]
      omega
    · simp only [e, if_false]
      exact h.l2 k (by omega)
  · exact ((h.below.trans (hbel.mono (by have := h.below.size; omega))).setCell h.l1 _).alloc (by rw [hsz']; omega) _

theorem Lp.drewN {w0 w : World} {ib row L q n nb : Nat} {info : List Value} {PB HB : Nat → Nat} {BS : Nat → List Int} {M V : Nat → Int} (h : Lp w0 w ib row L q n nb info PB HB BS M V) (k : Nat) : Lp w0 (w.drewN k) ib row L q n nb info PB HB BS M V :=
  ⟨h.inf, ⟨h.prs.row, h.prs.peer, h.prs.has, h.prs.inj⟩, h.bits, h.l1, h.l2, below_drewN h.below k⟩
theorem Lp.drew {w0 w : World} {ib row L q n nb : Nat} {info : List Value} {PB HB : Nat → Nat} {BS : Nat → List Int} {M V : Nat → Int} (h : Lp w0 w ib row L q n nb info PB HB BS M V) : Lp w0 w.drew ib row L q n nb info PB HB BS M V :=
  ⟨h.inf, ⟨h.prs.row, h.prs.peer, h.prs.has, h.prs.inj⟩, h.bits, h.l1, h.l2, h.below.drew⟩

/-- Nothing below the heap's size has turned: the peers made so far stand. -/
theorem Lp.keep {w0 w w' : World} {ib row L q n nb : Nat} {info : List Value} {PB HB : Nat → Nat} {BS : Nat → List Int} {M V : Nat → Int} (h : Lp w0 w ib row L q n nb info PB HB BS M V) (hb : Below w.heap.size w w') : Lp w0 w' ib row L q n nb info PB HB BS M V :=
  ⟨h.inf.keep (hb.block _ h.inf.lt), ⟨h.prs.row.keep (hb.block _ h.prs.row.lt), fun k hk => (h.prs.peer k hk).keep (hb.block _ (h.prs.peer k hk).lt), fun k hk => ⟨⟨(h.prs.has k hk).1.1.keep (hb.block _ (h.prs.has k hk).1.1.lt), (h.prs.has k hk).1.2⟩, (h.prs.has k hk).2⟩, h.prs.inj⟩, h.bits, h.l1, h.l2, h.below.trans (hb.mono h.below.size)⟩

/-- The cells of a picker. -/
def pcells (ib hb nb : Nat) (nh lf : Int) (av : Value) (am wm row L : Nat) : List Value :=
  [.pointer (some ⟨ib, 0, none⟩), .slice (some ⟨hb, 0, none⟩) nb nb, .int .i64 nh, .int .i64 lf, av, .map (some am), .map (some wm), .slice none 0 0, .slice none 0 0, .slice none 0 0, .slice none 0 0, .slice (some ⟨row, 0, none⟩) L L]

/-- A picker in memory: its cells, its bitfield, its two maps, the peers. -/
structure Pic (w0 w : World) (pb ib hb am wm row L n nb : Nat) (info : List Value) (PB HB : Nat → Nat) (BS : Nat → List Int) (M V : Nat → Int) (nh lf : Int) (av : Value) (bs : List Int) (ea ew : Array MapEntry) (ca cw : Nat) : Prop where
  pic : Blk w pb 44 (pcells ib hb nb nh lf av am wm row L)
  held : Bf w hb bs
  hl : bs.length = nb
  act : w.heap[am]? = some (.map ea ca)
  who : w.heap[wm]? = some (.map ew cw)
  lp : Lp w0 w ib row L L n nb info PB HB BS M V
  hne : ∀ k, k < L → HB k ≠ hb
  mne : am ≠ wm
  l1 : w0.heap.size ≤ pb
  l2 : w0.heap.size ≤ hb
  l3 : w0.heap.size ≤ am
  l4 : w0.heap.size ≤ wm

theorem pic_made {w0 wr wf : World} {pb ib hb am wm row L n nb : Nat} {info : List Value} {PB HB : Nat → Nat} {BS : Nat → List Int} {M V : Nat → Int} {nh lf : Int} {av : Value} {bs : List Int} (hlp : Lp w0 wr ib row L L n nb info PB HB BS M V) (hb0 : Below wr.heap.size wr wf) (hpic : Blk wf pb 44 (pcells ib hb nb nh lf av am wm row L)) (hbf : Bf wf hb bs) (hl : bs.length = nb)
    (ham : wf.heap[am]? = some (.map #[] 0)) (hwm : wf.heap[wm]? = some (.map #[] 0)) (hne : am ≠ wm) (h1 : wr.heap.size ≤ pb) (h2 : wr.heap.size ≤ hb) (h3 : wr.heap.size ≤ am) (h4 : wr.heap.size ≤ wm) :
    Pic w0 wf pb ib hb am wm row L n nb info PB HB BS M V nh lf av bs #[] #[] 0 0 := by
  have hs := hlp.below.size
  refine ⟨hpic, hbf, hl, ham, hwm, hlp.keep hb0, ?_, hne, by omega, by omega, by omega, by omega⟩
  intro k hk
  have := (hlp.prs.has k hk).1.1.lt
  omega

theorem heap_at (w : World) (o : Obj) (n : Nat) (h : n = w.heap.size) : (w.alloc o).heap[n]? = some o := by rw [h]; exact heap_alloc_new w o

theorem Lp.far {w0 w w' : World} {ib row L q n nb : Nat} {info : List Value} {PB HB : Nat → Nat} {BS : Nat → List Int} {M V : Nat → Int} (h : Lp w0 w ib row L q n nb info PB HB BS M V) {c : Nat} (hk : ∀ b, b ≠ c → w'.heap[b]? = w.heap[b]?)
    (h1 : ib ≠ c) (h2 : row ≠ c) (h3 : ∀ k, k < q → PB k ≠ c) (h4 : ∀ k, k < q → HB k ≠ c) (hb : Below w0.heap.size w w') : Lp w0 w' ib row L q n nb info PB HB BS M V :=
  ⟨h.inf.keep (hk _ h1), ⟨h.prs.row.keep (hk _ h2), fun k hk' => (h.prs.peer k hk').keep (hk _ (h3 k hk')), fun k hk' => ⟨⟨(h.prs.has k hk').1.1.keep (hk _ (h4 k hk')), (h.prs.has k hk').1.2⟩, (h.prs.has k hk').2⟩, h.prs.inj⟩, h.bits, h.l1, h.l2, h.below.trans hb⟩

theorem below_block {B : Nat} {w w' : World} {c : Nat} (hk : ∀ b, b ≠ c → w'.heap[b]? = w.heap[b]?) (hc : B ≤ c) (h1 : w'.os = w.os) (h2 : w'.tape = w.tape) (h3 : w'.output = w.output) (h4 : w.heap.size ≤ w'.heap.size) : Below B w w' :=
  ⟨h1, h2, h3, h4, fun k hk' => hk k (by omega)⟩

section
variable {w0 w : World} {pb ib hb am wm row L n nb : Nat} {info : List Value} {PB HB : Nat → Nat} {BS : Nat → List Int} {M V : Nat → Int} {nh lf : Int} {av : Value} {bs : List Int} {ea ew : Array MapEntry} {ca cw : Nat}

theorem Pic.drewN (h : Pic w0 w pb ib hb am wm row L n nb info PB HB BS M V nh lf av bs ea ew ca cw) (k : Nat) : Pic w0 (w.drewN k) pb ib hb am wm row L n nb info PB HB BS M V nh lf av bs ea ew ca cw :=
  ⟨h.pic, h.held, h.hl, h.act, h.who, h.lp.drewN k, h.hne, h.mne, h.l1, h.l2, h.l3, h.l4⟩
theorem Pic.drew (h : Pic w0 w pb ib hb am wm row L n nb info PB HB BS M V nh lf av bs ea ew ca cw) : Pic w0 w.drew pb ib hb am wm row L n nb info PB HB BS M V nh lf av bs ea ew ca cw :=
  ⟨h.pic, h.held, h.hl, h.act, h.who, h.lp.drew, h.hne, h.mne, h.l1, h.l2, h.l3, h.l4⟩
theorem Pic.below (h : Pic w0 w pb ib hb am wm row L n nb info PB HB BS M V nh lf av bs ea ew ca cw) {w' : World} (hb' : Below w.heap.size w w') : Pic w0 w' pb ib hb am wm row L n nb info PB HB BS M V nh lf av bs ea ew ca cw :=
  ⟨h.pic.keep (hb'.block _ h.pic.lt), ⟨h.held.1.keep (hb'.block _ h.held.1.lt), h.held.2⟩, h.hl, (hb'.block _ (lt_of_block h.act)).trans h.act, (hb'.block _ (lt_of_block h.who)).trans h.who, h.lp.keep hb', h.hne, h.mne, h.l1, h.l2, h.l3, h.l4⟩

/-- A store into the picker's own cells. -/
theorem Pic.setP (h : Pic w0 w pb ib hb am wm row L n nb info PB HB BS M V nh lf av bs ea ew ca cw) (j : Nat) (v : Value) {nh' lf' : Int} (hc : (pcells ib hb nb nh lf av am wm row L).set j v = pcells ib hb nb nh' lf' av am wm row L) :
    Pic w0 (w.setCell ⟨pb, j, none⟩ v) pb ib hb am wm row L n nb info PB HB BS M V nh' lf' av bs ea ew ca cw := by
  have hk : ∀ b, b ≠ pb → (w.setCell ⟨pb, j, none⟩ v).heap[b]? = w.heap[b]? := fun b hb' => Below.heap_setCell _ _ _ _ hb'
  refine ⟨hc ▸ h.pic.set j v, ⟨h.held.1.keep (hk _ (h.held.1.ne h.pic (by decide))), h.held.2⟩, h.hl, (hk _ (Ne.symm (h.pic.neMap h.act))).trans h.act, (hk _ (Ne.symm (h.pic.neMap h.who))).trans h.who, ?_, h.hne, h.mne, h.l1, h.l2, h.l3, h.l4⟩
  exact h.lp.far hk (h.lp.inf.ne h.pic (by decide)) (h.lp.prs.row.ne h.pic (by decide)) (fun k hk' => (h.lp.prs.peer k hk').ne h.pic (by decide)) (fun k hk' => (h.lp.prs.has k hk').1.1.ne h.pic (by decide)) (below_block hk h.l1 rfl rfl rfl (by simp))
theorem Pic.setNh (h : Pic w0 w pb ib hb am wm row L n nb info PB HB BS M V nh lf av bs ea ew ca cw) (x : Int) : Pic w0 (w.setCell ⟨pb, 2, none⟩ (.int .i64 x)) pb ib hb am wm row L n nb info PB HB BS M V x lf av bs ea ew ca cw := h.setP 2 _ rfl
theorem Pic.setLf (h : Pic w0 w pb ib hb am wm row L n nb info PB HB BS M V nh lf av bs ea ew ca cw) (x : Int) : Pic w0 (w.setCell ⟨pb, 3, none⟩ (.int .i64 x)) pb ib hb am wm row L n nb info PB HB BS M V nh x av bs ea ew ca cw := h.setP 3 _ rfl

/-- A bit of the picker's own bitfield is set. -/
theorem Pic.setBit (h : Pic w0 w pb ib hb am wm row L n nb info PB HB BS M V nh lf av bs ea ew ca cw) (i : Nat) :
    Pic w0 ((w.setCell ⟨hb, i / 8, none⟩ (.int .u8 (orB (bs.getD (i / 8) 0) (i % 8)))).drew) pb ib hb am wm row L n nb info PB HB BS M V nh lf av (setAt bs i) ea ew ca cw := by
  have hk : ∀ b, b ≠ hb → ((w.setCell ⟨hb, i / 8, none⟩ (.int .u8 (orB (bs.getD (i / 8) 0) (i % 8)))).drew).heap[b]? = w.heap[b]? := fun b hb' => Below.heap_setCell _ _ _ _ hb'
  refine ⟨h.pic.keep (hk _ (h.pic.ne h.held.1 (by decide))), h.held.put i, by rw [setAt_length]; exact h.hl, (hk _ (Ne.symm (h.held.1.neMap h.act))).trans h.act, (hk _ (Ne.symm (h.held.1.neMap h.who))).trans h.who, ?_, h.hne, h.mne, h.l1, h.l2, h.l3, h.l4⟩
  exact h.lp.far hk (h.lp.inf.ne h.held.1 (by decide)) (h.lp.prs.row.ne h.held.1 (by decide)) (fun k hk' => (h.lp.prs.peer k hk').ne h.held.1 (by decide)) h.hne (below_block hk h.l2 rfl rfl rfl (by simp))

/-- The map 'whole' turns. -/
theorem Pic.setWho (h : Pic w0 w pb ib hb am wm row L n nb info PB HB BS M V nh lf av bs ea ew ca cw) (es : Array MapEntry) (c : Nat) :
    Pic w0 (Go.ChangeMaps.setBlock w wm (.map es c)) pb ib hb am wm row L n nb info PB HB BS M V nh lf av bs ea es ca c := by
  have hk : ∀ b, b ≠ wm → (Go.ChangeMaps.setBlock w wm (.map es c)).heap[b]? = w.heap[b]? := fun b hb' => Go.ChangeMaps.heap_setBlock_other h.who _ hb'
  refine ⟨h.pic.map h.who _, ⟨h.held.1.map h.who _, h.held.2⟩, h.hl, (hk _ h.mne).trans h.act, Go.ChangeMaps.heap_setBlock_same h.who _, ?_, h.hne, h.mne, h.l1, h.l2, h.l3, h.l4⟩
  exact h.lp.far hk (h.lp.inf.neMap h.who) (h.lp.prs.row.neMap h.who) (fun k hk' => (h.lp.prs.peer k hk').neMap h.who) (fun k hk' => (h.lp.prs.has k hk').1.1.neMap h.who) (below_block hk h.l4 rfl rfl rfl (by simp [Go.ChangeMaps.setBlock]))
/-- The map 'active' turns. -/
theorem Pic.setAct (h : Pic w0 w pb ib hb am wm row L n nb info PB HB BS M V nh lf av bs ea ew ca cw) (es : Array MapEntry) (c : Nat) :
    Pic w0 (Go.ChangeMaps.setBlock w am (.map es c)) pb ib hb am wm row L n nb info PB HB BS M V nh lf av bs es ew c cw := by
  have hk : ∀ b, b ≠ am → (Go.ChangeMaps.setBlock w am (.map es c)).heap[b]? = w.heap[b]? := fun b hb' => Go.ChangeMaps.heap_setBlock_other h.act _ hb'
  refine ⟨h.pic.map h.act _, ⟨h.held.1.map h.act _, h.held.2⟩, h.hl, Go.ChangeMaps.heap_setBlock_same h.act _, (hk _ (Ne.symm h.mne)).trans h.who, ?_, h.hne, h.mne, h.l1, h.l2, h.l3, h.l4⟩
  exact h.lp.far hk (h.lp.inf.neMap h.act) (h.lp.prs.row.neMap h.act) (fun k hk' => (h.lp.prs.peer k hk').neMap h.act) (fun k hk' => (h.lp.prs.has k hk').1.1.neMap h.act) (below_block hk h.l3 rfl rfl rfl (by simp [Go.ChangeMaps.setBlock]))

/-- A peer's number turns. -/
theorem Pic.setV (h : Pic w0 w pb ib hb am wm row L n nb info PB HB BS M V nh lf av bs ea ew ca cw) (k : Nat) (hk : k < L) (x : Int) :
    Pic w0 (w.setCell ⟨PB k, 2, none⟩ (.int .i64 x)) pb ib hb am wm row L n nb info PB HB BS M (fun j => if j = k then x else V j) nh lf av bs ea ew ca cw := by
  have hp := h.lp.prs.peer k hk
  have hkk : ∀ b, b ≠ PB k → (w.setCell ⟨PB k, 2, none⟩ (.int .i64 x)).heap[b]? = w.heap[b]? := fun b hb' => Below.heap_setCell _ _ _ _ hb'
  refine ⟨h.pic.keep (hkk _ (h.pic.ne hp (by decide))), ⟨h.held.1.keep (hkk _ (h.held.1.ne hp (by decide))), h.held.2⟩, h.hl, (hkk _ (Ne.symm (hp.neMap h.act))).trans h.act, (hkk _ (Ne.symm (hp.neMap h.who))).trans h.who, ?_, h.hne, h.mne, h.l1, h.l2, h.l3, h.l4⟩
  refine ⟨h.lp.inf.keep (hkk _ (h.lp.inf.ne hp (by decide))), ⟨h.lp.prs.row.keep (hkk _ (h.lp.prs.row.ne hp (by decide))), ?_, ?_, h.lp.prs.inj⟩, h.lp.bits, h.lp.l1, h.lp.l2, h.lp.below.trans (below_block hkk (h.lp.l2 k hk) rfl rfl rfl (by simp))⟩
  · intro j hj
    by_cases e : j = k
    · subst e
      simp only [if_true]
      exact hp.set 2 _
    · simp only [e, if_false]
      exact (h.lp.prs.peer j hj).keep (hkk _ (fun e2 => e (h.lp.prs.inj j k hj hk e2)))
  · intro j hj
    exact ⟨⟨(h.lp.prs.has j hj).1.1.keep (hkk _ ((h.lp.prs.has j hj).1.1.ne hp (by decide))), (h.lp.prs.has j hj).1.2⟩, (h.lp.prs.has j hj).2⟩
end
end Go.Proofs.Ybulkemu
