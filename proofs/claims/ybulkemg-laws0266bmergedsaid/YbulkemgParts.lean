/- The plain law of 'order' and 'merge': parts of runs, in the order of their lines. -/
import Derived.Test.YbulkemgSift
namespace Go.Proofs.Ybulkemg

/-- The runs: m of them; run r is N r lines long, is to be read from F r on, and its line j is A r j. -/
structure Rs where
  m : Nat
  F : Nat → Nat
  N : Nat → Nat
  A : Nat → Nat → Int

structure Rs.Ok (R : Rs) : Prop where
  m4 : R.m ≤ 4
  fn : ∀ r, r < R.m → R.F r < R.N r
  len : ∀ r, r < R.m → R.N r ≤ 1024
  up : ∀ r j k, r < R.m → j < k → k < R.N r → R.A r j < R.A r k
  apart : ∀ r s j k, r < R.m → s < R.m → r ≠ s → j < R.N r → k < R.N s → R.A r j ≠ R.A s k
  top : ∀ r j, r < R.m → j < R.N r → R.A r j < 9223372036854775807

/-- A part: a run, from where, to where. -/
abbrev Pt := Nat × Nat × Nat
def seg (R : Rs) (p : Pt) : List Int := (List.range' p.2.1 (p.2.2 - p.2.1)).map (R.A p.1)
def lines (R : Rs) (ps : List Pt) : List Int := ps.flatMap (seg R)

theorem mem_seg {R : Rs} {p : Pt} {x : Int} : x ∈ seg R p ↔ ∃ j, p.2.1 ≤ j ∧ j < p.2.2 ∧ x = R.A p.1 j := by
  unfold seg
  rw [List.mem_map]
  constructor
  · rintro ⟨j, hj, rfl⟩
    rw [List.mem_range'_1] at hj
    exact ⟨j, hj.1, by omega, rfl⟩
  · rintro ⟨j, h1, h2, rfl⟩
    exact ⟨j, by rw [List.mem_range'_1]; omega, rfl⟩
theorem lines_snoc (R : Rs) (ps : List Pt) (p : Pt) : lines R (ps ++ [p]) = lines R ps ++ seg R p := by simp [lines]

/-- What the law's loop asks of a list of parts. -/
structure Good (R : Rs) (ps : List Pt) : Prop where
  each : ∀ p, p ∈ ps → p.1 < R.m ∧ R.F p.1 ≤ p.2.1 ∧ p.2.1 < p.2.2 ∧ p.2.2 ≤ R.N p.1
  next : ∀ i p q, ps[i]? = some p → ps[i + 1]? = some q → p.1 ≠ q.1

theorem Good.snoc {R : Rs} {ps : List Pt} (h : Good R ps) (p : Pt) (hp : p.1 < R.m ∧ R.F p.1 ≤ p.2.1 ∧ p.2.1 < p.2.2 ∧ p.2.2 ≤ R.N p.1) (hl : ∀ q, ps.getLast? = some q → q.1 ≠ p.1) : Good R (ps ++ [p]) where
  each := by
    intro q hq
    rcases List.mem_append.1 hq with hq | hq
    · exact h.each q hq
    · rw [List.mem_singleton] at hq; subst hq; exact hp
  next := by
    intro i a b ha hb
    have hlen := (List.getElem?_eq_some_iff.1 hb).1
    simp at hlen
    by_cases e : i + 1 < ps.length
    · rw [List.getElem?_append_left (by omega)] at ha hb
      exact h.next i a b ha hb
    · have e2 : i + 1 = ps.length := by omega
      rw [List.getElem?_append_right (by omega), show i + 1 - ps.length = 0 by omega] at hb
      rw [List.getElem?_append_left (by omega)] at ha
      simp at hb
      subst hb
      refine hl a ?_
      rw [List.getLast?_eq_getElem?, show ps.length - 1 = i by omega]
      exact ha

def updN (f : Nat → Nat) (i x : Nat) : Nat → Nat := fun j => if j = i then x else f j

/-- So far have we come: run r to c r. -/
structure Upto (R : Rs) (c : Nat → Nat) (ps : List Pt) : Prop where
  good : Good R ps
  lo : ∀ r, r < R.m → R.F r ≤ c r
  hi : ∀ r, r < R.m → c r ≤ R.N r
  sorted : (lines R ps).Pairwise (· < ·)
  before : ∀ x, x ∈ lines R ps → ∀ r, r < R.m → c r < R.N r → x < R.A r (c r)
  mem : ∀ x, x ∈ lines R ps ↔ ∃ r j, r < R.m ∧ R.F r ≤ j ∧ j < c r ∧ x = R.A r j

theorem Upto.start {R : Rs} (ok : R.Ok) : Upto R R.F [] where
  good := ⟨(by intro p hp; simp at hp), (by intro i p q h; simp at h)⟩
  lo := fun r _ => Nat.le_refl _
  hi := fun r hr => Nat.le_of_lt (ok.fn r hr)
  sorted := by simp [lines]
  before := by intro x hx; simp [lines] at hx
  mem := by
    intro x
    constructor
    · intro hx; simp [lines] at hx
    · rintro ⟨r, j, _, h1, h2, _⟩; omega

theorem sorted_seg {R : Rs} (ok : R.Ok) {r lo hi : Nat} (hr : r < R.m) (hh : hi ≤ R.N r) : (seg R (r, lo, hi)).Pairwise (· < ·) := by
  unfold seg
  rw [List.pairwise_map]
  refine List.Pairwise.imp_of_mem ?_ (List.pairwise_lt_range' (s := lo) (n := hi - lo))
  intro a b ha hb hab
  rw [List.mem_range'_1] at ha hb
  dsimp only at *
  exact ok.up r a b hr hab (by omega)

theorem Upto.step {R : Rs} (ok : R.Ok) {c : Nat → Nat} {ps : List Pt} (h : Upto R c ps) {r lo hi : Nat} (hr : r < R.m) (hlo : c r = lo) (hlt : lo < hi) (hhi : hi ≤ R.N r)
    (hoth : ∀ s, s < R.m → s ≠ r → c s < R.N s → ∀ j, lo ≤ j → j < hi → R.A r j < R.A s (c s)) (hlast : ∀ q, ps.getLast? = some q → q.1 ≠ r) : Upto R (updN c r hi) (ps ++ [(r, lo, hi)]) where
  good := h.good.snoc _ ⟨hr, by have := h.lo r hr; dsimp only; omega, hlt, hhi⟩ hlast
  lo := by
    intro s hs
    have := h.lo s hs
    unfold updN
    split
    · next e => subst e; omega
    · exact this
  hi := by
    intro s hs
    unfold updN
    split
    · next e => subst e; exact hhi
    · exact h.hi s hs
  sorted := by
    rw [lines_snoc, List.pairwise_append]
    refine ⟨h.sorted, sorted_seg ok hr hhi, ?_⟩
    intro x hx y hy
    obtain ⟨j, h1, h2, rfl⟩ := mem_seg.1 hy
    dsimp only at h1 h2 ⊢
    have h3 := h.before x hx r hr (by omega)
    rw [hlo] at h3
    by_cases e : lo = j
    · subst e; exact h3
    · have := ok.up r lo j hr (by omega) (by omega)
      omega
  before := by
    intro x hx s hs hcs
    rw [lines_snoc, List.mem_append] at hx
    unfold updN at hcs ⊢
    by_cases e : s = r
    · subst e
      rw [if_pos rfl] at hcs ⊢
      rcases hx with hx | hx
      · have h3 := h.before x hx s hs (by omega)
        have := ok.up s (c s) hi hs (by omega) hcs
        omega
      · obtain ⟨j, h1, h2, rfl⟩ := mem_seg.1 hx
        exact ok.up s j hi hs h2 hcs
    · rw [if_neg e] at hcs ⊢
      rcases hx with hx | hx
      · exact h.before x hx s hs hcs
      · obtain ⟨j, h1, h2, rfl⟩ := mem_seg.1 hx
        exact hoth s hs e hcs j h1 h2
  mem := by
    intro x
    rw [lines_snoc, List.mem_append, h.mem, mem_seg]
    unfold updN
    constructor
    · rintro (⟨s, j, h1, h2, h3, h4⟩ | ⟨j, h1, h2, h3⟩)
      · refine ⟨s, j, h1, h2, ?_, h4⟩
        split
        · next e => subst e; omega
        · exact h3
      · refine ⟨r, j, hr, ?_, ?_, h3⟩
        · have := h.lo r hr; dsimp only at h1; omega
        · rw [if_pos rfl]; exact h2
    · rintro ⟨s, j, h1, h2, h3, h4⟩
      by_cases e : s = r
      · subst e
        rw [if_pos rfl] at h3
        by_cases e2 : j < c s
        · exact .inl ⟨s, j, h1, h2, e2, h4⟩
        · exact .inr ⟨j, by dsimp only; omega, h3, h4⟩
      · rw [if_neg e] at h3
        exact .inl ⟨s, j, h1, h2, h3, h4⟩

/-- All is told. -/
structure Told (R : Rs) (ps : List Pt) : Prop where
  good : Good R ps
  sorted : (lines R ps).Pairwise (· < ·)
  mem : ∀ x, x ∈ lines R ps ↔ ∃ r j, r < R.m ∧ R.F r ≤ j ∧ j < R.N r ∧ x = R.A r j

theorem Upto.told {R : Rs} {c : Nat → Nat} {ps : List Pt} (h : Upto R c ps) (hc : ∀ r, r < R.m → R.N r ≤ c r) : Told R ps where
  good := h.good
  sorted := h.sorted
  mem := by
    intro x
    rw [h.mem]
    constructor
    · rintro ⟨r, j, h1, h2, h3, h4⟩
      exact ⟨r, j, h1, h2, by have := h.hi r h1; omega, h4⟩
    · rintro ⟨r, j, h1, h2, h3, h4⟩
      exact ⟨r, j, h1, h2, by have := hc r h1; omega, h4⟩

/-- The heap's heads, and how far each run has come. -/
structure MI (R : Rs) (c : Nat → Nat) (n : Nat) (f : Nat → T3) : Prop where
  heads : ∀ j, j < n → ∃ r, r < R.m ∧ c r < R.N r ∧ f j = (R.A r (c r), (r : Int), (c r : Int))
  all : ∀ r, r < R.m → c r < R.N r → ∃ j, j < n ∧ (f j).2.1 = (r : Int)
  inj : ∀ j k, j < n → k < n → (f j).2.1 = (f k).2.1 → j = k

theorem MI.dn {R : Rs} {c : Nat → Nat} {n : Nat} {f : Nat → T3} (h : MI R c n f) {i : Nat} (hi : i < n) : MI R c n (dn 4 n f (f i) i) := by
  obtain ⟨p, q, hpq, he⟩ := dn_perm n 4 f (f i) i hi
  rw [upd_self] at he
  refine ⟨fun j hj => ?_, fun r hr hc => ?_, fun j k hj hk hjk => ?_⟩
  · rw [he j hj]; exact h.heads _ (hpq j hj).1
  · obtain ⟨j, hj, hjr⟩ := h.all r hr hc
    obtain ⟨_, b, c', _⟩ := hpq j hj
    exact ⟨q j, b, by rw [he _ b, c']; exact hjr⟩
  · rw [he j hj, he k hk] at hjk
    obtain ⟨a1, _, _, d1⟩ := hpq j hj
    obtain ⟨a2, _, _, d2⟩ := hpq k hk
    have := h.inj _ _ a1 a2 hjk
    rw [← d1, ← d2, this]

theorem Hp.upd0 {n k : Nat} {f : Nat → T3} (h : Hp 0 n f) (hk : k ≤ n) (x : T3) : Hp 1 k (upd f 0 x) := by
  intro p j hp hj hpj
  unfold upd
  rw [if_neg (by omega), if_neg (by omega)]
  exact h p j (by omega) (by omega) hpj

theorem MI.move {R : Rs} {c : Nat → Nat} {n : Nat} {f : Nat → T3} (h : MI R c n f) (h0 : 0 < n) {r hi : Nat} (hr : r < R.m) (hf : (f 0).2.1 = (r : Int)) (hhi : hi < R.N r) : MI R (updN c r hi) n (upd f 0 (R.A r hi, (r : Int), (hi : Int))) := by
  have hrun : ∀ j, (upd f 0 (R.A r hi, (r : Int), (hi : Int)) j).2.1 = (f j).2.1 := by
    intro j
    unfold upd
    split
    · next e => subst e; exact hf.symm
    · rfl
  refine ⟨fun j hj => ?_, fun s hs hcs => ?_, fun j k hj hk hjk => ?_⟩
  · by_cases e : j = 0
    · subst e
      refine ⟨r, hr, ?_, ?_⟩
      · unfold updN; rw [if_pos rfl]; exact hhi
      · unfold upd updN; rw [if_pos rfl, if_pos rfl]
    · obtain ⟨s, h1, h2, h3⟩ := h.heads j hj
      have hne : s ≠ r := by
        rintro rfl
        exact e (h.inj j 0 hj h0 (by rw [hf, h3]))
      refine ⟨s, h1, ?_, ?_⟩
      · unfold updN; rw [if_neg hne]; exact h2
      · unfold upd updN; rw [if_neg e, if_neg hne]; exact h3
  · by_cases e : s = r
    · subst e; exact ⟨0, h0, by rw [hrun]; exact hf⟩
    · unfold updN at hcs
      rw [if_neg e] at hcs
      obtain ⟨j, hj, hjr⟩ := h.all s hs hcs
      exact ⟨j, hj, by rw [hrun]; exact hjr⟩
  · rw [hrun, hrun] at hjk
    exact h.inj j k hj hk hjk

theorem MI.drop {R : Rs} {c : Nat → Nat} {n : Nat} {f : Nat → T3} (h : MI R c (n + 1) f) {r hi : Nat} (hr : r < R.m) (hf : (f 0).2.1 = (r : Int)) (hhi : R.N r ≤ hi) : MI R (updN c r hi) n (upd f 0 (f n)) := by
  have hk : ∀ j, 1 ≤ j → j < n + 1 → ∃ s, s < R.m ∧ s ≠ r ∧ c s < R.N s ∧ f j = (R.A s (c s), (s : Int), (c s : Int)) := by
    intro j hj1 hj
    obtain ⟨s, h1, h2, h3⟩ := h.heads j hj
    refine ⟨s, h1, ?_, h2, h3⟩
    rintro rfl
    have := h.inj j 0 hj (by omega) (by rw [hf, h3])
    omega
  refine ⟨fun j hj => ?_, fun s hs hcs => ?_, fun j k hj hk hjk => ?_⟩
  · unfold upd
    by_cases e : j = 0
    · subst e
      obtain ⟨s, h1, h2, h3, h4⟩ := hk n (by omega) (by omega)
      refine ⟨s, h1, ?_, ?_⟩
      · unfold updN; rw [if_neg h2]; exact h3
      · unfold updN; rw [if_pos rfl, if_neg h2]; exact h4
    · obtain ⟨s, h1, h2, h3, h4⟩ := hk j (by omega) (by omega)
      refine ⟨s, h1, ?_, ?_⟩
      · unfold updN; rw [if_neg h2]; exact h3
      · unfold updN; rw [if_neg e, if_neg h2]; exact h4
  · unfold updN at hcs
    by_cases e : s = r
    · subst e; rw [if_pos rfl] at hcs; omega
    · rw [if_neg e] at hcs
      obtain ⟨j, hj, hjr⟩ := h.all s hs hcs
      have hj0 : j ≠ 0 := by
        rintro rfl
        rw [hf] at hjr
        exact e (by omega)
      by_cases e2 : j = n
      · subst e2
        exact ⟨0, by omega, by unfold upd; rw [if_pos rfl]; exact hjr⟩
      · exact ⟨j, by omega, by unfold upd; rw [if_neg hj0]; exact hjr⟩
  · unfold upd at hjk
    by_cases e : j = 0
    · by_cases e2 : k = 0
      · omega
      · rw [if_pos e, if_neg e2] at hjk
        have := h.inj n k (by omega) (by omega) hjk
        omega
    · by_cases e2 : k = 0
      · rw [if_neg e, if_pos e2] at hjk
        have := h.inj j n (by omega) (by omega) hjk
        omega
      · rw [if_neg e, if_neg e2] at hjk
        exact h.inj j k (by omega) (by omega) hjk

/-- The top's run is not the last part's. -/
def Sep (ps : List Pt) (n : Nat) (f : Nat → T3) : Prop := ∀ q, ps.getLast? = some q → 0 < n → (f 0).2.1 ≠ (q.1 : Int)

section
variable {R : Rs} {c : Nat → Nat} {ps : List Pt} {n : Nat} {f : Nat → T3} {r lo hi : Nat} {z : Int}

theorem part_next (ok : R.Ok) (hu : Upto R c ps) (hm : MI R c n f) (hp : Hp 0 n f) (hs : Sep ps n f) (h0 : 0 < n) (hr : r < R.m) (hlo : c r = lo) (hf : f 0 = (R.A r lo, (r : Int), (lo : Int)))
    (hz1 : 1 < n → z ≤ (f 1).1) (hz2 : 2 < n → z ≤ (f 2).1) (hlt : lo < hi) (hhi : hi ≤ R.N r) (hin : ∀ j, lo < j → j < hi → R.A r j < z) : Upto R (updN c r hi) (ps ++ [(r, lo, hi)]) := by
  refine hu.step ok hr hlo hlt hhi ?_ ?_
  · intro s hs2 hne hcs j hj1 hj2
    obtain ⟨k, hk, hks⟩ := hm.all s hs2 hcs
    have hk0 : k ≠ 0 := by
      rintro rfl
      rw [hf] at hks
      dsimp only at hks
      exact hne (by omega)
    obtain ⟨s', _, _, h3⟩ := hm.heads k hk
    have hs' : s' = s := by
      rw [h3] at hks
      dsimp only at hks
      omega
    subst hs'
    have hfk : (f k).1 = R.A s' (c s') := by rw [h3]
    have hnx := hp.next hz1 hz2 k (by omega) hk
    have htop := hp.top k hk
    rw [hfk] at hnx htop
    rw [hf] at htop
    dsimp only at htop
    by_cases e : lo = j
    · subst e
      have := ok.apart r s' lo (c s') hr hs2 (Ne.symm hne) (by omega) hcs
      omega
    · have := hin j (by omega) hj2
      omega
  · intro q hq
    have := hs q hq h0
    rw [hf] at this
    dsimp only at this
    omega

theorem sep_move (ok : R.Ok) (hm : MI R c n f) (h0 : 0 < n) (hr : r < R.m) (hf : (f 0).2.1 = (r : Int)) (hhi : hi < R.N r) (hzc : z = 9223372036854775807 ∨ ∃ k, 1 ≤ k ∧ k < n ∧ z = (f k).1) (hle : z ≤ R.A r hi)
    {g : Nat → T3} (hg : MI R (updN c r hi) n g) (hpg : Hp 0 n g) : Sep (ps ++ [(r, lo, hi)]) n g := by
  intro q hq _ heq
  rw [List.getLast?_concat] at hq
  cases hq
  dsimp only at heq
  rcases hzc with rfl | ⟨k, hk1, hk, rfl⟩
  · have := ok.top r hi hr hhi
    omega
  · obtain ⟨s, h1, h2, h3⟩ := hm.heads k hk
    have hne : s ≠ r := by
      rintro rfl
      have := hm.inj k 0 hk h0 (by rw [hf, h3])
      omega
    have hcs : updN c r hi s = c s := by unfold updN; rw [if_neg hne]
    obtain ⟨k', hk', hks⟩ := hg.all s h1 (by rw [hcs]; exact h2)
    obtain ⟨s', _, _, h6⟩ := hg.heads k' hk'
    have : s' = s := by
      rw [h6] at hks
      dsimp only at hks
      omega
    subst this
    obtain ⟨r', _, _, h7⟩ := hg.heads 0 h0
    have : r' = r := by
      rw [h7] at heq
      dsimp only at heq
      omega
    subst this
    have ht := hpg.top k' hk'
    rw [h6, h7] at ht
    rw [h3] at hle
    dsimp only at ht hle
    rw [hcs] at ht
    have hcr : updN c r' hi r' = hi := by unfold updN; rw [if_pos rfl]
    rw [hcr] at ht
    exact ok.apart r' s' hi (c s') hr h1 (Ne.symm hne) hhi h2 (by omega)

theorem sep_drop (hhi : R.N r ≤ hi) {g : Nat → T3} {n' : Nat} (hg : MI R (updN c r hi) n' g) : Sep (ps ++ [(r, lo, hi)]) n' g := by
  intro q hq h0 heq
  rw [List.getLast?_concat] at hq
  cases hq
  dsimp only at heq
  obtain ⟨s, h1, h2, h3⟩ := hg.heads 0 h0
  have : s = r := by
    rw [h3] at heq
    dsimp only at heq
    omega
  subst this
  unfold updN at h2
  rw [if_pos rfl] at h2
  omega
end

/-- The straight way: the first i runs whole. -/
structure Fast (R : Rs) (i : Nat) (ps : List Pt) : Prop where
  parts : ps = (List.range i).map fun r => (r, R.F r, R.N r)
  sorted : (lines R ps).Pairwise (· < ·)
  last : ∀ x, x ∈ lines R ps → 0 < i ∧ x ≤ R.A (i - 1) (R.N (i - 1) - 1)

theorem Fast.zero (R : Rs) : Fast R 0 [] := ⟨rfl, by simp [lines], by intro x hx; simp [lines] at hx⟩
theorem Fast.step {R : Rs} (ok : R.Ok) {i : Nat} {ps : List Pt} (h : Fast R i ps) (hi : i < R.m) (hlt : 0 < i → R.A (i - 1) (R.N (i - 1) - 1) < R.A i (R.F i)) : Fast R (i + 1) (ps ++ [(i, R.F i, R.N i)]) := by
  have hfn := ok.fn i hi
  refine ⟨by rw [h.parts, List.range_succ]; simp, ?_, ?_⟩
  · rw [lines_snoc, List.pairwise_append]
    refine ⟨h.sorted, sorted_seg ok hi (Nat.le_refl _), ?_⟩
    intro x hx y hy
    obtain ⟨j, h1, h2, rfl⟩ := mem_seg.1 hy
    dsimp only at h1 h2 ⊢
    obtain ⟨h3, h4⟩ := h.last x hx
    have h5 := hlt h3
    by_cases e : R.F i = j
    · rw [← e]; omega
    · have := ok.up i (R.F i) j hi (by omega) h2
      omega
  · intro x hx
    refine ⟨by omega, ?_⟩
    rw [Nat.add_sub_cancel]
    have hle : R.A i (R.F i) ≤ R.A i (R.N i - 1) := by
      by_cases e : R.F i = R.N i - 1
      · rw [e]; omega
      · have := ok.up i (R.F i) (R.N i - 1) hi (by omega) (by omega)
        omega
    rw [lines_snoc, List.mem_append] at hx
    rcases hx with hx | hx
    · obtain ⟨h3, h4⟩ := h.last x hx
      have h5 := hlt h3
      omega
    · obtain ⟨j, h1, h2, rfl⟩ := mem_seg.1 hx
      dsimp only at h1 h2 ⊢
      by_cases e : j = R.N i - 1
      · rw [e]; omega
      · have := ok.up i j (R.N i - 1) hi (by omega) (by omega)
        omega
theorem Fast.told {R : Rs} (ok : R.Ok) {ps : List Pt} (h : Fast R R.m ps) : Told R ps where
  good := by
    rw [h.parts]
    constructor
    · intro p hp
      obtain ⟨r, hr, rfl⟩ := List.mem_map.1 hp
      rw [List.mem_range] at hr
      exact ⟨hr, Nat.le_refl _, ok.fn r hr, Nat.le_refl _⟩
    · intro i p q hp hq
      have h1 := (List.getElem?_eq_some_iff.1 hp).1
      have h2 := (List.getElem?_eq_some_iff.1 hq).1
      simp at h1 h2
      simp [h1] at hp
      simp [h2] at hq
      subst hp hq
      simp
  sorted := h.sorted
  mem := by
    intro x
    rw [h.parts]
    unfold lines
    rw [List.mem_flatMap]
    constructor
    · rintro ⟨p, hp, hx⟩
      obtain ⟨r, hr, rfl⟩ := List.mem_map.1 hp
      rw [List.mem_range] at hr
      obtain ⟨j, h1, h2, rfl⟩ := mem_seg.1 hx
      exact ⟨r, j, hr, h1, h2, rfl⟩
    · rintro ⟨r, j, h1, h2, h3, rfl⟩
      exact ⟨(r, R.F r, R.N r), List.mem_map.2 ⟨r, List.mem_range.2 h1, rfl⟩, mem_seg.2 ⟨j, h2, h3, rfl⟩⟩
end Go.Proofs.Ybulkemg
