/- The plain law: lines dealt out to classes; what the law wants is what the parts tell. -/
import Derived.Test.YbulkemgParts
namespace Go.Proofs.Ybulkemg

/-- The lines below i that class c owns. -/
def ls (ow : Nat → Nat) (c i : Nat) : List Nat := (List.range i).filter fun j => ow j == c
theorem ls_succ (ow : Nat → Nat) (c i : Nat) : ls ow c (i + 1) = if ow i = c then ls ow c i ++ [i] else ls ow c i := by
  unfold ls
  rw [List.range_succ, List.filter_append]
  by_cases h : ow i = c
  · rw [if_pos h]; simp [h]
  · rw [if_neg h]; simp [h]
theorem mem_ls {ow : Nat → Nat} {c i j : Nat} : j ∈ ls ow c i ↔ j < i ∧ ow j = c := by simp [ls]
theorem ls_up (ow : Nat → Nat) (c i : Nat) : (ls ow c i).Pairwise (· < ·) := by
  unfold ls
  exact List.Pairwise.filter _ List.pairwise_lt_range
theorem ls_length_le (ow : Nat → Nat) (c i : Nat) : (ls ow c i).length ≤ i := by
  unfold ls
  have := List.length_filter_le (fun j => ow j == c) (List.range i)
  simpa using this
/-- Where line i lies in its class. -/
theorem ls_at {ow : Nat → Nat} {i : Nat} : ∀ {n : Nat}, i < n → (ls ow (ow i) n)[(ls ow (ow i) i).length]? = some i
  | 0, h => by omega
  | n + 1, h => by
    rw [ls_succ]
    by_cases e : i = n
    · subst e
      rw [if_pos rfl, List.getElem?_append_right (Nat.le_refl _), Nat.sub_self]
      rfl
    · have ih := ls_at (ow := ow) (i := i) (n := n) (by omega)
      have hl := (List.getElem?_eq_some_iff.1 ih).1
      by_cases h2 : ow n = ow i
      · rw [if_pos h2, List.getElem?_append_left hl]
        exact ih
      · rw [if_neg h2]
        exact ih
theorem pair_get {l : List Nat} (h : l.Pairwise (· < ·)) {j k x y : Nat} (hj : l[j]? = some x) (hk : l[k]? = some y) (hlt : j < k) : x < y := by
  obtain ⟨h1, rfl⟩ := List.getElem?_eq_some_iff.1 hj
  obtain ⟨h2, rfl⟩ := List.getElem?_eq_some_iff.1 hk
  exact List.pairwise_iff_getElem.1 h j k h1 h2 hlt
theorem pair_inj {l : List Nat} (h : l.Pairwise (· < ·)) {j k x : Nat} (hj : l[j]? = some x) (hk : l[k]? = some x) : j = k := by
  rcases Nat.lt_trichotomy j k with h1 | h1 | h1
  · have := pair_get h hj hk h1; omega
  · exact h1
  · have := pair_get h hk hj h1; omega

/-- The classes below c that own something. -/
def rs (ow : Nat → Nat) (n c : Nat) : List Nat := (List.range c).filter fun c => decide (0 < (ls ow c n).length)
theorem rs_succ (ow : Nat → Nat) (n c : Nat) : rs ow n (c + 1) = if 0 < (ls ow c n).length then rs ow n c ++ [c] else rs ow n c := by
  unfold rs
  rw [List.range_succ, List.filter_append]
  by_cases h : 0 < (ls ow c n).length
  · rw [if_pos h]; simp [h]
  · rw [if_neg h]
    have h0 : (ls ow c n).length = 0 := by omega
    simp [h0]
theorem rs_length_le (ow : Nat → Nat) (n c : Nat) : (rs ow n c).length ≤ c := by
  unfold rs
  have := List.length_filter_le (fun c => decide (0 < (ls ow c n).length)) (List.range c)
  simpa using this
theorem mem_rs {ow : Nat → Nat} {n c d : Nat} : d ∈ rs ow n c ↔ d < c ∧ 0 < (ls ow d n).length := by simp [rs]
theorem rs_up (ow : Nat → Nat) (n c : Nat) : (rs ow n c).Pairwise (· < ·) := by
  unfold rs
  exact List.Pairwise.filter _ List.pairwise_lt_range

/-- The runs that the law lays. -/
def dealt (ow : Nat → Nat) (n c : Nat) (fs : Nat → Nat) : Rs where
  m := (rs ow n c).length
  F := fun r => fs ((rs ow n c).getD r 0)
  N := fun r => (ls ow ((rs ow n c).getD r 0) n).length
  A := fun r j => ((ls ow ((rs ow n c).getD r 0) n).getD j 0 : Nat)

theorem rs_get {ow : Nat → Nat} {n c r : Nat} (h : r < (rs ow n c).length) : (rs ow n c)[r]? = some ((rs ow n c).getD r 0) := by
  rw [List.getD_eq_getElem?_getD, List.getElem?_eq_getElem h]; rfl
theorem ls_get {ow : Nat → Nat} {c n j : Nat} (h : j < (ls ow c n).length) : (ls ow c n)[j]? = some ((ls ow c n).getD j 0) := by
  rw [List.getD_eq_getElem?_getD, List.getElem?_eq_getElem h]; rfl

theorem dealt_ok {ow : Nat → Nat} {n k : Nat} {fs : Nat → Nat} (hk : k ≤ 4) (hn : n ≤ 1024) (hf : ∀ c, c < k → 0 < (ls ow c n).length → fs c < (ls ow c n).length) : (dealt ow n k fs).Ok where
  m4 := Nat.le_trans (rs_length_le ow n k) hk
  fn := fun r hr => by
    have h1 := List.mem_of_getElem? (rs_get hr)
    obtain ⟨h2, h3⟩ := mem_rs.1 h1
    exact hf _ h2 h3
  len := fun r _ => Nat.le_trans (ls_length_le _ _ _) hn
  up := fun r j l _ hjl hl => by
    have := pair_get (ls_up ow _ n) (ls_get (Nat.lt_trans hjl hl)) (ls_get hl) hjl
    show ((_ : Nat) : Int) < ((_ : Nat) : Int)
    omega
  apart := fun r s j l hr hs hne hj hl heq => by
    have h1 := (mem_ls.1 (List.mem_of_getElem? (ls_get hj))).2
    have h2 := (mem_ls.1 (List.mem_of_getElem? (ls_get hl))).2
    have h3 : (ls ow ((rs ow n k).getD r 0) n).getD j 0 = (ls ow ((rs ow n k).getD s 0) n).getD l 0 := by
      have : (((ls ow ((rs ow n k).getD r 0) n).getD j 0 : Nat) : Int) = ((ls ow ((rs ow n k).getD s 0) n).getD l 0 : Nat) := heq
      omega
    rw [h3, h2] at h1
    have e1 := rs_get hr
    have e2 := rs_get hs
    rw [h1] at e2
    exact hne (pair_inj (rs_up ow n k) e1 e2)
  top := fun r j _ hj => by
    have h1 := (mem_ls.1 (List.mem_of_getElem? (ls_get hj))).1
    show ((_ : Nat) : Int) < _
    omega

/-- What the law wants. -/
def want (ow : Nat → Nat) (fs : Nat → Nat) (i : Nat) : List Nat := (List.range i).filter fun j => decide (fs (ow j) ≤ (ls ow (ow j) j).length)
theorem want_succ (ow fs : Nat → Nat) (i : Nat) : want ow fs (i + 1) = if fs (ow i) ≤ (ls ow (ow i) i).length then want ow fs i ++ [i] else want ow fs i := by
  unfold want
  rw [List.range_succ, List.filter_append]
  by_cases h : fs (ow i) ≤ (ls ow (ow i) i).length
  · rw [if_pos h]; simp [h]
  · rw [if_neg h]
    simp [h]

/-- A strictly rising list is told by its members. -/
theorem rising_eq : ∀ (l l' : List Int), l.Pairwise (· < ·) → l'.Pairwise (· < ·) → (∀ x, x ∈ l ↔ x ∈ l') → l = l'
  | [], [], _, _, _ => rfl
  | [], b :: l', _, _, h => by have := (h b).2 (by simp); simp at this
  | a :: l, [], _, _, h => by have := (h a).1 (by simp); simp at this
  | a :: l, b :: l', h1, h2, h => by
    rw [List.pairwise_cons] at h1 h2
    have hab : a = b := by
      have ha := (h a).1 (by simp)
      have hb := (h b).2 (by simp)
      rcases List.mem_cons.1 ha with e | e
      · exact e
      · rcases List.mem_cons.1 hb with e2 | e2
        · exact e2.symm
        · have p1 := h2.1 a e
          have p2 := h1.1 b e2
          omega
    subst hab
    rw [rising_eq l l' h1.2 h2.2 ?_]
    intro x
    constructor
    · intro hx
      have := (h x).1 (List.mem_cons_of_mem _ hx)
      rcases List.mem_cons.1 this with e | e
      · have := h1.1 x hx; omega
      · exact e
    · intro hx
      have := (h x).2 (List.mem_cons_of_mem _ hx)
      rcases List.mem_cons.1 this with e | e
      · have := h2.1 x hx; omega
      · exact e

theorem told_want {ow : Nat → Nat} {n k : Nat} {fs : Nat → Nat} (how : ∀ i, i < n → ow i < k) {ps : List Pt} (h : Told (dealt ow n k fs) ps) : lines (dealt ow n k fs) ps = (want ow fs n).map fun i => ((i : Nat) : Int) := by
  refine rising_eq _ _ h.sorted ?_ ?_
  · rw [List.pairwise_map]
    unfold want
    refine List.Pairwise.imp ?_ (List.Pairwise.filter _ List.pairwise_lt_range)
    intro a b hab
    omega
  · intro x
    rw [h.mem, List.mem_map]
    constructor
    · rintro ⟨r, j, hr, hF, hj, rfl⟩
      have hm := ls_get hj
      obtain ⟨h1, h2⟩ := mem_ls.1 (List.mem_of_getElem? hm)
      refine ⟨_, ?_, rfl⟩
      generalize hx : (ls ow ((rs ow n k).getD r 0) n).getD j 0 = x at *
      have h3 := ls_at (ow := ow) h1
      rw [h2] at h3
      have h4 := pair_inj (ls_up ow _ n) hm h3
      unfold want
      rw [List.mem_filter]
      refine ⟨List.mem_range.2 h1, ?_⟩
      rw [h2, ← h4]
      exact decide_eq_true hF
    · rintro ⟨i, hi, rfl⟩
      unfold want at hi
      rw [List.mem_filter] at hi
      obtain ⟨h1, h2⟩ := hi
      have h1 := List.mem_range.1 h1
      have h2 := of_decide_eq_true h2
      have h3 := ls_at (ow := ow) h1
      have hl := (List.getElem?_eq_some_iff.1 h3).1
      have hmem : ow i ∈ rs ow n k := mem_rs.2 ⟨how i h1, by omega⟩
      obtain ⟨r, hr⟩ := List.mem_iff_getElem?.1 hmem
      have hrl := (List.getElem?_eq_some_iff.1 hr).1
      have hg := rs_get hrl
      rw [hr] at hg
      have hg : ow i = (rs ow n k).getD r 0 := by simpa using hg
      refine ⟨r, (ls ow (ow i) i).length, hrl, ?_, ?_, ?_⟩
      · show fs ((rs ow n k).getD r 0) ≤ _
        rw [← hg]; exact h2
      · show _ < (ls ow ((rs ow n k).getD r 0) n).length
        rw [← hg]; exact hl
      · show (i : Int) = (((ls ow ((rs ow n k).getD r 0) n).getD _ 0 : Nat) : Int)
        rw [← hg, List.getD_eq_getElem?_getD, h3]
        rfl
end Go.Proofs.Ybulkemg
