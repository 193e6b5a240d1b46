/- The plain law of 'down': it permutes the heads, and makes a heap again. -/
import Derived.Test.YbulkemgHeap
namespace Go.Proofs.Ybulkemg

theorem upd_self (f : Nat → T3) (i : Nat) : upd f i (f i) = f := by
  funext j
  unfold upd
  split
  · next h => rw [h]
  · rfl

theorem kid_lt {n i : Nat} (f : Nat → T3) (h : 2 * i + 1 < n) : kid n f i < n ∧ (kid n f i = 2 * i + 1 ∨ kid n f i = 2 * i + 2) := by
  unfold kid
  split <;> omega

theorem kid_least {n i : Nat} (f : Nat → T3) (j : Nat) (hj : j < n) (h : j = 2 * i + 1 ∨ j = 2 * i + 2) : (f (kid n f i)).1 ≤ (f j).1 := by
  unfold kid
  split
  · rcases h with rfl | rfl <;> omega
  · next hn =>
    rcases h with rfl | rfl
    · omega
    · have : ¬ (f (2 * i + 2)).1 < (f (2 * i + 1)).1 := fun h' => hn ⟨hj, h'⟩
      omega

/-- Two places changed for one another. -/
def sw (i c j : Nat) : Nat := if j = i then c else if j = c then i else j
theorem sw_sw (i c j : Nat) : sw i c (sw i c j) = j := by
  unfold sw
  by_cases h1 : j = i
  · subst h1
    by_cases h2 : c = j <;> simp [h2]
  · by_cases h2 : j = c
    · subst h2; simp [h1]
    · simp [h1, h2]
theorem sw_lt {n i c j : Nat} (hi : i < n) (hc : c < n) (hj : j < n) : sw i c j < n := by
  unfold sw
  split
  · exact hc
  · split <;> assumption
theorem upd_sw (f : Nat → T3) (x : T3) {i c : Nat} (h : c ≠ i) (j : Nat) : upd (upd f i (f c)) c x j = upd f i x (sw i c j) := by
  unfold upd sw
  by_cases h1 : j = i
  · subst h1; simp [h, Ne.symm h]
  · by_cases h2 : j = c
    · subst h2; simp [h1]
    · simp [h1, h2]

/-- 'down' moves the heads about, and loses none. -/
theorem dn_perm (n : Nat) : ∀ (g : Nat) (f : Nat → T3) (x : T3) (i : Nat), i < n → ∃ p q : Nat → Nat, (∀ j, j < n → p j < n ∧ q j < n ∧ p (q j) = j ∧ q (p j) = j) ∧ ∀ j, j < n → dn g n f x i j = upd f i x (p j)
  | 0, f, x, i, hi => ⟨id, id, fun j hj => ⟨hj, hj, rfl, rfl⟩, fun j _ => rfl⟩
  | g + 1, f, x, i, hi => by
    unfold dn
    by_cases h1 : n ≤ 2 * i + 1
    · rw [if_pos h1]; exact ⟨id, id, fun j hj => ⟨hj, hj, rfl, rfl⟩, fun j _ => rfl⟩
    · rw [if_neg h1]
      by_cases h2 : x.1 < (f (kid n f i)).1
      · rw [if_pos h2]; exact ⟨id, id, fun j hj => ⟨hj, hj, rfl, rfl⟩, fun j _ => rfl⟩
      · rw [if_neg h2]
        obtain ⟨hk, hk2⟩ := kid_lt (n := n) (i := i) f (by omega)
        obtain ⟨p, q, hpq, he⟩ := dn_perm n g (upd f i (f (kid n f i))) x (kid n f i) hk
        refine ⟨fun j => sw i (kid n f i) (p j), fun j => q (sw i (kid n f i) j), fun j hj => ?_, fun j hj => ?_⟩
        · obtain ⟨a, b, c, d⟩ := hpq j hj
          have hs := sw_lt hi hk hj
          obtain ⟨a', b', c', d'⟩ := hpq _ hs
          refine ⟨sw_lt hi hk a, b', ?_, ?_⟩
          · dsimp only; rw [c', sw_sw]
          · dsimp only; rw [sw_sw, d]
        · rw [he j hj, upd_sw f x (by omega)]

/-- Each head from b on is no greater than its children. -/
def Hp (b n : Nat) (f : Nat → T3) : Prop := ∀ p j, b ≤ p → j < n → (j = 2 * p + 1 ∨ j = 2 * p + 2) → (f p).1 ≤ (f j).1

theorem dn_heap (b n : Nat) : ∀ (g : Nat) (f : Nat → T3) (x : T3) (i : Nat), i < n → b ≤ i → n ≤ g + i →
    (∀ p j, b ≤ p → p ≠ i → j < n → (j = 2 * p + 1 ∨ j = 2 * p + 2) → (upd f i x p).1 ≤ (upd f i x j).1) →
    (∀ p j, b ≤ p → (i = 2 * p + 1 ∨ i = 2 * p + 2) → j < n → (j = 2 * i + 1 ∨ j = 2 * i + 2) → (f p).1 ≤ (f j).1) → Hp b n (dn g n f x i)
  | 0, f, x, i, hi, hb, hg, _, _ => by omega
  | g + 1, f, x, i, hi, hb, hg, H1, H2 => by
    unfold dn
    by_cases h1 : n ≤ 2 * i + 1
    · rw [if_pos h1]
      intro p j hp hj hpj
      exact H1 p j hp (by omega) hj hpj
    · rw [if_neg h1]
      by_cases h2 : x.1 < (f (kid n f i)).1
      · rw [if_pos h2]
        intro p j hp hj hpj
        by_cases e : p = i
        · subst e
          have := kid_least f j hj hpj
          unfold upd
          rw [if_pos rfl, if_neg (by omega)]
          omega
        · exact H1 p j hp e hj hpj
      · rw [if_neg h2]
        obtain ⟨hk, hk2⟩ := kid_lt (n := n) (i := i) f (by omega)
        have hl := fun j hj h => kid_least (n := n) (i := i) f j hj h
        generalize kid n f i = c at h2 hk hk2 hl ⊢
        refine dn_heap b n g _ x c hk (by omega) (by omega) ?_ ?_
        · intro p j hp hpc hj hpj
          rw [upd_sw f x (by omega), upd_sw f x (by omega)]
          unfold sw
          by_cases e : p = i
          · subst e
            rw [if_pos rfl, if_neg (by omega)]
            by_cases e2 : j = c
            · subst e2
              rw [if_pos rfl]
              unfold upd
              rw [if_neg (by omega), if_pos rfl]
              omega
            · rw [if_neg e2]
              unfold upd
              rw [if_neg (by omega), if_neg (by omega)]
              exact hl j hj hpj
          · rw [if_neg e, if_neg hpc]
            by_cases e2 : j = i
            · subst e2
              rw [if_pos rfl]
              unfold upd
              rw [if_neg (by omega), if_neg (by omega)]
              exact H2 p c hp hpj hk hk2
            · rw [if_neg e2, if_neg (by omega)]
              exact H1 p j hp e hj hpj
        · intro p j hp hpc hj hpj
          obtain rfl : p = i := by omega
          have := H1 c j (by omega) (by omega) hj hpj
          unfold upd at this ⊢
          rw [if_neg (by omega), if_neg (by omega)] at this
          rw [if_pos rfl, if_neg (by omega)]
          exact this

/-- What 'down' does to a heap whose head i alone may be out of place. -/
theorem dn_fixes {n i : Nat} (f : Nat → T3) (hi : i < n) (hn : n ≤ 4) (h : Hp (i + 1) n f) : Hp i n (dn 4 n f (f i) i) := by
  refine dn_heap i n 4 f (f i) i hi (Nat.le_refl _) (by omega) ?_ ?_
  · intro p j hp hne hj hpj
    rw [upd_self]
    exact h p j (by omega) hj hpj
  · intro p j hp hpi
    omega

/-- The top is the least. -/
theorem Hp.top {n : Nat} {f : Nat → T3} (h : Hp 0 n f) : ∀ j, j < n → (f 0).1 ≤ (f j).1 := by
  intro j
  induction j using Nat.strongRecOn with
  | _ j ih =>
    intro hj
    by_cases h0 : j = 0
    · subst h0; omega
    · have h1 := ih ((j - 1) / 2) (by omega) (by omega)
      have h2 := h ((j - 1) / 2) j (by omega) hj (by omega)
      omega
/-- What is no greater than the top's children is no greater than any but the top. -/
theorem Hp.next {n : Nat} {f : Nat → T3} (h : Hp 0 n f) {z : Int} (h1 : 1 < n → z ≤ (f 1).1) (h2 : 2 < n → z ≤ (f 2).1) : ∀ j, 1 ≤ j → j < n → z ≤ (f j).1 := by
  intro j
  induction j using Nat.strongRecOn with
  | _ j ih =>
    intro hj1 hj
    by_cases e1 : j = 1
    · subst e1; exact h1 hj
    by_cases e2 : j = 2
    · subst e2; exact h2 hj
    have h3 := ih ((j - 1) / 2) (by omega) (by omega) (by omega)
    have h4 := h ((j - 1) / 2) j (by omega) hj (by omega)
    omega
end Go.Proofs.Ybulkemg
