/- A table of locksets as a list of cells: four cells an entry. -/
import Derived.Test.YbulkemgThread
import Derived.WalkSmall
import Derived.Deep.Draws
namespace Go.Proofs.Ybulkemg
open Go.RowKit

/-- Entry j: no map, the set f j, the size s j, no slice. -/
def Lk (xs : List Value) (n : Nat) (f s : Nat → Int) : Prop :=
  xs.length = n * 4 ∧ ∀ j, j < n → xs[j * 4]? = some (.map none) ∧ xs[j * 4 + 1]? = some (.int .i32 (f j)) ∧ xs[j * 4 + 2]? = some (.int .i64 (s j)) ∧ xs[j * 4 + 3]? = some (.slice none 0 0)

theorem Lk.congr {xs : List Value} {n : Nat} {f s f' s' : Nat → Int} (h : Lk xs n f s) (hf : ∀ j, j < n → f j = f' j) (hs : ∀ j, j < n → s j = s' j) : Lk xs n f' s' := by
  refine ⟨h.1, fun j hj => ?_⟩
  rw [← hf j hj, ← hs j hj]
  exact h.2 j hj

theorem Lk_nil (f s : Nat → Int) : Lk [] 0 f s := ⟨rfl, fun j hj => by omega⟩

theorem Lk_made (n : Nat) : Lk (madeCells #[.map none, .int .i32 0, .int .i64 0, .slice none 0 0] (n * 4)).toList n (fun _ => 0) (fun _ => 0) := by
  have key : ∀ i, i < n * 4 → (madeCells #[.map none, .int .i32 0, .int .i64 0, .slice none 0 0] (n * 4)).toList[i]? = some ((#[Value.map none, .int .i32 0, .int .i64 0, .slice none 0 0] : Array Value)[i % 4]!) := by
    intro i hi
    simp [madeCells, hi]
  refine ⟨by simp [size_madeCells], fun j hj => ⟨?_, ?_, ?_, ?_⟩⟩
  · rw [key _ (by omega), show j * 4 % 4 = 0 by omega]; rfl
  · rw [key _ (by omega), show (j * 4 + 1) % 4 = 1 by omega]; rfl
  · rw [key _ (by omega), show (j * 4 + 2) % 4 = 2 by omega]; rfl
  · rw [key _ (by omega), show (j * 4 + 3) % 4 = 3 by omega]; rfl

theorem Lk.put {xs : List Value} {n : Nat} {f s : Nat → Int} (h : Lk xs n f s) (k : Nat) (hk : k < n) (x y : Int) :
    Lk ((((xs.set (k * 4) (.map none)).set (k * 4 + 1) (.int .i32 x)).set (k * 4 + 2) (.int .i64 y)).set (k * 4 + 3) (.slice none 0 0)) n (fun j => if j = k then x else f j) (fun j => if j = k then y else s j) := by
  have hl := h.1
  refine ⟨by simpa using hl, fun j hj => ?_⟩
  obtain ⟨h0, h1, h2, h3⟩ := h.2 j hj
  by_cases e : j = k
  · subst e
    simp only [if_true]
    refine ⟨?_, ?_, ?_, ?_⟩
    · rw [List.getElem?_set_ne (by omega), List.getElem?_set_ne (by omega), List.getElem?_set_ne (by omega), List.getElem?_set_self (by omega)]
    · rw [List.getElem?_set_ne (by omega), List.getElem?_set_ne (by omega), List.getElem?_set_self (by simp; omega)]
    · rw [List.getElem?_set_ne (by omega), List.getElem?_set_self (by simp; omega)]
    · rw [List.getElem?_set_self (by simp; omega)]
  · simp only [e, if_false]
    refine ⟨?_, ?_, ?_, ?_⟩
    all_goals
      rw [List.getElem?_set_ne (by omega), List.getElem?_set_ne (by omega), List.getElem?_set_ne (by omega), List.getElem?_set_ne (by omega)]
      assumption

theorem Z_at (m : Nat) : ∀ j, j < m → (Z m)[j * 4]? = some (.map none) ∧ (Z m)[j * 4 + 1]? = some (.int .i32 0) ∧ (Z m)[j * 4 + 2]? = some (.int .i64 0) ∧ (Z m)[j * 4 + 3]? = some (.slice none 0 0) := by
  induction m with
  | zero => intro j hj; omega
  | succ m ih =>
    intro j hj
    have hl := Z_length m
    by_cases e : j < m
    · obtain ⟨h0, h1, h2, h3⟩ := ih j e
      refine ⟨?_, ?_, ?_, ?_⟩
      all_goals
        show (Z m ++ zc)[_]? = _
        rw [List.getElem?_append_left (by omega)]
        assumption
    · obtain rfl : j = m := by omega
      refine ⟨?_, ?_, ?_, ?_⟩
      · show (Z j ++ zc)[_]? = _
        rw [List.getElem?_append_right (by omega), hl, show j * 4 - j * 4 = 0 by omega]; rfl
      · show (Z j ++ zc)[_]? = _
        rw [List.getElem?_append_right (by omega), hl, show j * 4 + 1 - j * 4 = 1 by omega]; rfl
      · show (Z j ++ zc)[_]? = _
        rw [List.getElem?_append_right (by omega), hl, show j * 4 + 2 - j * 4 = 2 by omega]; rfl
      · show (Z j ++ zc)[_]? = _
        rw [List.getElem?_append_right (by omega), hl, show j * 4 + 3 - j * 4 = 3 by omega]; rfl

theorem Lk.grow {xs : List Value} {n : Nat} {f s : Nat → Int} (h : Lk xs n f s) (m : Nat) :
    Lk (xs ++ Z m) (n + m) (fun j => if j < n then f j else 0) (fun j => if j < n then s j else 0) := by
  have hl := h.1
  have hz := Z_length m
  refine ⟨by simp [hl, hz]; omega, fun j hj => ?_⟩
  by_cases e : j < n
  · obtain ⟨h0, h1, h2, h3⟩ := h.2 j e
    simp only [e, if_true]
    refine ⟨?_, ?_, ?_, ?_⟩
    all_goals
      rw [List.getElem?_append_left (by omega)]
      assumption
  · obtain ⟨h0, h1, h2, h3⟩ := Z_at m (j - n) (by omega)
    simp only [e, if_false]
    refine ⟨?_, ?_, ?_, ?_⟩
    · rw [List.getElem?_append_right (by omega), hl, show j * 4 - n * 4 = (j - n) * 4 by omega]; assumption
    · rw [List.getElem?_append_right (by omega), hl, show j * 4 + 1 - n * 4 = (j - n) * 4 + 1 by omega]; assumption
    · rw [List.getElem?_append_right (by omega), hl, show j * 4 + 2 - n * 4 = (j - n) * 4 + 2 by omega]; assumption
    · rw [List.getElem?_append_right (by omega), hl, show j * 4 + 3 - n * 4 = (j - n) * 4 + 3 by omega]; assumption

theorem St.alloc {b n : Nat} {w : World} {v : Value} {xs : List Value} (h : St b w v n xs) (o : Obj) : St b (w.alloc o) v n xs where
  cell := (World.cell?_alloc_past _ _ _ h.lt).trans h.cell
  free := (World.frozen?_alloc_past _ _ _ h.lt).trans h.free
  own := h.own.alloc o
  lt := by have := h.lt; simp; omega
theorem St.drew {b n : Nat} {w : World} {v : Value} {xs : List Value} (h : St b w v n xs) : St b w.drew v n xs := ⟨h.cell, h.free, h.own.drew, h.lt⟩
theorem St.drewN {b n : Nat} {w : World} {v : Value} {xs : List Value} (h : St b w v n xs) (m : Nat) : St b (w.drewN m) v n xs := ⟨h.cell, h.free, h.own, h.lt⟩
end Go.Proofs.Ybulkemg
