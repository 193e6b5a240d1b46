/- One word for a set of one stripe and a set with cells: build, drain and held, whatever the set. -/
import Derived.Test.YbulkenwDrainW
import Derived.Test.YbulkenwNil
namespace Go.Proofs.Ybulkenw
open Go.RowKit

/-- A set of m stripes at block b holds the words f; it lies in the blocks F, of which a drain writes G. -/
def Sett (w : World) (b m : Nat) (f : Nat → Int) (F G : Nat → Prop) : Prop :=
  (m = 1 ∧ Ss1 w b (f 0) ∧ F = (fun j => j = b) ∧ G = (fun j => j = b)) ∨
  ∃ hd row n, m = n + 1 ∧ 2 ≤ n ∧ n ≤ 8 ∧ Ssn w b hd row n f ∧ F = (fun j => j = b ∨ j = hd ∨ j = row) ∧ G = (fun j => j = b ∨ j = row)

theorem Sett.far {w w' : World} {b m : Nat} {f : Nat → Int} {F G : Nat → Prop} (h : Sett w b m f F G) (hk : ∀ j, F j → w'.heap[j]? = w.heap[j]?) : Sett w' b m f F G := by
  rcases h with ⟨h1, h2, h3, h4⟩ | ⟨hd, row, n, h1, h2, h3, h4, h5, h6⟩
  · exact .inl ⟨h1, h2.far (hk b (by rw [h3])), h3, h4⟩
  · exact .inr ⟨hd, row, n, h1, h2, h3, h4.far (hk b (by rw [h5]; exact .inl rfl)) (hk hd (by rw [h5]; exact .inr (.inl rfl))) (hk row (by rw [h5]; exact .inr (.inr rfl))), h5, h6⟩

theorem Sett.lt {w : World} {b m : Nat} {f : Nat → Int} {F G : Nat → Prop} (h : Sett w b m f F G) : ∀ j, F j → j < w.heap.size := by
  rcases h with ⟨h1, h2, h3, h4⟩ | ⟨hd, row, n, h1, h2, h3, h4, h5, h6⟩
  · intro j hj
    rw [h3] at hj
    rw [hj]
    exact lt_cell h2.c0
  · intro j hj
    rw [h5] at hj
    rcases hj with rfl | rfl | rfl
    · exact lt_cell h4.c0
    · exact lt_cell h4.ch
    · exact lt_cell (h4.cr 0 (by omega))

theorem build_any (k : Nat) (hk8 : k ≤ 255) (a1 : Option Addr) (len1 cap1 : Nat) (z1 : List Int) (a2 : Option Addr) (len2 cap2 : Nat) (z2 : List Int) (w : World)
    (i1 : InRow w a1 len1 cap1 z1) (i2 : InRow w a2 len2 cap2 z2) :
    Calls Yba.prog 6 #[.int .u8 k, .slice a1 len1 cap1, .slice a2 len2 cap2] w fun e w' => ∃ b og m F G, e = .returned (.tuple #[.pointer (some ⟨b, 0, none⟩), .slice (some ⟨og, 0, none⟩) m m, .bool true]) ∧
      Sett w' b m (fun i => wd (el z1 len1 i) (el z2 len2 i)) F G ∧ (∀ j, G j → w.heap.size ≤ j) ∧ (∀ i, i < m → w'.cell? ⟨og, i, none⟩ = some (.int .u64 (wd (el z1 len1 i) (el z2 len2 i)))) ∧ og < w'.heap.size ∧ 1 ≤ m ∧ m ≤ 9 ∧ Below w.heap.size w w' := by
  by_cases h0 : (k : Int) % 4 = 0
  · refine (build_one k h0 hk8 a1 len1 cap1 z1 a2 len2 cap2 z2 w i1 i2).mono ?_
    rintro e w1 ⟨b, og, rfl, hbo⟩
    obtain ⟨xs, ho, hx⟩ := hbo.own
    refine ⟨b, og, 1, _, _, rfl, .inl ⟨rfl, by simpa using hbo.ss, rfl, rfl⟩, ?_, ?_, (ho.lt og rfl).2, by omega, by omega, hbo.below⟩
    · intro j hj; rw [hj]; exact hbo.l1
    · intro i hi
      obtain rfl : i = 0 := by omega
      rw [ho.cellAt 0 (by omega)]
      exact hx 0 (by omega)
  · obtain ⟨n, hn⟩ : ∃ n : Nat, ((k : Int) % 4 = 1 ∧ n = 2) ∨ ((k : Int) % 4 = 2 ∧ n = 4) ∨ ((k : Int) % 4 = 3 ∧ n = 8) := by
      rcases (show (k : Int) % 4 = 1 ∨ (k : Int) % 4 = 2 ∨ (k : Int) % 4 = 3 by omega) with h | h | h
      · exact ⟨2, .inl ⟨h, rfl⟩⟩
      · exact ⟨4, .inr (.inl ⟨h, rfl⟩)⟩
      · exact ⟨8, .inr (.inr ⟨h, rfl⟩)⟩
    have hn2 : 2 ≤ n ∧ n ≤ 8 := by omega
    refine (build_many k n hn hk8 a1 len1 cap1 z1 a2 len2 cap2 z2 w i1 i2).mono ?_
    rintro e w1 ⟨b, hd, row, og, rfl, hbs⟩
    obtain ⟨xs, ho, hx⟩ := hbs.own
    refine ⟨b, og, n + 1, _, _, rfl, .inr ⟨hd, row, n, rfl, hn2.1, hn2.2, hbs.ss.congr (by intro i hi; simp; intro h; omega), rfl, rfl⟩, ?_, ?_, (ho.lt og rfl).2, by omega, by omega, hbs.below⟩
    · intro j hj
      rcases hj with rfl | rfl
      · exact hbs.l1
      · exact hbs.l3
    · intro i hi
      rw [ho.cellAt i (by omega)]
      exact hx i hi

theorem drain_any (b m p r k : Nat) (B C : Nat → Int) (y : Int) (σ : WS) (w : World) (F G : Nat → Prop) (hs : Sett w b m (fun i => wd (B i) (C i)) F G) (hbd : ∀ i, 0 ≤ B i ∧ B i ≤ 65535 ∧ 0 ≤ C i ∧ C i ≤ 65535) (hw : Win w p r k σ) (hp : ¬ F p) (hr : ¬ F r) :
    Calls Yba.prog 7 #[.pointer (some ⟨b, 0, none⟩), .pointer (some ⟨p, 0, none⟩), .int .u64 y] w fun e w' => e = .returned (.tuple #[]) ∧ Sett w' b m (fun _ => y) F G ∧ Win w' p r k (σ.all k B C m) ∧ Kp (fun j => G j ∨ j = p ∨ j = r) w w' := by
  rcases hs with ⟨rfl, h2, h3, h4⟩ | ⟨hd, row, n, rfl, h2, h3, h4, h5, h6⟩
  · subst h3
    subst h4
    obtain ⟨q1, q2, q3, q4⟩ := hbd 0
    refine (drain_win_one b p r k _ _ y σ w h2 q1 q2 q3 q4 hw (fun e => hp e.symm) (fun e => hr e.symm)).mono ?_
    rintro e w1 ⟨rfl, g1, g2, g3⟩
    exact ⟨rfl, .inl ⟨rfl, g1, rfl, rfl⟩, g2, g3⟩
  · subst h5
    subst h6
    refine (drain_win_many b hd row n p r k B C y σ w h4 hbd hw h3 h2 (fun e => hp (.inl e.symm)) (fun e => hr (.inl e.symm)) (fun e => hp (.inr (.inl e.symm))) (fun e => hr (.inr (.inl e.symm))) (fun e => hp (.inr (.inr e.symm))) (fun e => hr (.inr (.inr e.symm)))).mono ?_
    rintro e w1 ⟨rfl, g1, g2, g3⟩
    refine ⟨rfl, .inr ⟨hd, row, n, rfl, h2, h3, g1, rfl, rfl⟩, g2, ⟨g3.os, g3.tape, g3.output, g3.size, fun j hj hn => g3.block j hj (fun e => hn ?_)⟩⟩
    rcases e with e | e | e | e
    · exact .inl (.inl e)
    · exact .inl (.inr e)
    · exact .inr (.inl e)
    · exact .inr (.inr e)

theorem held_any (b m : Nat) (y : Int) (w : World) (F G : Nat → Prop) (hs : Sett w b m (fun _ => y) F G) :
    Calls Yba.prog 8 #[.pointer (some ⟨b, 0, none⟩), .int .i64 m, .int .u64 y] w fun e w' => e = .returned (.bool true) ∧ w' = w := by
  rcases hs with ⟨rfl, h2, h3, h4⟩ | ⟨hd, row, n, rfl, h2, h3, h4, h5, h6⟩
  · exact held_one b y w h2
  · exact held_many b hd row n y _ w h4 (by omega) h2 h3
end Go.Proofs.Ybulkenw
