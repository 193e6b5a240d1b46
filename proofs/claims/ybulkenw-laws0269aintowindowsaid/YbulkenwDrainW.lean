/- The contracts of drainOne (15) and drain (7) into a window. -/
import Derived.Test.YbulkenwDrain
import Derived.Test.YbulkenwSlide
namespace Go.Proofs.Ybulkenw
open Go.RowKit

/-- One stripe's word into the window. -/
def WS.one (k : Nat) (b c : Int) (σ : WS) : WS := if 0 < c then σ.add k b c else σ
/-- The words of the first m stripes, in order. -/
def WS.all (k : Nat) (B C : Nat → Int) (σ : WS) : Nat → WS
  | 0 => σ
  | m + 1 => WS.one k (B m) (C m) (WS.all k B C σ m)

theorem neq_ptr_nil (a : Addr) (w : World) : (binOp .neq 43 (.pointer (some a)) (.pointer none)).run Yba.prog w = .ok (.bool true) w := by
  rw [run_neq_pointer_nil w 43 (some a) (by kernel_rfl)]; rfl

set_option maxRecDepth 100000 in
set_option maxHeartbeats 400000 in
theorem drainOne_win (s o p r k : Nat) (B C y : Int) (σ : WS) (w : World) (hc : w.cell? ⟨s, o, none⟩ = some (.int .u64 (wd B C))) (hz : w.frozen? ⟨s, o, none⟩ = false)
    (h0 : 0 ≤ B) (h1 : B ≤ 65535) (h2 : 0 ≤ C) (h3 : C ≤ 65535) (hw : Win w p r k σ) (n1 : s ≠ p) (n2 : s ≠ r) :
    Calls Yba.prog 15 #[.pointer (some ⟨s, o, none⟩), .pointer (some ⟨p, 0, none⟩), .int .u64 y] w fun e w' => e = .returned (.tuple #[]) ∧ Win w' p r k (σ.one k B C) ∧ Tch p r (w.setCell ⟨s, o, none⟩ (.int .u64 y)) w' := by
  have e1 := and_word B C h0 h1 h2 h3
  have e2 := div_word B C h2 h3
  obtain ⟨d1, d2⟩ := wd_bound B C h0 h1 h2 h3
  have hq := neq_ptr_nil ⟨p, 0, none⟩
  have hw1 : Win (w.setCell ⟨s, o, none⟩ (.int .u64 y)) p r k σ := hw.far (heap_other _ _ _ _ n1) (heap_other _ _ _ _ n2)
  go_enter Yba.func15, Yba.ntmps15
  go_wp2_with fail
  refine (swap_any s o _ y w hc hz).mono ?_
  rintro e w1 ⟨rfl, rfl⟩
  by_cases hp : 0 < C
  · go_wp2_with fail
    refine (add_any p r k B C σ _ hw1 h0 h1 h2 h3).mono ?_
    rintro e w2 ⟨rfl, hw2, ht2⟩
    go_wp2
    go_end0
    exact ⟨rfl, by unfold WS.one; rw [if_pos hp]; exact hw2, ht2⟩
  · go_wp2
    go_end0
    exact ⟨rfl, by unfold WS.one; rw [if_neg (by omega)]; exact hw1, Tch.refl _ _ _⟩

/-- From w to w' the blocks in S alone have been written. -/
structure Kp (S : Nat → Prop) (w w' : World) : Prop where
  os : w'.os = w.os
  tape : w'.tape = w.tape
  output : w'.output = w.output
  size : w.heap.size ≤ w'.heap.size
  block : ∀ k, k < w.heap.size → ¬ S k → w'.heap[k]? = w.heap[k]?
theorem Kp.refl (S : Nat → Prop) (w : World) : Kp S w w := ⟨rfl, rfl, rfl, Nat.le_refl _, fun _ _ _ => rfl⟩
theorem Kp.trans {S : Nat → Prop} {a b c : World} (h : Kp S a b) (k : Kp S b c) : Kp S a c :=
  ⟨k.os.trans h.os, k.tape.trans h.tape, k.output.trans h.output, Nat.le_trans h.size k.size, fun i hi h1 => (k.block i (Nat.lt_of_lt_of_le hi h.size) h1).trans (h.block i hi h1)⟩
theorem Kp.set {S : Nat → Prop} {a w : World} (h : Kp S a w) {x : Addr} (hx : S x.block) (v : Value) : Kp S a (w.setCell x v) :=
  h.trans ⟨rfl, rfl, rfl, by simp, fun k _ h1 => Below.heap_setCell _ _ _ _ (fun e => h1 (e ▸ hx))⟩
theorem Kp.tch {S : Nat → Prop} {a w w' : World} {p r : Nat} (h : Kp S a w) (t : Tch p r w w') (hp : S p) (hr : S r) : Kp S a w' :=
  h.trans ⟨t.os, t.tape, t.output, t.size, fun k hk h1 => t.block k hk (fun e => h1 (e ▸ hp)) (fun e => h1 (e ▸ hr))⟩
theorem Kp.below {S : Nat → Prop} {w w' : World} (h : Kp S w w') {B : Nat} (hS : ∀ k, S k → B ≤ k) (hB : B ≤ w.heap.size) : Below B w w' :=
  ⟨h.os, h.tape, h.output, h.size, fun k hk => h.block k (by omega) (fun e => by have := hS k e; omega)⟩

theorem Tch.keepB {p r b : Nat} {w w' : World} (t : Tch p r w w') (hb : b < w.heap.size) (h1 : b ≠ p) (h2 : b ≠ r) : w'.heap[b]? = w.heap[b]? := t.block b hb h1 h2

theorem lt_cell {w : World} {b o : Nat} {v : Value} (h : w.cell? ⟨b, o, none⟩ = some v) : b < w.heap.size := World.block_lt_of_cell? w _ h

set_option maxRecDepth 100000 in
set_option maxHeartbeats 400000 in
theorem drain_win_one (b p r k : Nat) (B C y : Int) (σ : WS) (w : World) (hs : Ss1 w b (wd B C)) (h0 : 0 ≤ B) (h1 : B ≤ 65535) (h2 : 0 ≤ C) (h3 : C ≤ 65535) (hw : Win w p r k σ) (n1 : b ≠ p) (n2 : b ≠ r) :
    Calls Yba.prog 7 #[.pointer (some ⟨b, 0, none⟩), .pointer (some ⟨p, 0, none⟩), .int .u64 y] w fun e w' => e = .returned (.tuple #[]) ∧ Ss1 w' b y ∧ Win w' p r k (σ.one k B C) ∧ Kp (fun j => j = b ∨ j = p ∨ j = r) w w' := by
  go_enter Yba.func7, Yba.ntmps7
  go_wp2_with fail
  refine (drainOne_win b 0 p r k B C y σ w hs.c0 hs.z0 h0 h1 h2 h3 hw n1 n2).mono ?_
  rintro e w1 ⟨rfl, hw1, ht1⟩
  have hs1 : Ss1 w1 b y := (hs.base y).far (ht1.keepB (by simpa using lt_cell hs.c0) n1 n2)
  have h6 := hs1.c6
  go_wp2
  go_end0
  exact ⟨rfl, hs1, hw1, ((Kp.refl _ w).set (.inl rfl) _).tch ht1 (.inr (.inl rfl)) (.inr (.inr rfl))⟩

set_option maxRecDepth 100000 in
set_option maxHeartbeats 400000 in
theorem drain_win_many (b hd row n p r k : Nat) (B C : Nat → Int) (y : Int) (σ : WS) (w : World) (hs : Ssn w b hd row n (fun i => wd (B i) (C i))) (hbd : ∀ i, 0 ≤ B i ∧ B i ≤ 65535 ∧ 0 ≤ C i ∧ C i ≤ 65535) (hw : Win w p r k σ) (hn8 : n ≤ 8) (hn2 : 2 ≤ n)
    (n1 : b ≠ p) (n2 : b ≠ r) (n3 : hd ≠ p) (n4 : hd ≠ r) (n5 : row ≠ p) (n6 : row ≠ r) :
    Calls Yba.prog 7 #[.pointer (some ⟨b, 0, none⟩), .pointer (some ⟨p, 0, none⟩), .int .u64 y] w fun e w' => e = .returned (.tuple #[]) ∧ Ssn w' b hd row n (fun _ => y) ∧ Win w' p r k (σ.all k B C (n + 1)) ∧ Kp (fun j => j = b ∨ j = row ∨ j = p ∨ j = r) w w' := by
  go_enter Yba.func7, Yba.ntmps7
  go_wp2_with fail
  obtain ⟨q1, q2, q3, q4⟩ := hbd 0
  refine (drainOne_win b 0 p r k _ _ y σ w hs.c0 hs.z0 q1 q2 q3 q4 hw n1 n2).mono ?_
  rintro e w1 ⟨rfl, hw1, ht1⟩
  have lb := lt_cell hs.c0
  have lh := lt_cell hs.ch
  have lr := lt_cell (hs.cr 0 (by omega))
  have hs1 := (hs.base y).far (ht1.keepB (by simpa using lb) n1 n2) (ht1.keepB (by simpa using lh) n3 n4) (ht1.keepB (by simpa using lr) n5 n6)
  have hk1 : Kp (fun j => j = b ∨ j = row ∨ j = p ∨ j = r) w w1 := ((Kp.refl _ w).set (.inl rfl) _).tch ht1 (.inr (.inr (.inl rfl))) (.inr (.inr (.inr rfl)))
  clear hs q1 q2 q3 q4 hw ht1 lb lh lr
  have h6 := hs1.c6
  have hh := hs1.ch
  go_wp2
  clear h6 hh
  go_loopg [25] n (fun g s25 wr => ∃ q, q ≤ n ∧ g = n - q ∧ s25 = .int .i64 (q : Nat) ∧ Ssn wr b hd row n (fun i => if i ≤ q then y else wd (B i) (C i)) ∧ Win wr p r k (σ.all k B C (q + 1)) ∧ Kp (fun j => j = b ∨ j = row ∨ j = p ∨ j = r) w wr)
  case atStart => exact ⟨0, by omega, by omega, rfl, hs1.congr (by intro i _; by_cases e : i = 0 <;> simp [e]), hw1, hk1⟩
  case round =>
    clear hs1 hk1 hw1
    obtain ⟨q, hq, hg, rfl, hss, hww, hkp⟩ := hrel
    have HG := hide hg
    clear hg
    have h6 := hss.c6
    have hh := hss.ch
    by_cases hlt : q < n
    · have hlt' : (q : Int) < (n : Int) := by omega
      go_wp2_with fail
      obtain ⟨q1, q2, q3, q4⟩ := hbd (q + 1)
      have hc := hss.cr q hlt
      rw [if_neg (by omega)] at hc
      refine (drainOne_win row (q * 121) p r k _ _ y _ wr hc (hss.zr q hlt) q1 q2 q3 q4 hww n5 n6).mono ?_
      rintro e w2 ⟨rfl, hw2, ht2⟩
      have lb := lt_cell hss.c0
      have lh := lt_cell hss.ch
      have lr := lt_cell hc
      have hs2 := (hss.stripe q hlt y).far (ht2.keepB (by simpa using lb) n1 n2) (ht2.keepB (by simpa using lh) n3 n4) (ht2.keepB (by simpa using lr) n5 n6)
      have hk2 : Kp (fun j => j = b ∨ j = row ∨ j = p ∨ j = r) w w2 := (hkp.set (.inr (.inl rfl)) _).tch ht2 (.inr (.inr (.inl rfl))) (.inr (.inr (.inr rfl)))
      clear h6 hh q1 q2 q3 q4 hc hss hww ht2 lb lh lr
      go_wp2
      go_roundg (n - (q + 1))
      case measure => have := HG.out; omega
      case rel =>
        refine ⟨q + 1, by omega, rfl, by go_num, hs2.congr ?_, hw2, hk2⟩
        intro i _
        by_cases e : i = q + 1
        · subst e; simp
        · by_cases e2 : i ≤ q
          · simp [e, e2, show i ≤ q + 1 by omega]
          · simp [e, e2, show ¬ i ≤ q + 1 by omega]
    · have hlt' : ¬ (q : Int) < (n : Int) := by omega
      have hqe : q = n := by omega
      go_wp2
      go_end0
      subst hqe
      exact ⟨rfl, hss.congr (by intro i hi; simp; intro h; omega), hww, hkp⟩
end Go.Proofs.Ybulkenw
