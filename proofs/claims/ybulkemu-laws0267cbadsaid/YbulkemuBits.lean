/- Bitfields: the contracts of New (11), Set (9), Has (7), zzs0267cbf (8). -/
import Derived.Test.YbulkemuRows
import Derived.Test.YbulkemuLaws
import Derived.Test.YbulkemuPlain
import Derived.Deep.QuietTactic
import Derived.BigQuiet
import Derived.Deep.LoopGhost
import Derived.Deep.DeepCutAuto
namespace Go.Proofs.Ybulkemu
open Go.RowKit

/-- A bitfield: block hb holds the bytes bs. -/
def Bf (w : World) (hb : Nat) (bs : List Int) : Prop := Blk w hb 5 (bs.map (Value.int .u8)) ∧ Bytes bs

theorem Bf.cell {w : World} {hb : Nat} {bs : List Int} (h : Bf w hb bs) (j : Nat) (hj : j < bs.length) : w.cell? ⟨hb, j, none⟩ = some (.int .u8 (bs.getD j 0)) := by
  rw [h.1.cell j]
  simp [hj]

theorem Bf.put {w : World} {hb : Nat} {bs : List Int} (h : Bf w hb bs) (i : Nat) : Bf ((w.setCell ⟨hb, i / 8, none⟩ (.int .u8 (orB (bs.getD (i / 8) 0) (i % 8)))).drew) hb (setAt bs i) := by
  refine ⟨?_, setAt_bytes h.2 i⟩
  have := h.1.set (i / 8) (.int .u8 (orB (bs.getD (i / 8) 0) (i % 8)))
  unfold setAt
  rw [List.map_set]
  exact this

set_option maxRecDepth 100000 in
set_option maxHeartbeats 400000 in
theorem set_any (hb nb i : Nat) (bs : List Int) (w : World) (h : Bf w hb bs) (hl : bs.length = nb) (hi : i / 8 < nb) (hi64 : i < 64) :
    Calls Yba.prog 9 #[.slice (some ⟨hb, 0, none⟩) nb nb, .int .i64 i] w fun e w' => e = .returned (.tuple #[]) ∧ w' = (w.setCell ⟨hb, i / 8, none⟩ (.int .u8 (orB (bs.getD (i / 8) 0) (i % 8)))).drew := by
  have hi' : (i : Int) / 8 < (nb : Int) := by omega
  have hc := h.cell (i / 8) (by omega)
  have hf := h.1.free (i / 8)
  obtain ⟨b0, b1⟩ := h.2.at (i / 8)
  generalize bs.getD (i / 8) 0 = x at *
  go_enter Yba.func9, Yba.ntmps9
  go_wp2
  go_region
  go_wp2
  go_end0
  exact ⟨rfl, rfl⟩

set_option maxRecDepth 100000 in
set_option maxHeartbeats 400000 in
theorem has_any (hb nb i : Nat) (bs : List Int) (w : World) (h : Bf w hb bs) (hl : bs.length = nb) (hi : i / 8 < nb) (hi64 : i < 64) :
    Calls Yba.prog 7 #[.slice (some ⟨hb, 0, none⟩) nb nb, .int .i64 i] w fun e w' => e = .returned (.bool (bit bs i)) ∧ ∃ n, w' = w.drewN n := by
  have hi' : (i : Int) / 8 < (nb : Int) := by omega
  have hc := h.cell (i / 8) (by omega)
  obtain ⟨b0, b1⟩ := h.2.at (i / 8)
  have hx : bit bs i = hasB (bs.getD (i / 8) 0) (i % 8) := rfl
  rw [hx]
  clear hx
  generalize bs.getD (i / 8) 0 = x at *
  go_enter Yba.func7, Yba.ntmps7
  go_wp2
  go_quiet (fail)
  go_wp2
  go_ret
  exact ⟨rfl, _, rfl⟩

theorem Yba.info5 : (Yba.prog.info? 5).map (fun i => (i.zero, i.size, i.bytes)) = some (some (.int .u8 0), 1, 1) := by kernel_rfl

set_option maxRecDepth 100000 in
set_option maxHeartbeats 400000 in
theorem new_any (n : Nat) (hn : n ≤ 64) (w : World) :
    Calls Yba.prog 11 #[.int .i64 n] w fun e w' => e = .returned (.slice (some ⟨w.heap.size, 0, none⟩) ((n + 7) / 8) ((n + 7) / 8)) ∧ Bf w' w.heap.size (List.replicate ((n + 7) / 8) 0) ∧ Below w.heap.size w w' := by
  obtain ⟨i, hi, hz0, hz1, hz2⟩ := info_parts Yba.info5
  go_enter Yba.func11, Yba.ntmps11
  go_wp2_with (at_make; refine wpList_make_full _ rfl (.tmp 5) (.tmp 5) 37 rfl w.heap.size 5 i (.int .u8 0) 1 Yba.underlying37 hi hz0 hz1 .i64 .i64 _ _ ((n + 7) / 8) rfl rfl (by omega) (by omega) (by rw [hz2]; omega) (by unfold maxLen; omega) (Nat.le_refl _) ?_)
  intro w1 hown hgrow
  have hbf : Bf w1 w.heap.size (List.replicate ((n + 7) / 8) 0) := by
    refine ⟨?_, bytes_zero _⟩
    rcases hown.2 with ⟨h, _⟩ | ⟨g, cap, cur, he, _, hg, _, _, hcs, htake⟩
    · simp at h
    · simp only [Value.slice.injEq, Option.some.injEq, Addr.mk.injEq, and_true, true_and] at he
      obtain ⟨rfl, rfl⟩ := he
      have hcur : cur.toList = List.replicate ((n + 7) / 8) (Value.int .u8 0) := by
        rw [List.take_of_length_le (by simp [hcs])] at htake
        rw [htake]
        exact toList_madeCells_one _ _
      unfold Blk
      rw [hg]
      simp only [List.map_replicate, ← hcur, Array.toArray_toList]
  have hb : Below w.heap.size w w1 := (Below.refl _ w).grown hgrow (Nat.le_refl _) (by simp)
  clear hown hgrow
  go_wp2
  go_ret
  exact ⟨rfl, hbf, hb⟩

/-- Bit k of a mask, in the walk's words. -/
def mb (m : Int) (k : Nat) : Bool := bits .and .u64 (m / 2 ^ k) 1 == 1

set_option maxRecDepth 100000 in
set_option maxHeartbeats 400000 in
theorem bf_any (n : Nat) (m : Int) (hn : n ≤ 64) (_h0 : 0 ≤ m) (_h1 : m ≤ 18446744073709551615) (w : World) :
    Calls Yba.prog 8 #[.int .i64 n, .int .u64 m] w fun e w' => e = .returned (.slice (some ⟨w.heap.size, 0, none⟩) ((n + 7) / 8) ((n + 7) / 8)) ∧ ∃ bs, Bf w' w.heap.size bs ∧ bs.length = (n + 7) / 8 ∧ (∀ k, k < n → bit bs k = mb m k) ∧ Below w.heap.size w w' := by
  go_enter Yba.func8, Yba.ntmps8
  go_wp2_with fail
  refine (new_any n hn w).mono ?_
  rintro e w1 ⟨rfl, hbf, hb1⟩
  go_wp2
  go_loopg [6] n (fun g s6 wr => ∃ q bs, q ≤ n ∧ g = n - q ∧ s6 = .int .i64 (q : Nat) ∧ Bf wr w.heap.size bs ∧ bs.length = (n + 7) / 8 ∧ (∀ k, bit bs k = (decide (k < q) && mb m k)) ∧ Below w.heap.size w wr)
  case atStart => exact ⟨0, _, by omega, by omega, rfl, hbf, by simp, by intro k; rw [bit_zero]; simp, hb1⟩
  case round =>
    clear hbf hb1
    obtain ⟨q, bs, hq, hg, rfl, hbf, hl, hbits, hbel⟩ := hrel
    have HG := hide (And.intro hg hbits)
    clear hg hbits
    by_cases hlt : q < n
    · have hlt' : (q : Int) < (n : Int) := by omega
      by_cases hm : mb m q = true
      · have hm' : (bits .and .u64 (m / 2 ^ q) 1 == 1) = true := hm
        have HM := hide hm
        clear hm
        go_wp2_with fail
        refine (set_any w.heap.size ((n + 7) / 8) q bs wr hbf hl (by omega) (by omega)).mono ?_
        rintro e w2 ⟨rfl, rfl⟩
        clear hm'
        go_wp2
        go_roundg (n - (q + 1))
        case measure => have := HG.out.1; omega
        case rel =>
          refine ⟨q + 1, setAt bs q, by omega, rfl, by go_num, hbf.put q, by rw [setAt_length]; exact hl, ?_, (hbel.setCell (Nat.le_refl _) _).drew⟩
          intro k
          rw [bit_setAt hbf.2 q k (by omega), HG.out.2 k]
          by_cases e : k = q
          · subst e; simp [HM.out]
          · by_cases e2 : k < q
            · simp [e, e2, show k < q + 1 by omega]
            · simp [e, e2, show ¬ k < q + 1 by omega]
      · have hm' : (bits .and .u64 (m / 2 ^ q) 1 == 1) = false := by
          cases h : (bits .and .u64 (m / 2 ^ q) 1 == 1)
          · rfl
          · exact absurd h hm
        have HM := hide hm
        clear hm
        go_wp2
        go_roundg (n - (q + 1))
        case measure => have := HG.out.1; omega
        case rel =>
          refine ⟨q + 1, bs, by omega, rfl, by go_num, hbf, hl, ?_, hbel⟩
          intro k
          rw [HG.out.2 k]
          by_cases e : k = q
          · subst e
            have := HM.out
            simp at this
            simp [this]
          · by_cases e2 : k < q
            · simp [e2, show k < q + 1 by omega]
            · simp [e2, show ¬ k < q + 1 by omega]
    · have hlt' : ¬ (q : Int) < (n : Int) := by omega
      go_wp2
      go_ret
      exact ⟨rfl, bs, hbf, hl, fun k hk => by rw [HG.out.2 k]; simp; intro h; omega, hbel⟩
end Go.Proofs.Ybulkemu
