/- The law's classes in memory. -/
import Derived.Test.YbulkemgMerge
import Derived.Test.YbulkemgDeal
namespace Go.Proofs.Ybulkemg
open Go Go.RowKit
theorem Yba.info50 : (Yba.prog.info? 50).map (fun i => (i.zero, i.size, i.bytes)) = some (some (.agg #[.int .i64 0, .string ByteArray.empty]), 2, 24) := by kernel_rfl
theorem Yba.info42 : (Yba.prog.info? 42).map (fun i => (i.zero, i.size, i.bytes)) = some (some (.pointer none), 1, 8) := by kernel_rfl
theorem Yba.info3 : (Yba.prog.info? 3).map (fun i => (i.zero, i.size, i.bytes)) = some (some (.int .i64 0), 1, 8) := by kernel_rfl

/-- Accesses as cells: the line, and no text. -/
def cellsA (l : List Nat) : List Value := l.flatMap fun i => [.int .i64 (i : Nat), .string ByteArray.empty]
theorem cellsA_snoc (l : List Nat) (i : Nat) : cellsA (l ++ [i]) = cellsA l ++ [.int .i64 (i : Nat), .string ByteArray.empty] := by simp [cellsA]
theorem cellsA_length : ∀ l : List Nat, (cellsA l).length = l.length * 2
  | [] => rfl
  | a :: l => by
    show (_ :: _ :: cellsA l).length = _
    rw [List.length_cons, List.length_cons, cellsA_length l, List.length_cons]
    omega
theorem cellsA_at : ∀ (l : List Nat) (j : Nat), j < l.length → (cellsA l)[j * 2]? = some (.int .i64 (l.getD j 0 : Nat))
  | [], j, h => by simp at h
  | a :: l, 0, _ => rfl
  | a :: l, j + 1, h => by
    show (_ :: _ :: cellsA l)[(j + 1) * 2]? = _
    rw [show (j + 1) * 2 = j * 2 + 1 + 1 by omega, List.getElem?_cons_succ, List.getElem?_cons_succ]
    exact cellsA_at l j (by simpa using h)

/-- The first i of k classes: cb the row of pointers, C c class c, V c its slice, L c its lines. -/
structure Cl (w : World) (B k cb : Nat) (C : Nat → Nat) (V : Nat → Value) (L : Nat → List Nat) (i : Nat) : Prop where
  row : ∃ cs, Blk w cb 42 cs ∧ cs.length = k ∧ ∀ c, c < i → cs[c]? = some (.pointer (some ⟨C c, 0, none⟩))
  cls : ∀ c, c < i → ∃ cs, Blk w (C c) 48 cs ∧ cs[4]? = some (V c) ∧ B ≤ C c
  inj : ∀ c d, c < i → d < i → C c = C d → c = d
  own : ∀ c, c < i → w.ownsRow B 50 2 (V c) (L c).length (cellsA (L c))
  apart : ∀ c d, c < i → d < i → c ≠ d → (V c).ownBlock = none ∨ (V c).ownBlock ≠ (V d).ownBlock

section
variable {w w' : World} {B k cb i : Nat} {C : Nat → Nat} {V : Nat → Value} {L : Nat → List Nat}
theorem Cl.keep (h : Cl w B k cb C V L i) {B' : Nat} {Ts : List TypeId} (hk : KX B' Ts w w') (h1 : 42 ∉ Ts) (h2 : 48 ∉ Ts) (h3 : 50 ∉ Ts) : Cl w' B k cb C V L i where
  row := let ⟨cs, a, b⟩ := h.row; ⟨cs, hk.blk a h1, b⟩
  cls := fun c hc => let ⟨cs, a, b⟩ := h.cls c hc; ⟨cs, hk.blk a h2, b⟩
  inj := h.inj
  own := fun c hc => own_keep (h.own c hc) hk h3
  apart := h.apart
theorem Cl.ptr (h : Cl w B k cb C V L i) {c : Nat} (hc : c < i) : w.cell? ⟨cb, c, none⟩ = some (.pointer (some ⟨C c, 0, none⟩)) := by
  obtain ⟨cs, a, _, b⟩ := h.row
  rw [a.cell]; exact b c hc
theorem Cl.val (h : Cl w B k cb C V L i) {c : Nat} (hc : c < i) : w.cell? ⟨C c, 4, none⟩ = some (V c) := by
  obtain ⟨cs, a, b, _⟩ := h.cls c hc
  rw [a.cell]; exact b
theorem Cl.free (h : Cl w B k cb C V L i) {c : Nat} (hc : c < i) : w.frozen? ⟨C c, 4, none⟩ = false := by
  obtain ⟨cs, a, b, _⟩ := h.cls c hc
  exact a.free 4
/-- What a class's slice looks like. -/
theorem own_form {w : World} {B : Nat} {e : TypeId} {s : Nat} {v : Value} {n : Nat} {xs : List Value} (h : w.ownsRow B e s v n xs) : ∃ a cap, v = .slice a n cap ∧ (0 < n → ∃ g, a = some ⟨g, 0, none⟩ ∧ B ≤ g) := by
  rcases h.2 with ⟨rfl, rfl⟩ | ⟨g, cap, cur, rfl, hb, _⟩
  · exact ⟨none, 0, rfl, fun h => by omega⟩
  · exact ⟨_, cap, rfl, fun _ => ⟨g, rfl, hb⟩⟩

/-- One class more: made, and its pointer laid into the row. -/
theorem Cl.add {nil : Nat → Value} {em : Nat → List Nat} (hnil : nil = fun _ => .slice none 0 0) (hem : em = fun _ => []) (h : Cl w B k cb C nil em i) (hi : i < k) (hB : B ≤ w.heap.size) (zs : Array Value) (hz : zs.toList[4]? = some (.slice none 0 0)) :
    Cl ((w.setCell ⟨cb, i, none⟩ (.pointer (some ⟨w.heap.size, 0, none⟩))).alloc (.cells zs 48)) B k cb (updN C i w.heap.size) nil em (i + 1) := by
  obtain ⟨cs, hb, hl, hr⟩ := h.row
  have hlt := hb.lt
  have hnew : Blk ((w.setCell ⟨cb, i, none⟩ (.pointer (some ⟨w.heap.size, 0, none⟩))).alloc (.cells zs 48)) w.heap.size 48 zs.toList := by
    have := heap_alloc_new (w.setCell ⟨cb, i, none⟩ (.pointer (some ⟨w.heap.size, 0, none⟩))) (.cells zs 48)
    have e : (w.setCell ⟨cb, i, none⟩ (.pointer (some ⟨w.heap.size, 0, none⟩))).heap.size = w.heap.size := by simp
    rw [e] at this
    unfold Blk
    rw [this]
  have hcl : ∀ c, c < i → C c < w.heap.size := fun c hc => let ⟨_, q, _⟩ := h.cls c hc; q.lt
  refine ⟨⟨_, (hb.set i _).alloc _, by simpa using hl, fun c hc => ?_⟩, fun c hc => ?_, fun c d hc hd hcd => ?_, fun c hc => ?_, fun c d _ _ _ => .inl (by rw [hnil]; rfl)⟩
  · unfold updN
    by_cases e : c = i
    · subst e
      rw [if_pos rfl, List.getElem?_set_self (by omega)]
    · rw [if_neg e, List.getElem?_set_ne (by omega)]
      exact hr c (by omega)
  · unfold updN
    by_cases e : c = i
    · subst e
      rw [if_pos rfl]
      exact ⟨_, hnew, by rw [hnil]; exact hz, hB⟩
    · rw [if_neg e]
      obtain ⟨cs', q1, q2, q3⟩ := h.cls c (by omega)
      have hne : cb ≠ C c := hb.ne q1 (by decide)
      exact ⟨cs', (q1.other hne _ _).alloc _, q2, q3⟩
  · unfold updN at hcd
    by_cases e : c = i
    · by_cases e2 : d = i
      · omega
      · rw [if_pos e, if_neg e2] at hcd
        have := hcl d (by omega)
        omega
    · by_cases e2 : d = i
      · rw [if_neg e, if_pos e2] at hcd
        have := hcl c (by omega)
        omega
      · rw [if_neg e, if_neg e2] at hcd
        exact h.inj c d (by omega) (by omega) hcd
  · rw [hnil, hem]
    exact World.ownsRow_nil _ _ _ _

def updV (V : Nat → Value) (c : Nat) (v : Value) : Nat → Value := fun d => if d = c then v else V d
def updL (L : Nat → List Nat) (c : Nat) (l : List Nat) : Nat → List Nat := fun d => if d = c then l else L d

/-- One access more, in class c. -/
theorem Cl.app (h : Cl w B k cb C V L i) {c : Nat} (hc : c < i) {wa w1 : World} (hwa : ∀ b, b < w.heap.size → wa.heap[b]? = w.heap[b]?) (hsz : w.heap.size ≤ wa.heap.size) {g cap x : Nat}
    (hgrow : wa.grownBy w1 (V c).ownBlock) (hat : (V c).ownBlock = some g ∨ w.heap.size ≤ g) (hown : w1.ownsRow B 50 2 (.slice (some ⟨g, 0, none⟩) ((L c).length + 1) cap) ((L c).length + 1) (cellsA (L c) ++ [.int .i64 (x : Nat), .string ByteArray.empty])) :
    Cl (w1.setCell ⟨C c, 4, none⟩ (.slice (some ⟨g, 0, none⟩) ((L c).length + 1) cap)) B k cb C (updV V c (.slice (some ⟨g, 0, none⟩) ((L c).length + 1) cap)) (updL L c (L c ++ [x])) i := by
  -- a block of w that is not class c's row is in w1 as it was
  have hfar : ∀ b t cs, Blk w b t cs → some b ≠ (V c).ownBlock → Blk w1 b t cs := by
    intro b t cs hb hne
    exact hb.keep ((hgrow.block b (Nat.lt_of_lt_of_le hb.lt hsz) hne).trans (hwa b hb.lt))
  have hblk : ∀ d, d < i → ∀ b, (V d).ownBlock = some b → ∃ cs, Blk w b 50 cs := by
    intro d hd b hb
    rcases (h.own d hd).2 with ⟨e, _⟩ | ⟨g', cap', cur, e, _, hg, _⟩
    · rw [e] at hb; simp [Value.ownBlock] at hb
    · rw [e] at hb
      simp only [Value.ownBlock, Option.some.injEq] at hb
      subst hb
      exact ⟨cur.toList, by unfold Blk; simpa using hg⟩
  have hnt : ∀ b t cs, Blk w b t cs → t ≠ 50 → some b ≠ (V c).ownBlock := by
    intro b t cs hb ht e
    obtain ⟨cs', q⟩ := hblk c hc b e.symm
    exact hb.ne q ht rfl
  obtain ⟨cs, hb, hl, hr⟩ := h.row
  obtain ⟨cc, hcc, hcv, hcB⟩ := h.cls c hc
  have hcc1 := hfar _ _ _ hcc (hnt _ _ _ hcc (by decide))
  have hb1 := hfar _ _ _ hb (hnt _ _ _ hb (by decide))
  have hl4 := (List.getElem?_eq_some_iff.1 hcv).1
  refine ⟨⟨cs, hb1.other (hcc.ne hb (by decide)) _ _, hl, hr⟩, fun d hd => ?_, h.inj, fun d hd => ?_, fun d e hd he hne => ?_⟩
  · unfold updV
    by_cases e : d = c
    · subst e
      rw [if_pos rfl]
      exact ⟨_, hcc1.set 4 _, by rw [List.getElem?_set_self hl4], hcB⟩
    · rw [if_neg e]
      obtain ⟨cd, q1, q2, q3⟩ := h.cls d hd
      refine ⟨cd, (hfar _ _ _ q1 (hnt _ _ _ q1 (by decide))).other (fun e2 => e (h.inj d c hd hc e2.symm)) _ _, q2, q3⟩
  · have hkx : KX B [48] w1 (w1.setCell ⟨C c, 4, none⟩ (.slice (some ⟨g, 0, none⟩) ((L c).length + 1) cap)) := (KX.refl B [48] w1).set hcc1 (by simp) hcB _ _
    unfold updV updL
    by_cases e : d = c
    · subst e
      rw [if_pos rfl, if_pos rfl, cellsA_snoc, List.length_append]
      exact own_keep hown hkx (by simp)
    · rw [if_neg e, if_neg e]
      refine own_keep ?_ hkx (by simp)
      have ho := h.own d hd
      refine ⟨ho.1, ?_⟩
      rcases ho.2 with h0 | ⟨g', cap', cur, ev, hBg, hg, rest⟩
      · exact .inl h0
      · refine .inr ⟨g', cap', cur, ev, hBg, ?_, rest⟩
        have hb' : Blk w g' 50 cur.toList := by unfold Blk; simpa using hg
        have hne' : some g' ≠ (V c).ownBlock := by
          rcases h.apart d c hd hc e with q | q
          · rw [ev] at q; simp [Value.ownBlock] at q
          · rw [ev] at q
            simpa [Value.ownBlock] using q
        have := hfar _ _ _ hb' hne'
        unfold Blk at this
        simpa using this
  · have key : ∀ d, d < i → d ≠ c → (V d).ownBlock ≠ some g := by
      intro d hd hdc hq
      obtain ⟨_, qb⟩ := hblk d hd g hq
      rcases hat with q | q
      · rcases h.apart d c hd hc hdc with q2 | q2
        · rw [q2] at hq; cases hq
        · exact q2 (hq.trans q.symm)
      · have := qb.lt
        omega
    unfold updV
    by_cases e1 : d = c
    · have e2 : e ≠ c := fun h' => hne (e1.trans h'.symm)
      rw [if_pos e1, if_neg e2]
      right
      intro q
      exact key e he e2 q.symm
    · rw [if_neg e1]
      by_cases e2 : e = c
      · rw [if_pos e2]
        right
        exact key d hd e1
      · rw [if_neg e2]
        exact h.apart d e hd he hne
end
end Go.Proofs.Ybulkemg
