/- The contract of Finish (6), the piece not good. -/
import Derived.Test.YbulkemuFinish
import Derived.Lib.SliceRun
namespace Go.Proofs.Ybulkemu
open Go.RowKit

theorem Blk.puts {b : Nat} {t : TypeId} : ∀ (vs : List Value) (o : Nat) (w : World) (cs : List Value), Blk w b t cs → o + vs.length ≤ cs.length → Blk (w.setCells b o vs) b t (cs.take o ++ vs ++ cs.drop (o + vs.length))
  | [], o, w, cs, h, _ => by
    show Blk w b t _
    simpa using h
  | v :: r, o, w, cs, h, hl => by
    simp only [List.length_cons] at hl
    have := Blk.puts r (o + 1) (w.setCell ⟨b, o, none⟩ v) (cs.set o v) (h.set o v) (by simp; omega)
    have e1 : (cs.set o v).take (o + 1) = cs.take o ++ [v] := by
      rw [List.take_succ_eq_append_getElem (by simp; omega), List.take_set, List.getElem_set_self, List.set_eq_of_length_le (by simp; omega)]
    have e2 : (cs.set o v).drop (o + 1 + r.length) = cs.drop (o + (r.length + 1)) := by
      rw [List.drop_set_of_lt (by omega), show o + 1 + r.length = o + (r.length + 1) by omega]
    rw [e1, e2] at this
    simp only [List.length_cons]
    have e3 : cs.take o ++ [v] ++ r ++ cs.drop (o + (r.length + 1)) = cs.take o ++ v :: r ++ cs.drop (o + (r.length + 1)) := by simp
    rw [e3] at this
    exact this

theorem heap_setCells {b : Nat} : ∀ (vs : List Value) (o : Nat) (w : World) (k : Nat), k ≠ b → (w.setCells b o vs).heap[k]? = w.heap[k]?
  | [], _, _, _, _ => rfl
  | _ :: r, o, _, k, h => (heap_setCells r (o + 1) _ k h).trans (Below.heap_setCell _ _ _ _ h)
theorem below_setCells {B b : Nat} (hB : B ≤ b) : ∀ (vs : List Value) (o : Nat) (w : World), Below B w (w.setCells b o vs)
  | [], _, w => Below.refl _ w
  | v :: r, o, w => ((Below.refl B w).setCell hB v).trans (below_setCells hB r (o + 1) _)

section
variable {w0 w : World} {pb ib hb am wm row L n nb : Nat} {info : List Value} {PB HB : Nat → Nat} {BS : Nat → List Int} {M V : Nat → Int} {nh lf : Int} {av : Value} {bs : List Int} {ea ew : Array MapEntry} {ca cw : Nat}
/-- A write to a block of another type than the picker's own. -/
theorem Pic.far (h : Pic w0 w pb ib hb am wm row L n nb info PB HB BS M V nh lf av bs ea ew ca cw) {c : Nat} {t : TypeId} {cs : List Value} (hc : Blk w c t cs) (h1 : t ≠ 44) (h2 : t ≠ 5) (h3 : t ≠ 57) (h4 : t ≠ 32) (h5 : t ≠ 51)
    {w' : World} (hk : ∀ b, b ≠ c → w'.heap[b]? = w.heap[b]?) (hb' : Below w0.heap.size w w') : Pic w0 w' pb ib hb am wm row L n nb info PB HB BS M V nh lf av bs ea ew ca cw := by
  refine ⟨h.pic.keep (hk _ (h.pic.ne hc (Ne.symm h1))), ⟨h.held.1.keep (hk _ (h.held.1.ne hc (Ne.symm h2))), h.held.2⟩, h.hl, (hk _ (Ne.symm (hc.neMap h.act))).trans h.act, (hk _ (Ne.symm (hc.neMap h.who))).trans h.who, ?_, h.hne, h.mne, h.l1, h.l2, h.l3, h.l4⟩
  exact h.lp.far hk (h.lp.inf.ne hc (Ne.symm h3)) (h.lp.prs.row.ne hc (Ne.symm h4)) (fun k hk' => (h.lp.prs.peer k hk').ne hc (Ne.symm h5)) (fun k hk' => (h.lp.prs.has k hk').1.1.ne hc (Ne.symm h2)) hb'
theorem Pic.setC (h : Pic w0 w pb ib hb am wm row L n nb info PB HB BS M V nh lf av bs ea ew ca cw) {c : Nat} {t : TypeId} {cs : List Value} (hc : Blk w c t cs) (h1 : t ≠ 44) (h2 : t ≠ 5) (h3 : t ≠ 57) (h4 : t ≠ 32) (h5 : t ≠ 51) (hl : w0.heap.size ≤ c) (j : Nat) (v : Value) :
    Pic w0 (w.setCell ⟨c, j, none⟩ v) pb ib hb am wm row L n nb info PB HB BS M V nh lf av bs ea ew ca cw :=
  h.far hc h1 h2 h3 h4 h5 (fun _ hb' => Below.heap_setCell _ _ _ _ hb') ((Below.refl _ w).setCell hl v)
end

theorem zero4 (w : World) : (zeroValue 4).run Yba.prog w = .ok (.bool false) w := by kernel_rfl

/-- 'clear(received)', whatever its length. -/
theorem clear_flags (ro : Option Addr) (R Rc : Nat) (w : World) (h : R = 0 ∨ ∃ cb cs, ro = some ⟨cb, 0, none⟩ ∧ Blk w cb 4 cs ∧ cs.length = R) :
    ∃ w', (∀ ty, (Builtin.clear_ #[31] ty #[.slice ro R Rc]).run Yba.prog w = .ok (.tuple #[]) w') ∧ ((w' = w ∧ R = 0) ∨ ∃ cb cs, ro = some ⟨cb, 0, none⟩ ∧ Blk w cb 4 cs ∧ w' = w.setCells cb 0 (List.replicate R (.bool false)) ∧ Blk w' cb 4 (List.replicate R (.bool false))) := by
  by_cases hR : R = 0
  · subst hR
    refine ⟨w, fun ty => ?_, .inl ⟨rfl, rfl⟩⟩
    cases ro with
    | none => simp [Builtin.clear_, run_underlying Yba.underlying31]
    | some x => simp [Builtin.clear_, run_underlying Yba.underlying31]
  · rcases h with h | ⟨cb, cs, rfl, hb, hl⟩
    · omega
    · refine ⟨_, fun ty => Lib.run_clear_slice w 31 4 ty (.bool false) Yba.underlying31 zero4 rfl rfl cb 0 R Rc (by omega) ?_ ?_, .inr ⟨cb, cs, rfl, hb, rfl, ?_⟩⟩
      · intro j hj
        rw [Nat.zero_add, hb.cell j, List.getElem?_eq_getElem (by omega)]
        rfl
      · intro j _
        exact hb.free _
      · have := Blk.puts (List.replicate R (Value.bool false)) 0 w cs hb (by rw [List.length_replicate]; omega)
        rw [List.length_replicate, List.take_zero, List.nil_append, List.drop_of_length_le (by omega), List.append_nil] at this
        exact this

set_option maxRecDepth 100000 in
set_option maxHeartbeats 1000000 in
theorem finish_bad {w0 w : World} {pb ib hb am wm row L n nb : Nat} {info : List Value} {PB HB : Nat → Nat} {BS : Nat → List Int} {M V : Nat → Int} {nh lf : Int} {av : Value} {bs : List Int} {cw b0 : Nat} (i prb : Nat)
    (h : Pic w0 w pb ib hb am wm row L n nb info PB HB BS M V nh lf av bs #[] #[⟨.int .i64 i, .pointer (some ⟨prb, 0, none⟩), b0⟩] 0 cw) (ow : Option Addr) (fa : Bool) (rq : Value) (ro : Option Addr) (R Rc : Nat) (nr : Int) (hpr : Blk w prb 34 [.pointer ow, .bool fa, rq, .slice ro R Rc, .int .i64 nr]) (hlp : w0.heap.size ≤ prb)
    (hrec : R = 0 ∨ ∃ cb cs, ro = some ⟨cb, 0, none⟩ ∧ Blk w cb 4 cs ∧ cs.length = R) (hlc : ∀ x, ro = some x → w0.heap.size ≤ x.block) :
    Calls Yba.prog 6 #[.pointer (some ⟨pb, 0, none⟩), .int .i64 i, .bool false] w fun e w' => e = .returned (.tuple #[]) ∧
      Pic w0 w' pb ib hb am wm row L n nb info PB HB BS M V nh lf av bs #[⟨.int .i64 i, .pointer (some ⟨prb, 0, none⟩), 0⟩] #[] 1 cw ∧
      Blk w' prb 34 [.pointer none, .bool true, rq, .slice ro R Rc, .int .i64 0] ∧ (R = 0 ∨ ∃ cb, ro = some ⟨cb, 0, none⟩ ∧ Blk w' cb 4 (List.replicate R (.bool false))) := by
  have c6 : w.cell? ⟨pb, 6, none⟩ = some (.map (some wm)) := by rw [h.pic.cell]; rfl
  have hlk := run_lookup_one (P := Yba.prog) Yba.underlying38 Yba.underlying3 wm b0 cw i (.pointer (some ⟨prb, 0, none⟩)) w h.who
  have hdl := fun ty => run_delete_one (P := Yba.prog) Yba.underlying38 Yba.underlying3 ty wm b0 cw i (.pointer (some ⟨prb, 0, none⟩)) w h.who
  go_enter Yba.func6, Yba.ntmps6
  go_upto_region 12 with fail
  have h1 := h.setWho #[] cw
  have hp1 := hpr.map h.who (.map #[] cw)
  have hr1 : R = 0 ∨ ∃ cb cs, ro = some ⟨cb, 0, none⟩ ∧ Blk (Go.ChangeMaps.setBlock w wm (.map #[] cw)) cb 4 cs ∧ cs.length = R := by
    rcases hrec with h0 | ⟨cb, cs, e1, e2, e3⟩
    · exact .inl h0
    · exact .inr ⟨cb, cs, e1, e2.map h.who _, e3⟩
  generalize Go.ChangeMaps.setBlock w wm (.map #[] cw) = w1 at h1 hp1 hr1 ⊢
  clear hlk hdl c6 h hpr hrec
  obtain ⟨w2, hcl, hres⟩ := clear_flags ro R Rc w1 hr1
  have hx : Pic w0 w2 pb ib hb am wm row L n nb info PB HB BS M V nh lf av bs #[] #[] 0 cw ∧ Blk w2 prb 34 [.pointer ow, .bool fa, rq, .slice ro R Rc, .int .i64 nr] ∧ (R = 0 ∨ ∃ cb, ro = some ⟨cb, 0, none⟩ ∧ Blk w2 cb 4 (List.replicate R (.bool false))) := by
    rcases hres with ⟨rfl, h0⟩ | ⟨cb, cs, e1, e2, e3, e4⟩
    · exact ⟨h1, hp1, .inl h0⟩
    · have hk : ∀ b, b ≠ cb → w2.heap[b]? = w1.heap[b]? := by rw [e3]; exact fun b hb' => heap_setCells _ _ _ _ hb'
      refine ⟨h1.far e2 (by decide) (by decide) (by decide) (by decide) (by decide) hk ?_, hp1.keep (hk _ (hp1.ne e2 (by decide))), .inr ⟨cb, e1, e4⟩⟩
      rw [e3]
      exact below_setCells (hlc _ e1) _ _ _
  obtain ⟨x1, x2, x3⟩ := hx
  clear hr1 hres h1
  have c3 : w1.cell? ⟨prb, 3, none⟩ = some (.slice ro R Rc) := by rw [hp1.cell]; rfl
  go_upto_region 13 with fail
  clear hcl c3 hp1
  have d0 : w2.cell? ⟨prb, 0, none⟩ = some (.pointer ow) := by rw [x2.cell]; rfl
  have d1 : w2.cell? ⟨prb, 1, none⟩ = some (.bool fa) := by rw [x2.cell]; rfl
  have d4 : w2.cell? ⟨prb, 4, none⟩ = some (.int .i64 nr) := by rw [x2.cell]; rfl
  have z0 := x2.free 0
  have z1 := x2.free 1
  have z4 := x2.free 4
  go_upto_region 16 with fail
  have y1 := x2.set 4 (.int .i64 0)
  have p1 := x1.setC x2 (by decide) (by decide) (by decide) (by decide) (by decide) hlp 4 (.int .i64 0)
  have y2 := y1.set 0 (.pointer none)
  have p2 := p1.setC y1 (by decide) (by decide) (by decide) (by decide) (by decide) hlp 0 (.pointer none)
  have y3 := y2.set 1 (.bool true)
  have p3 := p2.setC y2 (by decide) (by decide) (by decide) (by decide) (by decide) hlp 1 (.bool true)
  have r3 : R = 0 ∨ ∃ cb, ro = some ⟨cb, 0, none⟩ ∧ Blk (((w2.setCell ⟨prb, 4, none⟩ (.int .i64 0)).setCell ⟨prb, 0, none⟩ (.pointer none)).setCell ⟨prb, 1, none⟩ (.bool true)) cb 4 (List.replicate R (.bool false)) := by
    rcases x3 with h0 | ⟨cb, e1, e2⟩
    · exact .inl h0
    · exact .inr ⟨cb, e1, ((e2.other (x2.ne e2 (by decide)) _ _).other (x2.ne e2 (by decide)) _ _).other (x2.ne e2 (by decide)) _ _⟩
  generalize ((w2.setCell ⟨prb, 4, none⟩ (.int .i64 0)).setCell ⟨prb, 0, none⟩ (.pointer none)).setCell ⟨prb, 1, none⟩ (.bool true) = w3 at y3 p3 r3 ⊢
  clear d0 d1 d4 z0 z1 z4 y1 p1 y2 p2 x1 x2 x3
  have c5 : w3.cell? ⟨pb, 5, none⟩ = some (.map (some am)) := by rw [p3.pic.cell]; rfl
  have hup := run_update_empty (P := Yba.prog) Yba.underlying38 Yba.underlying3 am 0 i (.pointer (some ⟨prb, 0, none⟩)) w3 p3.act
  go_wp2
  go_end0
  refine ⟨rfl, p3.setAct _ 1, y3.map p3.act _, ?_⟩
  rcases r3 with h0 | ⟨cb, e1, e2⟩
  · exact .inl h0
  · exact .inr ⟨cb, e1, e2.map p3.act _⟩
end Go.Proofs.Ybulkemu
