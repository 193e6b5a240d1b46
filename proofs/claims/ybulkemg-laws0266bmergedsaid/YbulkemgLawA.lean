/- The law's walk (5). -/
import Derived.Test.YbulkemgOrder
import Derived.Test.YbulkemgEqual
import Derived.Test.YbulkemgTell
import Derived.Deep.CutBlock
namespace Go.Proofs.Ybulkemg
open Go Go.RowKit

set_option maxRecDepth 100000 in
set_option maxHeartbeats 4000000 in
theorem merged_walk (a : Option Addr) (n cap : Nat) (a' : Option Addr) (n' cap' : Nat) (o o' : Nat → Nat) (nr : Nat) (hnr : nr ≤ 255) (hn : n ≤ 1024) (hn' : n' ≤ 1024) (w : World) (hin : InU w a n o) (hin' : InU w a' n' o') :
    Calls Yba.prog 5 #[.slice a n cap, .slice a' n' cap', .int .u8 (nr : Nat)] w fun e w' => e = .returned (.bool true) ∧ Below w.heap.size w w' := by
  obtain ⟨k, hk⟩ : ∃ k : Nat, 1 + (nr : Int) % 4 = (k : Nat) := ⟨1 + nr % 4, by omega⟩
  have hk1 : 1 ≤ k := by omega
  have hk4 : k ≤ 4 := by omega
  have hmk := run_make_row' (P := Yba.prog) 41 42 (.pointer none) 8 Yba.underlying41 Yba.info42 rfl .i64 .i64 k (by omega) (by omega) w
  obtain ⟨B, hBe⟩ : ∃ B, B = w.heap.size := ⟨_, rfl⟩
  obtain ⟨nil, hnil⟩ : ∃ nil : Nat → Value, nil = fun _ => .slice none 0 0 := ⟨_, rfl⟩
  obtain ⟨em, hem⟩ : ∃ em : Nat → List Nat, em = fun _ => [] := ⟨_, rfl⟩
  have hcl0 : Cl (w.alloc (.cells (madeCells #[.pointer none] k) 42)) B k w.heap.size (fun _ => 0) nil em 0 := by
    refine ⟨⟨(madeCells #[.pointer none] k).toList, ?_, by simp [size_madeCells], fun c hc => by omega⟩, fun c hc => by omega, fun c d hc => by omega, fun c hc => by omega, fun c d hc => by omega⟩
    have := heap_alloc_new w (.cells (madeCells #[.pointer none] k) 42)
    unfold Blk
    rw [this]
  have hb0 : Below B w (w.alloc (.cells (madeCells #[.pointer none] k) 42)) := (Below.refl B w).alloc (by omega) _
  rw [← hBe]
  have HIN := hide hin
  have HIN' := hide hin'
  have HB := hide hBe
  have HNIL := hide hnil
  have HEM := hide hem
  clear hin hin'
  obtain ⟨i50, hi50, z50, s50, b50⟩ := info_parts Yba.info50
  obtain ⟨i63, hi63, z63, s63, b63⟩ := info_parts Yba.info63
  obtain ⟨i3, hi3, z3, s3, b3⟩ := info_parts Yba.info3
  go_enter Yba.func5, Yba.ntmps5
  go_upto_block 0 with fail
  clear hmk hk
  generalize hcb : w.heap.size = cb at hcl0 ⊢
  have hcbB : B ≤ cb := by omega
  clear hBe hcb hnil hem
  generalize w.alloc (.cells (madeCells #[.pointer none] k) 42) = w1 at hcl0 hb0 ⊢
  go_cut [9] (fun s9 wx => ∃ C, Cl wx B k cb C nil em k ∧ Below B w wx)
  case first =>
    as_aux_lemma =>
      go_wp2_with fail
      go_loopg [9] k (fun g s9 wr => ∃ C i, i ≤ k ∧ Hid (g = k - i) ∧ s9 = .int .i64 (i : Nat) ∧ Cl wr B k cb C nil em i ∧ Below B w wr)
      case atStart => exact ⟨_, 0, Nat.zero_le _, rfl, rfl, hcl0, hb0⟩
      case round =>
        clear hcl0 hb0
        obtain ⟨C, i, hi, HG, rfl, hcl, hb⟩ := hrel
        by_cases hlt : i < k
        · have hlt' : (i : Int) < (k : Int) := by omega
          obtain ⟨y, hy⟩ : ∃ y, wr.cell? ⟨cb, i, none⟩ = some y := by
            obtain ⟨cs, q1, q2, _⟩ := hcl.row
            exact ⟨cs[i], by rw [q1.cell]; exact List.getElem?_eq_getElem (by omega)⟩
          have hz : wr.frozen? ⟨cb, i, none⟩ = false := by
            obtain ⟨cs, q1, q2, _⟩ := hcl.row
            exact q1.free i
          have hcblt : cb < wr.heap.size := by
            obtain ⟨cs, q1, q2, _⟩ := hcl.row
            exact q1.lt
          have hwB : B ≤ wr.heap.size := by omega
          have hcl2 := hcl.add HNIL.out HEM.out hlt hwB #[.bool false, .int .i32 0, .int .i64 0, .slice none 0 0, .slice none 0 0] rfl
          have hb2 : Below B w ((wr.setCell ⟨cb, i, none⟩ (.pointer (some ⟨wr.heap.size, 0, none⟩))).alloc (.cells #[.bool false, .int .i32 0, .int .i64 0, .slice none 0 0, .slice none 0 0] 48)) := (hb.setCell hcbB _).alloc (by simpa using hwB) _
          go_wp2
          go_roundg (k - (i + 1))
          case measure => have := HG.out; omega
          case rel => exact ⟨_, i + 1, by omega, rfl, by go_num, hcl2, hb2⟩
        · have hlt' : ¬ (i : Int) < (k : Int) := by omega
          obtain rfl : i = k := by omega
          go_wp2
          go_meet
          case rel => exact ⟨C, hcl, hb⟩
  case rest =>
    clear hcl0 hb0
    obtain ⟨C, hcl, hb⟩ := hcut
    have hmp := run_make_row' (P := Yba.prog) 26 3 (.int .i64 0) 8 Yba.underlying26 Yba.info3 rfl .i64 .i64 n (by omega) (by omega) wc
    have hmo := run_make_row' (P := Yba.prog) 26 3 (.int .i64 0) 8 Yba.underlying26 Yba.info3 rfl .i64 .i64 n (by omega) (by omega) (wc.alloc (.cells (madeCells #[.int .i64 0] n) 3))
    go_upto_block 2 with fail
    clear hmp hmo
    obtain ⟨ow, how⟩ : ∃ ow : Nat → Nat, ow = fun i => o i % k := ⟨_, rfl⟩
    have HOW := hide how
    have hoB : ∀ i, ow i < k := fun i => by rw [how]; exact Nat.mod_lt _ (by omega)
    obtain ⟨P, hP⟩ : ∃ P : Nat → Nat, P = fun j => (ls ow (ow j) j).length := ⟨_, rfl⟩
    have HP := hide hP
    have hwB : B ≤ wc.heap.size := by have := hb.size; have := HB.out; omega
    have hkx : KX B [] wc ((wc.alloc (.cells (madeCells #[.int .i64 0] n) 3)).alloc (.cells (madeCells #[.int .i64 0] n) 3)) := ((KX.refl B [] wc).alloc hwB _).alloc (by simp; omega) _
    have hb2 := hb.trans hkx.bel
    have hp2 : Ints ((wc.alloc (.cells (madeCells #[.int .i64 0] n) 3)).alloc (.cells (madeCells #[.int .i64 0] n) 3)) wc.heap.size n P 0 := ((Ints.made wc n).alloc _).less (fun j hj => by omega)
    have ho2 : Ints ((wc.alloc (.cells (madeCells #[.int .i64 0] n) 3)).alloc (.cells (madeCells #[.int .i64 0] n) 3)) (wc.heap.size + 1) n ow 0 := by
      have := Ints.made (wc.alloc (.cells (madeCells #[.int .i64 0] n) 3)) n
      rw [show (wc.alloc (.cells (madeCells #[.int .i64 0] n) 3)).heap.size = wc.heap.size + 1 by simp] at this
      exact this.less (fun j hj => by omega)
    have hcl2 := hcl.keep hkx (by simp) (by simp) (by simp)
    have hem0 : em = fun c => ls ow c 0 := HEM.out
    rw [hem0] at hcl2
    clear hem0
    clear hcl hb hkx how hP
    generalize (wc.alloc (.cells (madeCells #[.int .i64 0] n) 3)).alloc (.cells (madeCells #[.int .i64 0] n) 3) = w2 at hb2 hp2 ho2 hcl2 ⊢
    obtain ⟨ob, hob⟩ : ∃ ob, wc.heap.size + 1 = ob := ⟨_, rfl⟩
    rw [hob] at ho2 ⊢
    generalize wc.heap.size = pb at *
    have hne : ob ≠ pb := by omega
    have hpB : B ≤ pb := hwB
    have hobB : B ≤ ob := by omega
    clear hwB hob
    go_cut [12, 13] (fun s12 s13 wx => ∃ V, Cl wx B k cb C V (fun c => ls ow c n) k ∧ Ints wx pb n P n ∧ Ints wx ob n ow n ∧ Below B w wx)
    case first =>
      go_wp2_with fail
      go_loopg [12] n (fun g s12 wr => ∃ V i, i ≤ n ∧ Hid (g = n - i) ∧ s12 = .int .i64 (i : Nat) ∧ Cl wr B k cb C V (fun c => ls ow c i) k ∧ Ints wr pb n P i ∧ Ints wr ob n ow i ∧ Below B w wr)
      case atStart => exact ⟨_, 0, Nat.zero_le _, rfl, rfl, hcl2, hp2, ho2, hb2⟩
      case round =>
        clear hcl2 hp2 ho2 hb2
        obtain ⟨V, i, hi, HG, rfl, hcl, hp, ho, hb⟩ := hrel
        by_cases hlt : i < n
        · have hlt' : (i : Int) < (n : Int) := by omega
          have HIN2 := HIN
          obtain ⟨b, f, rfl, hby⟩ := HIN.out.later HB.out hb (by omega)
          have hx := hby i hlt
          have hoi := HIN.out.2 i
          clear hby HIN2
          obtain ⟨c, hc⟩ : ∃ c : Nat, ow i = c := ⟨_, rfl⟩
          have hck : c < k := by rw [← hc]; exact hoB i
          have hck' : (c : Int) < (k : Int) := by omega
          have hcm : ((o i : Nat) : Int) % (k : Int) = ((c : Nat) : Int) := by
            rw [← hc, HOW.out]
            exact (Int.natCast_emod _ _).symm
          have HC := hide hc
          clear hc
          generalize o i = x at *
          go_upto_region 15 with fail
          rw [hcm]
          clear hcm hx hoi
          obtain ⟨y1, hy1⟩ := ho.there hlt
          have hz1 := ho.free i
          go_upto_region 16 with fail
          have hb3 : Below B w (wr.setCell ⟨ob, i, none⟩ (.int .i64 (c : Nat))) ∧ Cl (wr.setCell ⟨ob, i, none⟩ (.int .i64 (c : Nat))) B k cb C V (fun c => ls ow c i) k ∧ Ints (wr.setCell ⟨ob, i, none⟩ (.int .i64 (c : Nat))) ob n ow (i + 1) := by
            obtain ⟨oc, hoc⟩ := ho.blk
            have hk3 : KX B [3] wr (wr.setCell ⟨ob, i, none⟩ (.int .i64 (c : Nat))) := (KX.refl B [3] wr).set hoc (by simp) hobB _ _
            have := ho.snoc hlt
            rw [HC.out] at this
            exact ⟨hb.trans hk3.bel, hcl.keep hk3 (by simp) (by simp) (by simp), this⟩
          obtain ⟨hb3, hcl3, ho3⟩ := hb3
          have hp3 := hp.other hne i (.int .i64 (c : Nat))
          generalize wr.setCell ⟨ob, i, none⟩ (.int .i64 (c : Nat)) = w3 at *
          clear hy1 hz1 hb hcl ho hp
          have p1 := hcl3.ptr hck
          obtain ⟨va, vcap, hV, _⟩ := own_form (hcl3.own c hck)
          have p2 := hcl3.val hck
          rw [hV] at p2
          obtain ⟨y2, hy2⟩ := hp3.there hlt
          have hz2 := hp3.free i
          have HV := hide hV
          clear hV
          go_upto_region 17 with fail
          have hb4 : Below B w (w3.setCell ⟨pb, i, none⟩ (.int .i64 ((ls ow c i).length : Nat))) ∧ Cl (w3.setCell ⟨pb, i, none⟩ (.int .i64 ((ls ow c i).length : Nat))) B k cb C V (fun c => ls ow c i) k ∧ Ints (w3.setCell ⟨pb, i, none⟩ (.int .i64 ((ls ow c i).length : Nat))) pb n P (i + 1) := by
            obtain ⟨pc, hpc⟩ := hp3.blk
            have hk4 : KX B [3] w3 (w3.setCell ⟨pb, i, none⟩ (.int .i64 ((ls ow c i).length : Nat))) := (KX.refl B [3] w3).set hpc (by simp) hpB _ _
            have h1 := hp3.snoc hlt
            have h2 : P i = (ls ow c i).length := by rw [HP.out]; show (ls ow (ow i) i).length = _; rw [HC.out]
            rw [h2] at h1
            exact ⟨hb3.trans hk4.bel, hcl3.keep hk4 (by simp) (by simp) (by simp), h1⟩
          obtain ⟨hb4, hcl4, hp4⟩ := hb4
          have ho4 := ho3.other (Ne.symm hne) i (.int .i64 ((ls ow c i).length : Nat))
          generalize w3.setCell ⟨pb, i, none⟩ (.int .i64 ((ls ow c i).length : Nat)) = w4 at *
          clear hy2 hz2 hb3 hcl3 ho3 hp3 p1 p2 HV
          have p1 := hcl4.ptr hck
          have p2 := hcl4.val hck
          have p3 := hcl4.free hck
          have hown4 : w4.ownsRow B 50 2 (V c) (ls ow c i).length (cellsA (ls ow c i)) := hcl4.own c hck
          obtain ⟨rc, hrc, _, _⟩ := hcl4.row
          obtain ⟨cc, hcc, hcv, hcB⟩ := hcl4.cls c hck
          have hn1 : cb ≠ C c := hrc.ne hcc (by decide)
          have hn2 : C c ≠ cb := Ne.symm hn1
          have hl1 := hrc.lt
          have hl2 := hcc.lt
          have hwB : B ≤ w4.heap.size := by omega
          have hll : (ls ow c i).length ≤ 1024 := by have := ls_length_le ow c i; omega
          have HKEEP := hide (And.intro hb4 (And.intro hcl4 (And.intro hp4 ho4)))
          have HRC := hide hrc
          have HCC := hide hcc
          clear hb4 hcl4 hp4 ho4 hrc hcc hcv hoB
          go_region_law
            ((refine step_append_lies _ (by rfl) _ _ _ (by rfl) B 50 i50 (.agg #[.int .i64 0, .string ByteArray.empty]) 2 24 Yba.underlying46 hi50 z50 s50 b50 rfl (by decide) _ (ls ow c i).length (cellsA (ls ow c i)) (by rfl) (hown4.drew.alloc _) ⟨w4.heap.size, 0, none⟩ 1 1 [.int .i64 (i : Nat), .string ByteArray.empty] (by rfl) (by rfl) (World.news_of_block (cs := #[.int .i64 (i : Nat), .string ByteArray.empty]) (t := 50) (fr := (0, 0)) (heap_alloc_new w4 _)) (by simp [Value.oneCell']) (by omega) (by unfold maxLen; omega) (by omega) (by simp; omega) (w4.heap.size + 1) (by simp) ?_; intro g cap5 w5 hown5 hgrow hat hgl; have hk5 : KX B [50] w4 w5 := ((KX.refl B [50] w4).drew.alloc hwB _).grown (hown4.drew.alloc _) (by simp) (by simp; omega) hgrow; have y1 : w5.cell? ⟨cb, c, none⟩ = some (.pointer (some ⟨C c, 0, none⟩)) := (World.cell?_of_block (a := ⟨cb, c, none⟩) (hk5.keep _ _ _ HRC.out (by simp))).trans p1; have y2 : w5.cell? ⟨C c, 4, none⟩ = some (V c) := (World.cell?_of_block (a := ⟨C c, 4, none⟩) (hk5.keep _ _ _ HCC.out (by simp))).trans p2; have y3 : w5.frozen? ⟨C c, 4, none⟩ = false := (World.frozen?_of_block (a := ⟨C c, 4, none⟩) (hk5.keep _ _ _ HCC.out (by simp))).trans p3))
          all_goals
            go_wp2
            go_roundg (n - (i + 1))
            case measure => have := HG.out; omega
            case rel =>
              obtain ⟨hb4, hcl4, hp4, ho4⟩ := HKEEP.out
              have hcl5 := hcl4.app hck (wa := w4.drew.alloc (.cells #[.int .i64 (i : Nat), .string ByteArray.empty] 50)) (x := i) (fun b hb => Below.heap_alloc _ _ _ hb) (by simp) hgrow (hat.imp id (fun h => by omega)) hown5
              have hk6 : KX B [48, 50] w4 (w5.setCell ⟨C c, 4, none⟩ (.slice (some ⟨g, 0, none⟩) ((ls ow c i).length + 1) cap5)) := (hk5.mono (Nat.le_refl _) (by simp)).set (hk5.blk HCC.out (by simp)) (by simp) hcB _ _
              rw [updL_ls HC.out] at hcl5
              exact ⟨_, i + 1, by omega, rfl, by go_num, hcl5, hp4.keep hk6 (by simp), ho4.keep hk6 (by simp), hb4.trans hk6.bel⟩
        · have hlt' : ¬ (i : Int) < (n : Int) := by omega
          obtain rfl : i = n := by omega
          go_wp2
          go_meet
          case rel => exact ⟨V, hcl, hp, ho, hb⟩
    case rest =>
      clear hcl2 hp2 ho2 hb2
      obtain ⟨V, hcl, hp, ho, hb⟩ := hcut
      have hmf := run_make_row' (P := Yba.prog) 26 3 (.int .i64 0) 8 Yba.underlying26 Yba.info3 rfl .i64 .i64 k (by omega) (by omega) wc
      go_upto_block 4 with fail
      clear hmf
      have hwB : B ≤ wc.heap.size := by have := hb.size; have := HB.out; omega
      have hpl := hp.lt
      have hol := ho.lt
      obtain ⟨zz, hzz⟩ : ∃ zz : Nat → Nat, zz = fun _ => 0 := ⟨_, rfl⟩
      have HZ := hide hzz
      have hst : Lst w (((wc.alloc (.cells (madeCells #[.int .i64 0] k) 3)).alloc (.cells #[.bool false, .slice none 0 0, .slice none 0 0, .slice (some ⟨wc.heap.size + 1 + 1, 0, none⟩) 1 1, .slice none 0 0, .slice none 0 0, .slice none 0 0, .slice none 0 0, .slice none 0 0] 59)).alloc (.cells #[.int .i64 9, .int .i64 9, .int .i64 9] 61)) B k cb wc.heap.size (wc.heap.size + 1) (wc.heap.size + 1 + 1) pb ob n C V ow P zz (.slice none 0 0) := by
        have hkx : KX B [] wc (((wc.alloc (.cells (madeCells #[.int .i64 0] k) 3)).alloc (.cells #[.bool false, .slice none 0 0, .slice none 0 0, .slice (some ⟨wc.heap.size + 1 + 1, 0, none⟩) 1 1, .slice none 0 0, .slice none 0 0, .slice none 0 0, .slice none 0 0, .slice none 0 0] 59)).alloc (.cells #[.int .i64 9, .int .i64 9, .int .i64 9] 61)) := (((KX.refl B [] wc).alloc hwB _).alloc (by simp; omega) _).alloc (by simp; omega) _
        refine ⟨hcl.keep hkx (by simp) (by simp) (by simp), hp.keep hkx (by simp), ho.keep hkx (by simp), ?_, ?_, ?_, hb.trans hkx.bel⟩
        · rw [hzz]
          exact ((Ints.made wc k).alloc _).alloc _
        · have := (Blk.new (wc.alloc (.cells (madeCells #[.int .i64 0] k) 3)) [.bool false, .slice none 0 0, .slice none 0 0, .slice (some ⟨wc.heap.size + 1 + 1, 0, none⟩) 1 1, .slice none 0 0, .slice none 0 0, .slice none 0 0, .slice none 0 0, .slice none 0 0] 59).alloc (.cells #[.int .i64 9, .int .i64 9, .int .i64 9] 61)
          rw [show (wc.alloc (.cells (madeCells #[.int .i64 0] k) 3)).heap.size = wc.heap.size + 1 by simp] at this
          exact this
        · have := Blk.new ((wc.alloc (.cells (madeCells #[.int .i64 0] k) 3)).alloc (.cells #[.bool false, .slice none 0 0, .slice none 0 0, .slice (some ⟨wc.heap.size + 1 + 1, 0, none⟩) 1 1, .slice none 0 0, .slice none 0 0, .slice none 0 0, .slice none 0 0, .slice none 0 0] 59)) [.int .i64 9, .int .i64 9, .int .i64 9] 61
          rw [show ((wc.alloc (.cells (madeCells #[.int .i64 0] k) 3)).alloc (.cells #[.bool false, .slice none 0 0, .slice none 0 0, .slice (some ⟨wc.heap.size + 1 + 1, 0, none⟩) 1 1, .slice none 0 0, .slice none 0 0, .slice none 0 0, .slice none 0 0, .slice none 0 0] 59)).heap.size = wc.heap.size + 1 + 1 by simp] at this
          refine ⟨by simp, .inr ⟨_, _, #[.int .i64 9, .int .i64 9, .int .i64 9], rfl, by omega, this, by omega, by unfold maxLen; omega, rfl, rfl⟩⟩
      clear hcl hp ho hb hzz
      generalize ((wc.alloc (.cells (madeCells #[.int .i64 0] k) 3)).alloc (.cells #[.bool false, .slice none 0 0, .slice none 0 0, .slice (some ⟨wc.heap.size + 1 + 1, 0, none⟩) 1 1, .slice none 0 0, .slice none 0 0, .slice none 0 0, .slice none 0 0, .slice none 0 0] 59)).alloc (.cells #[.int .i64 9, .int .i64 9, .int .i64 9] 61) = w3 at hst ⊢
      obtain ⟨ib, hib⟩ : ∃ ib, wc.heap.size + 1 + 1 = ib := ⟨_, rfl⟩
      rw [hib] at hst
      obtain ⟨sb, hsb⟩ : ∃ sb, wc.heap.size + 1 = sb := ⟨_, rfl⟩
      rw [hsb] at hst ⊢
      generalize wc.heap.size = fb at *
      have hfp : fb ≠ pb := by omega
      have hfo : fb ≠ ob := by omega
      have hfB : B ≤ fb := hwB
      have hsB : B ≤ sb := by omega
      clear hib hsb hwB hpl hol
      obtain ⟨fs, hfs⟩ : ∃ fs : Nat → Nat, fs = fsOf o' n' ow n := ⟨_, rfl⟩
      have HFS := hide hfs
      clear hfs
      go_cut [16, 17, 18] (fun s16 s17 s18 wx => ∃ ru, wx.ownsRow B 63 3 ru (rs ow n k).length (cellsR C fs (rs ow n k)) ∧ Lst w wx B k cb fb sb ib pb ob n C V ow P fs ru)
      case first =>
        go_wp2_with fail
        go_loopg [16] k (fun g s16 wr => ∃ ru F i, i ≤ k ∧ Hid (g = k - i) ∧ s16 = .int .i64 (i : Nat) ∧ Hid (F = fun c => if c < i then fs c else 0) ∧ wr.ownsRow B 63 3 ru (rs ow n i).length (cellsR C fs (rs ow n i)) ∧ Lst w wr B k cb fb sb ib pb ob n C V ow P F ru)
        case atStart => exact ⟨_, zz, 0, Nat.zero_le _, rfl, rfl, HZ.out.trans (by funext c; simp), World.ownsRow_nil _ _ _ _, hst⟩
        case round =>
          clear hst HZ
          obtain ⟨ru, F, i, hi, HG, rfl, HF, hru, hst⟩ := hrel
          by_cases hlt : i < k
          · have hlt' : (i : Int) < (k : Int) := by omega
            have p1 := hst.cl.ptr hlt
            obtain ⟨va, vcap, hV, _⟩ := own_form (hst.cl.own i hlt)
            have p2 := hst.cl.val hlt
            rw [hV] at p2
            obtain ⟨L, hL⟩ : ∃ L, (ls ow i n).length = L := ⟨_, rfl⟩
            have hLn : L ≤ 1024 := by rw [← hL]; have := ls_length_le ow i n; omega
            rw [show ((fun c => ls ow c n) i).length = L from hL] at p2
            have HL := hide hL
            clear hV hL
            rcases Nat.eq_zero_or_pos L with hL0 | hL0
            · subst hL0
              go_wp2
              go_roundg (k - (i + 1))
              case measure => have := HG.out; omega
              case rel =>
                have hrs : rs ow n (i + 1) = rs ow n i := by rw [rs_succ, if_neg (by rw [HL.out]; omega)]
                refine ⟨ru, F, i + 1, by omega, rfl, by go_num, ?_, ?_, hst⟩
                · refine HF.out.trans ?_
                  funext c
                  by_cases e : c = i
                  · subst e
                    rw [if_neg (by omega), if_pos (by omega), HFS.out]
                    unfold fsOf
                    rw [if_pos HL.out]
                  · by_cases e2 : c < i
                    · rw [if_pos e2, if_pos (by omega)]
                    · rw [if_neg e2, if_neg (by omega)]
                · rw [hrs]
                  exact hru
            · have hL1 : ¬ ((L : Int) = 0) := by omega
              have HL0 := hide hL0
              go_upto_if 128 with fail
              go_cut [18] (fun s18 wx => s18 = .int .i64 (fs i : Nat) ∧ wx = wr)
              case first =>
                rcases Nat.eq_zero_or_pos n' with hn0 | hn0
                · subst hn0
                  have hf0 : fs i = 0 := by
                    rw [HFS.out]
                    unfold fsOf
                    rw [if_neg (by rw [HL.out]; omega), if_pos rfl]
                  go_wp2
                  go_meet
                  case rel => exact ⟨by rw [hf0]; rfl, rfl⟩
                · have hn0' : (0 : Int) < (n' : Int) := by omega
                  have HQ : Hid (fs i = o' (i % n') % L) := by
                    show fs i = _
                    rw [HFS.out]
                    unfold fsOf
                    rw [if_neg (by rw [HL.out]; omega), if_neg (by omega), HL.out]
                  obtain ⟨b, f, rfl, hby⟩ := HIN'.out.later HB.out hst.bel hn0
                  have hqm : (i : Int) % (n' : Int) = ((i % n' : Nat) : Int) := (Int.natCast_emod _ _).symm
                  have hqn : i % n' < n' := Nat.mod_lt _ hn0
                  generalize i % n' = q at *
                  have hqn' : (q : Int) < (n' : Int) := by omega
                  have hx := hby q hqn
                  have hoi := HIN'.out.2 q
                  have hfm : ((o' q : Nat) : Int) % (L : Int) = ((fs i : Nat) : Int) := by
                    rw [HQ.out]
                    exact (Int.natCast_emod _ _).symm
                  clear hby
                  generalize o' q = x at *
                  go_wp2
                  go_meet
                  case rel => exact ⟨by first | rfl | (rw [hfm]), rfl⟩
              case rest =>
                obtain ⟨rfl, rfl⟩ := hcut
                clear p1 p2 hL1
                obtain ⟨y1, hy1⟩ := hst.fs.there hlt
                have hz1 := hst.fs.free i
                have hst1 := hst.put hfp hfo hfB hlt (fs i)
                have hru1 : (wc.setCell ⟨fb, i, none⟩ (.int .i64 (fs i : Nat))).ownsRow B 63 3 ru (rs ow n i).length (cellsR C fs (rs ow n i)) := by
                  obtain ⟨cs, hc⟩ := hst.fs.blk
                  exact own_keep hru ((KX.refl B [3] wc).set hc (by simp) hfB _ _) (by simp)
                go_upto_region 30 with fail
                generalize wc.setCell ⟨fb, i, none⟩ (.int .i64 (fs i : Nat)) = w4 at *
                clear hy1 hz1 hst hru
                have p1 := hst1.cl.ptr hlt
                have s2 : w4.cell? ⟨sb, 2, none⟩ = some ru := by rw [hst1.st.cell]; rfl
                have z2 := hst1.st.free 2
                obtain ⟨rc, hrc, _, _⟩ := hst1.cl.row
                have hn1 : cb ≠ sb := hrc.ne hst1.st (by decide)
                have hn2 : sb ≠ cb := Ne.symm hn1
                have hl1 := hrc.lt
                have hl2 := hst1.st.lt
                have hwB : B ≤ w4.heap.size := by omega
                have hll : (rs ow n i).length ≤ 1024 := by have := rs_length_le ow n i; omega
                have HST := hide hst1
                have HRC := hide hrc
                have HSB := hide hst1.st
                clear hst1 hrc hoB hL0
                go_region_law
                  ((refine step_append_lies _ (by rfl) _ _ _ (by rfl) B 63 i63 (.agg #[.int .i64 0, .pointer none, .int .i64 0]) 3 24 Yba.underlying53 hi63 z63 s63 b63 rfl (by decide) _ (rs ow n i).length (cellsR C fs (rs ow n i)) (by rfl) (hru1.drew.alloc _) ⟨w4.heap.size, 0, none⟩ 1 1 [.int .i64 (i : Nat), .pointer (some ⟨C i, 0, none⟩), .int .i64 (fs i : Nat)] (by rfl) (by rfl) (World.news_of_block (cs := #[.int .i64 (i : Nat), .pointer (some ⟨C i, 0, none⟩), .int .i64 (fs i : Nat)]) (t := 63) (fr := (0, 0)) (heap_alloc_new w4 _)) (by simp [Value.oneCell']) (by omega) (by unfold maxLen; omega) (by omega) (by simp; omega) (w4.heap.size + 1) (by simp) ?_; intro g cap5 w5 hown5 hgrow hat hgl; have hk5 : KX B [63] w4 w5 := ((KX.refl B [63] w4).drew.alloc hwB _).grown (hru1.drew.alloc _) (by simp) (by simp; omega) hgrow; have y1 : w5.cell? ⟨cb, i, none⟩ = some (.pointer (some ⟨C i, 0, none⟩)) := (World.cell?_of_block (a := ⟨cb, i, none⟩) (hk5.keep _ _ _ HRC.out (by simp))).trans p1; have y2 : w5.cell? ⟨sb, 2, none⟩ = some ru := (World.cell?_of_block (a := ⟨sb, 2, none⟩) (hk5.keep _ _ _ HSB.out (by simp))).trans s2; have y3 : w5.frozen? ⟨sb, 2, none⟩ = false := (World.frozen?_of_block (a := ⟨sb, 2, none⟩) (hk5.keep _ _ _ HSB.out (by simp))).trans z2))
                all_goals
                  go_wp2
                  go_roundg (k - (i + 1))
                  case measure => have := HG.out; omega
                  case rel =>
                    have hrs : rs ow n (i + 1) = rs ow n i ++ [i] := by rw [rs_succ, if_pos (by rw [HL.out]; exact HL0.out)]
                    refine ⟨.slice (some ⟨g, 0, none⟩) ((rs ow n i).length + 1) cap5, updN F i (fs i), i + 1, by omega, rfl, by go_num, ?_, ?_, HST.out.more hk5 hsB _⟩
                    · show updN F i (fs i) = _
                      rw [HF.out]
                      exact first_succ fs i
                    · rw [hrs, cellsR_snoc, List.length_append]
                      exact own_keep hown5 ((KX.refl B [59] w5).set (hk5.blk HSB.out (by simp)) (by simp) hsB _ _) (by simp)
          · have hlt' : ¬ (i : Int) < (k : Int) := by omega
            obtain rfl : i = k := by omega
            go_wp2
            go_meet
            case rel =>
              refine ⟨ru, hru, hst.re fun c hc => ?_⟩
              rw [HF.out]
              exact (if_pos hc).symm
      case rest =>
        clear hst HZ
        obtain ⟨ru, hru, hst⟩ := hcut
        have ok : (dealt ow n k fs).Ok := dealt_ok hk4 hn (fun c _ h => by rw [HFS.out]; exact fsOf_lt o' n' ow n c h)
        obtain ⟨ro, rc, rb, rfl, hro, hrn⟩ := rn_of (fs := fs) hst.cl hru
        go_upto_region 31 with fail
        go_cut [] (fun wx => Ordered (dealt ow n k fs) B sb (fun io he => stoL (.slice ro (dealt ow n k fs).m rc) io he) wc wx)
        case first =>
          as_aux_lemma =>
            go_wp2_with fail
            refine (order_walk (dealt ow n k fs) ok B sb rb _ _ _ (.bool false) (.slice none 0 0) (.slice none 0 0) (.slice none 0 0) (.slice none 0 0) (.slice none 0 0) ro rc ib 1 1 [.int .i64 9, .int .i64 9, .int .i64 9] wc hsB hrn hro hst.st hst.io).mono ?_
            rintro e w5 ⟨rfl, hord⟩
            go_wp2
            go_meet
            case rel => exact hord
        case rest =>
          obtain ⟨ps, io, he, htold, hsb, hio, hkx⟩ := hcut
          have hrn2 := hrn.keep hkx (by simp) (by simp) (by simp)
          have hpos := hst.pos.keep hkx (by simp)
          have howr := hst.own.keep hkx (by simp)
          have hfsr := hst.fs.keep hkx (by simp)
          have hbel := hst.bel.trans hkx.bel
          clear hrn hst hru hkx
          have HTO := hide htold
          have HRN := hide hrn2
          have HSB := hide hsb
          have HIO := hide hio
          have HBEL := hide hbel
          clear htold hrn2 hsb hio hbel
          obtain ⟨BW, hBW⟩ : ∃ BW, wc.heap.size = BW := ⟨_, rfl⟩
          have hwn : (wc.alloc (.cells #[] 3)).ownsRow BW 3 1 (.slice (some ⟨BW, 0, none⟩) 0 0) (want ow fs 0).length (cellsI (want ow fs 0)) := by
            have := Blk.new wc [] 3
            rw [hBW] at this
            exact ⟨by simp [want, cellsI], .inr ⟨_, _, #[], rfl, Nat.le_refl _, this, Nat.le_refl _, Nat.zero_le _, rfl, rfl⟩⟩
          have hbw : Below BW wc (wc.alloc (.cells #[] 3)) := (Below.refl BW wc).alloc (by omega) _
          have hpb : pb < BW := by have := hpos.lt; omega
          have hobl : ob < BW := by have := howr.lt; omega
          have hfbl : fb < BW := by have := hfsr.lt; omega
          go_upto_block 6 with fail
          generalize wc.alloc (.cells #[] 3) = w6 at hwn hbw ⊢
          go_cut [19, 20] (fun s19 s20 wx => wx.ownsRow BW 3 1 s19 (want ow fs n).length (cellsI (want ow fs n)) ∧ Below BW wc wx)
          case first =>
            as_aux_lemma =>
              go_wp2_with fail
              go_loopg [19, 20] n (fun g s19 s20 wr => ∃ i, i ≤ n ∧ Hid (g = n - i) ∧ s20 = .int .i64 (i : Nat) ∧ wr.ownsRow BW 3 1 s19 (want ow fs i).length (cellsI (want ow fs i)) ∧ Below BW wc wr)
              case atStart => exact ⟨0, Nat.zero_le _, rfl, rfl, hwn, hbw⟩
              case round =>
                clear hwn hbw
                obtain ⟨i, hi, HG, rfl, hwn, hbw⟩ := hrel
                by_cases hlt : i < n
                · have hlt' : (i : Int) < (n : Int) := by omega
                  have c1 := (hpos.below hbw hpb).cell hlt
                  have c2 := (howr.below hbw hobl).cell hlt
                  have hoi := hoB i
                  have c3 := (hfsr.below hbw hfbl).cell hoi
                  have HWS := hide (want_succ ow fs i)
                  have hPi : P i = (ls ow (ow i) i).length := by rw [HP.out]
                  rw [← hPi] at HWS
                  generalize ow i = c at *
                  have hoi' : (c : Int) < (k : Int) := by omega
                  clear hPi
                  generalize P i = p at *
                  generalize fs c = f at *
                  go_upto_region 36 with fail
                  go_quiet (fail)
                  have hown3 : (wr.drewN nq).ownsRow BW 3 1 _ _ _ := hwn
                  have hbw3 := hbw.trans ((KX.refl BW [] wr).drewN nq).bel
                  clear c1 c2 c3 hwn hbw
                  generalize wr.drewN nq = w7 at *
                  have hwB : BW ≤ w7.heap.size := by have := hbw3.size; omega
                  have hll : (want ow fs i).length ≤ 1024 := by have := want_le ow fs i; omega
                  by_cases hge : f ≤ p
                  · have hge' : (f : Int) ≤ (p : Int) := by omega
                    have HW2 : Hid (want ow fs (i + 1) = want ow fs i ++ [i]) := HWS.out.trans (if_pos hge)
                    clear HWS
                    go_wp2_with ((refine wpList_append_lies _ (by rfl) _ _ _ (by rfl) BW 3 i3 (.int .i64 0) 1 8 Yba.underlying26 hi3 z3 s3 b3 rfl (by decide) _ (want ow fs i).length (cellsI (want ow fs i)) (by rfl) (hown3.alloc _) ⟨w7.heap.size, 0, none⟩ 1 1 [.int .i64 (i : Nat)] (by rfl) (by rfl) (World.news_of_block (cs := #[.int .i64 (i : Nat)]) (t := 3) (fr := (0, 0)) (heap_alloc_new w7 _)) (by simp [Value.oneCell']) (by omega) (by unfold maxLen; omega) (by omega) (by simp; omega) (w7.heap.size + 1) (by simp) ?_; intro g cap5 w8 hown5 hgrow hat hgl; have hk5 : KX BW [3] w7 w8 := ((KX.refl BW [3] w7).alloc hwB _).grown (hown3.alloc _) (by simp) (by simp; omega) hgrow; clear hgrow hat hgl))
                    go_roundg (n - (i + 1))
                    case measure => have := HG.out; omega
                    case rel =>
                      refine ⟨i + 1, by omega, rfl, by go_num, ?_, hbw3.trans hk5.bel⟩
                      rw [HW2.out, cellsI_snoc, List.length_append]
                      exact hown5
                  · have hge' : ¬ (f : Int) ≤ (p : Int) := by omega
                    have HW2 : Hid (want ow fs (i + 1) = want ow fs i) := HWS.out.trans (if_neg hge)
                    clear HWS
                    go_wp2
                    go_roundg (n - (i + 1))
                    case measure => have := HG.out; omega
                    case rel =>
                      refine ⟨i + 1, by omega, rfl, by go_num, ?_, hbw3⟩
                      rw [HW2.out]
                      exact hown3
                · have hlt' : ¬ (i : Int) < (n : Int) := by omega
                  obtain rfl : i = n := by omega
                  go_wp2
                  go_meet
                  case rel => exact ⟨hwn, hbw⟩
          case rest =>
            clear hwn hbw
            obtain ⟨hwant, hbw⟩ := hcut
            have hrn := HRN.out.later hbw hBW
            have hsb := HSB.out.later hbw hBW
            have hio := own_later HIO.out hbw hBW
            have hbel : Below B w wc := HBEL.out.trans (hbw.mono (by have := HBEL.out.size; have := HB.out; omega))
            clear hpos howr hfsr hpb hobl hfbl HRN HSB HIO HBEL hbw
            have htw := told_want (fun i _ => hoB i) HTO.out
            have hln : (lines (dealt ow n k fs) ps).length ≤ 1024 := by
              rw [htw, List.length_map]
              have := want_le ow fs n
              omega
            have hgood := HTO.out.good
            have hpl : ps.length ≤ 1024 := Nat.le_trans (parts_le _ ps (fun p hp => (hgood.each p hp).2.2.1)) hln
            obtain ⟨R, hR⟩ : ∃ R, R = dealt ow n k fs := ⟨_, rfl⟩
            rw [← hR] at hrn hsb htw hln hgood ok hro
            have hr4 : R.m ≤ 4 := ok.m4
            have HTW := hide htw
            have HGO := hide hgood
            have hwant2 : wc.ownsRow BW 3 1 u19 (lines R ps).length (cellsZ (lines R ps)) := by
              rw [htw, List.length_map, ← cellsI_eq]
              exact hwant
            clear hwant HTO hR htw hgood hoB
            generalize (fun r => C ((rs ow n k).getD r 0)) = C' at hrn
            generalize (fun r => blkOf (V ((rs ow n k).getD r 0))) = G' at hrn
            generalize (fun r => (((rs ow n k).getD r 0 : Nat) : Int)) = T' at hrn
            clear HFS HP HOW
            obtain ⟨ia, pg, pcap, rfl, hpp⟩ := own_parts hio
            obtain ⟨BG, hBG⟩ : ∃ BG, wc.heap.size = BG := ⟨_, rfl⟩
            have hgn : (wc.alloc (.cells #[] 3)).ownsRow BG 3 1 (.slice (some ⟨BG, 0, none⟩) 0 0) (soFar R ps 0).length (cellsZ (soFar R ps 0)) := by
              have := Blk.new wc [] 3
              rw [hBG] at this
              exact ⟨rfl, .inr ⟨_, _, #[], rfl, Nat.le_refl _, this, Nat.le_refl _, Nat.zero_le _, rfl, rfl⟩⟩
            have hbg : Below BG wc (wc.alloc (.cells #[] 3)) := (Below.refl BG wc).alloc (by omega) _
            go_upto_region 40 with fail
            generalize wc.alloc (.cells #[] 3) = w6 at hgn hbg ⊢
            have s3c : w6.cell? ⟨sb, 3, none⟩ = some (.slice ia ps.length pcap) := by rw [(hsb.later hbg hBG).cell]; rfl
            have hpv : ∀ q : Pt, ps[0]? = some q → ¬ ((q.1 : Nat) : Int) = -1 := fun q _ => by omega
            go_upto_block 8 with fail
            clear s3c
            go_cut [21, 22, 24, 25, 26, 190] (fun s21 s22 s24 s25 s26 s190 wx => wx.ownsRow BG 3 1 s21 (lines R ps).length (cellsZ (lines R ps)) ∧ Below BG wc wx)
            case first =>
              as_aux_lemma =>
                go_wp2_with fail
                go_loopg [21, 22, 190] ps.length (fun g s21 s22 s190 wr => ∃ x pv, x ≤ ps.length ∧ Hid (g = ps.length - x) ∧ s190 = .int .i64 (x : Nat) ∧ s22 = .int .i64 pv ∧ Hid (∀ q : Pt, ps[x]? = some q → ¬ ((q.1 : Nat) : Int) = pv) ∧ wr.ownsRow BG 3 1 s21 (soFar R ps x).length (cellsZ (soFar R ps x)) ∧ Below BG wc wr)
                case atStart => exact ⟨0, -1, Nat.zero_le _, rfl, rfl, rfl, hpv, hgn, hbg⟩
                case round =>
                  clear hgn hbg hpv
                  obtain ⟨x, pv, hx, HG, rfl, rfl, HPV, hgn, hbg⟩ := hrel
                  by_cases hlt : x < ps.length
                  · have hlt' : (x : Int) < (ps.length : Int) := by omega
                    obtain ⟨rfl, hpgl, hpc⟩ := hpp (by omega)
                    obtain ⟨r, lo, hi, hpx⟩ : ∃ r lo hi, ps[x]? = some (r, lo, hi) := ⟨_, _, _, List.getElem?_eq_getElem hlt⟩
                    obtain ⟨hrm, hF, hlo, hhi⟩ := HGO.out.each _ (List.mem_of_getElem? hpx)
                    have HPX := hide hpx
                    have hnp := HPV.out _ hpx
                    obtain ⟨t0', t1', t2'⟩ := hpc x r lo hi hpx
                    have t0 := (hbg.cell (p := ⟨pg, x * 3, none⟩) (by rw [← hBG]; exact hpgl)).trans t0'
                    have t1 := (hbg.cell (p := ⟨pg, x * 3 + 1, none⟩) (by rw [← hBG]; exact hpgl)).trans t1'
                    have t2 := (hbg.cell (p := ⟨pg, x * 3 + 2, none⟩) (by rw [← hBG]; exact hpgl)).trans t2'
                    clear t0' t1' t2' hpx
                    go_upto_region 43 with fail
                    clear t0 t1 t2 hpc hpp
                    have hwB : BG ≤ wr.heap.size := by have := hbg.size; omega
                    have hx4 := Blk.new wr [.int .i64 (r : Nat), .int .i64 (lo : Nat), .int .i64 (hi : Nat)] 61
                    have hbg4 := hbg.alloc hwB (.cells #[.int .i64 (r : Nat), .int .i64 (lo : Nat), .int .i64 (hi : Nat)] 61)
                    have hgn4 := own_keep hgn ((KX.refl BG [] wr).alloc hwB (.cells #[.int .i64 (r : Nat), .int .i64 (lo : Nat), .int .i64 (hi : Nat)] 61)) (by simp)
                    clear hgn hbg
                    generalize wr.alloc (.cells #[.int .i64 (r : Nat), .int .i64 (lo : Nat), .int .i64 (hi : Nat)] 61) = w4 at *
                    generalize wr.heap.size = xb at *
                    obtain rfl := hro (by omega)
                    have hrn4 := hrn.later hbg4 hBG
                    have hsb4 := hsb.later hbg4 hBG
                    have x0 : w4.cell? ⟨xb, 0, none⟩ = some (.int .i64 (r : Nat)) := by rw [hx4.cell]; rfl
                    have x1 : w4.cell? ⟨xb, 1, none⟩ = some (.int .i64 (lo : Nat)) := by rw [hx4.cell]; rfl
                    have x2 : w4.cell? ⟨xb, 2, none⟩ = some (.int .i64 (hi : Nat)) := by rw [hx4.cell]; rfl
                    have s2 : w4.cell? ⟨sb, 2, none⟩ = some (.slice (some ⟨rb, 0, none⟩) R.m rc) := by rw [hsb4.cell]; rfl
                    go_cut [212] (fun s212 wx => s212 = .bool false ∧ ∃ nq, wx = w4.drewN nq)
                    case first =>
                      have d1 : decide (((r : Nat) : Int) < 0) = false := by simp
                      have d2 : decide (((R.m : Nat) : Int) ≤ ((r : Nat) : Int)) = false := by simp; omega
                      have d3 : decide (((r : Nat) : Int) = pv) = false := by simpa using hnp
                      go_quiet (fail)
                      go_wp2
                      go_meet
                      case rel =>
                        have h1 : ¬ R.m ≤ r := by omega
                        exact ⟨by simp [h1, hnp], _, rfl⟩
                    case rest =>
                      obtain ⟨rfl, nq, rfl⟩ := hcut
                      have hbg5 := hbg4.trans ((KX.refl BG [] w4).drewN nq).bel
                      have hgn5 := own_keep hgn4 ((KX.refl BG [] w4).drewN nq) (by simp)
                      have hx5 := hx4.drewN nq
                      have hrn5 : Rn (w4.drewN nq) R rb C' G' T' := ⟨hrn4.runs, hrn4.cls, hrn4.acc⟩
                      have hsb5 := hsb4.drewN nq
                      clear hbg4 hgn4 hx4 hrn4 hsb4 x0 x1 x2 s2 hnp
                      generalize w4.drewN nq = w5 at *
                      have x0 : w5.cell? ⟨xb, 0, none⟩ = some (.int .i64 (r : Nat)) := by rw [hx5.cell]; rfl
                      have s2 : w5.cell? ⟨sb, 2, none⟩ = some (.slice (some ⟨rb, 0, none⟩) R.m rc) := by rw [hsb5.cell]; rfl
                      obtain ⟨r0, r1, r2⟩ := hrn5.run hrm
                      have hrm' : ((r : Nat) : Int) < ((R.m : Nat) : Int) := by omega
                      have hxl := hx5.lt
                      have hsl5 := hsb5.lt
                      have hrl5 : rb < w5.heap.size := by
                        obtain ⟨cs, q, _⟩ := hrn5.runs r hrm
                        exact q.lt
                      have hwB5 : BG ≤ w5.heap.size := by omega
                      go_upto_region 45 with fail
                      go_cut [25] (fun s25 wx => ∃ yb, s25 = .pointer (some ⟨yb, 0, none⟩) ∧ Blk wx yb 63 [.int .i64 (T' r), .pointer (some ⟨C' r, 0, none⟩), .int .i64 (R.F r : Nat)] ∧ KX BG [] w5 wx)
                      case first =>
                        go_region
                        go_wp2
                        go_meet
                        case rel => exact ⟨_, rfl, (Blk.new w5 [.int .i64 (T' r), .pointer (some ⟨C' r, 0, none⟩), .int .i64 (R.F r : Nat)] 63).drew, ((KX.refl BG [] w5).alloc hwB5 _).drew⟩
                      case rest =>
                        obtain ⟨yb, rfl, hy6, hk6⟩ := hcut
                        have hbg6 := hbg5.trans hk6.bel
                        have hgn6 := own_keep hgn5 hk6 (by simp)
                        have hx6 := hk6.blk hx5 (by simp)
                        have hrn6 := hrn5.keep hk6 (by simp) (by simp) (by simp)
                        clear hbg5 hgn5 hx5 hrn5 hsb5 hk6 x0 s2 r0 r1 r2 hxl hsl5 hrl5 hwB5
                        have x1 : wc.cell? ⟨xb, 1, none⟩ = some (.int .i64 (lo : Nat)) := by rw [hx6.cell]; rfl
                        have x2 : wc.cell? ⟨xb, 2, none⟩ = some (.int .i64 (hi : Nat)) := by rw [hx6.cell]; rfl
                        have y1 : wc.cell? ⟨yb, 1, none⟩ = some (.pointer (some ⟨C' r, 0, none⟩)) := by rw [hy6.cell]; rfl
                        have y2 : wc.cell? ⟨yb, 2, none⟩ = some (.int .i64 (R.F r : Nat)) := by rw [hy6.cell]; rfl
                        obtain ⟨ccap, y3⟩ := hrn6.cl hrm
                        have hNl := ok.len r hrm
                        go_upto_region 46 with fail
                        go_cut [243] (fun s243 wx => s243 = .bool false ∧ ∃ nq, wx = wc.drewN nq)
                        case first =>
                          have d4 : decide (((lo : Nat) : Int) < ((R.F r : Nat) : Int)) = false := by simp; omega
                          have d5 : decide (((hi : Nat) : Int) ≤ ((lo : Nat) : Int)) = false := by simp; omega
                          have d6 : decide (((R.N r : Nat) : Int) < ((hi : Nat) : Int)) = false := by simp; omega
                          go_quiet (fail)
                          go_wp2
                          go_meet
                          case rel =>
                            have h1 : ¬ lo < R.F r := by omega
                            have h2 : ¬ hi ≤ lo := by omega
                            have h3 : ¬ R.N r < hi := by omega
                            exact ⟨by simp [h1, h2, h3], _, rfl⟩
                        case rest =>
                          obtain ⟨rfl, nq2, rfl⟩ := hcut
                          have hbg7 := hbg6.trans ((KX.refl BG [] wc).drewN nq2).bel
                          have hgn7 := own_keep hgn6 ((KX.refl BG [] wc).drewN nq2) (by simp)
                          have hx7 := hx6.drewN nq2
                          have hy7 := hy6.drewN nq2
                          have hrn7 : Rn (wc.drewN nq2) R rb C' G' T' := ⟨hrn6.runs, hrn6.cls, hrn6.acc⟩
                          clear hbg6 hgn6 hx6 hy6 hrn6 x1 x2 y1 y2 y3
                          generalize wc.drewN nq2 = w7 at *
                          have x1 : w7.cell? ⟨xb, 1, none⟩ = some (.int .i64 (lo : Nat)) := by rw [hx7.cell]; rfl
                          have HLE : Hid ((soFar R ps x).length + (hi - lo) ≤ 1024) := by
                            show _ ≤ _
                            have h1 := soFar_le R ps (x + 1)
                            rw [soFar_succ R HPX.out, List.length_append, part_length] at h1
                            omega
                          have hgn8 : w7.ownsRow BG 3 1 u21 ((soFar R ps x).length + (lo - lo)) (cellsZ (soFar R ps x ++ part R r lo lo)) := by
                            rw [part_start, List.append_nil, Nat.sub_self]
                            exact hgn7
                          clear hgn7
                          go_upto_block 10 with fail
                          clear x1
                          go_cut [21, 26] (fun s21 s26 wx => wx.ownsRow BG 3 1 s21 (soFar R ps (x + 1)).length (cellsZ (soFar R ps (x + 1))) ∧ KX BG [3] w7 wx)
                          case first =>
                            go_wp2_with fail
                            go_loopg [21, 26] (hi - lo) (fun g s21 s26 wr => ∃ j, lo ≤ j ∧ j ≤ hi ∧ Hid (g = hi - j) ∧ s26 = .int .i64 (j : Nat) ∧ wr.ownsRow BG 3 1 s21 ((soFar R ps x).length + (j - lo)) (cellsZ (soFar R ps x ++ part R r lo j)) ∧ KX BG [3] w7 wr)
                            case atStart => exact ⟨lo, Nat.le_refl _, by omega, rfl, rfl, hgn8, KX.refl BG [3] w7⟩
                            case round =>
                              clear hgn8
                              obtain ⟨j, hj1, hj2, HG2, rfl, hgn, hkx⟩ := hrel
                              have x2 : wr.cell? ⟨xb, 2, none⟩ = some (.int .i64 (hi : Nat)) := by rw [(hkx.blk hx7 (by simp)).cell]; rfl
                              have y1 : wr.cell? ⟨yb, 1, none⟩ = some (.pointer (some ⟨C' r, 0, none⟩)) := by rw [(hkx.blk hy7 (by simp)).cell]; rfl
                              have hrn8 := hrn7.keep hkx (by simp) (by simp) (by simp)
                              obtain ⟨ccap, y3⟩ := hrn8.cl hrm
                              by_cases hjl : j < hi
                              · have hjl' : (j : Int) < (hi : Int) := by omega
                                have hjN : j < R.N r := by omega
                                have y4 := hrn8.line hrm hjN
                                have hwB8 : BG ≤ wr.heap.size := by have := hkx.bel.size; have := hx7.lt; omega
                                have hll : (soFar R ps x).length + (j - lo) ≤ 1024 := by have := HLE.out; omega
                                go_wp2_with ((refine wpList_append_lies _ (by rfl) _ _ _ (by rfl) BG 3 i3 (.int .i64 0) 1 8 Yba.underlying26 hi3 z3 s3 b3 rfl (by decide) _ ((soFar R ps x).length + (j - lo)) (cellsZ (soFar R ps x ++ part R r lo j)) (by rfl) (hgn.alloc _) ⟨wr.heap.size, 0, none⟩ 1 1 [.int .i64 (R.A r j)] (by rfl) (by rfl) (World.news_of_block (cs := #[.int .i64 (R.A r j)]) (t := 3) (fr := (0, 0)) (heap_alloc_new wr _)) (by simp [Value.oneCell']) (by omega) (by unfold maxLen; omega) (by omega) (by simp; omega) (wr.heap.size + 1) (by simp) ?_; intro g cap5 w8 hown5 hgrow hat hgl; have hk5 : KX BG [3] wr w8 := ((KX.refl BG [3] wr).alloc hwB8 _).grown (hgn.alloc _) (by simp) (by simp; omega) hgrow; clear hgrow hat hgl))
                                go_roundg (hi - (j + 1))
                                case measure => have := HG2.out; omega
                                case rel =>
                                  refine ⟨j + 1, by omega, by omega, rfl, by go_num, ?_, hkx.trans hk5⟩
                                  rw [part_succ R r hj1, ← List.append_assoc, cellsZ_snoc, show (soFar R ps x).length + (j + 1 - lo) = (soFar R ps x).length + (j - lo) + 1 by omega]
                                  exact hown5
                              · have hjl' : ¬ (j : Int) < (hi : Int) := by omega
                                obtain rfl : j = hi := by omega
                                go_wp2
                                go_meet
                                case rel =>
                                  refine ⟨?_, hkx⟩
                                  rw [soFar_succ R HPX.out, List.length_append, part_length]
                                  exact hgn
                          case rest =>
                            clear hgn8
                            obtain ⟨hgn9, hk9⟩ := hcut
                            have x0 : wc.cell? ⟨xb, 0, none⟩ = some (.int .i64 (r : Nat)) := by rw [(hk9.blk hx7 (by simp)).cell]; rfl
                            go_wp2
                            go_roundg (ps.length - (x + 1))
                            case measure => have := HG.out; omega
                            case rel =>
                              refine ⟨x + 1, (r : Nat), by omega, rfl, by go_num, rfl, ?_, hgn9, hbg7.trans hk9.bel⟩
                              intro q hq
                              have := HGO.out.next x _ _ HPX.out hq
                              intro h
                              exact this (by show r = q.1; omega)
                  · have hlt' : ¬ (x : Int) < (ps.length : Int) := by omega
                    obtain rfl : x = ps.length := by omega
                    go_wp2
                    go_meet
                    case rel => exact ⟨by rw [soFar_all] at hgn; exact hgn, hbg⟩
            case rest =>
              clear hgn hpv
              obtain ⟨hgot, hbg2⟩ := hcut
              have hwant3 := own_later hwant2 hbg2 hBG
              have hB9 : B ≤ BG := by have := hbel.size; have := HB.out; omega
              have hend := hide (hbel.trans (hbg2.mono hB9))
              clear hwant2 hbg2 hbg hbel
              obtain ⟨a1, b1, c1, rfl, e1, k1⟩ := own_ints rfl hgot
              obtain ⟨a2, b2, c2, rfl, e2, k2⟩ := own_ints rfl hwant3
              clear hgot hwant3
              have hq : (lines R ps).length ≤ 1048576 := by omega
              go_wp2_with fail
              refine (equal_walk a1 a2 b1 b2 (lines R ps).length c1 c2 (fun j => (lines R ps).getD j 0) wc hq e1 e2 k1 k2).mono ?_
              rintro e w9 ⟨rfl, q, rfl⟩
              go_wp2
              go_ret
              exact ⟨rfl, hend.out.trans ((KX.refl B [] wc).drewN q).bel⟩
end Go.Proofs.Ybulkemg
