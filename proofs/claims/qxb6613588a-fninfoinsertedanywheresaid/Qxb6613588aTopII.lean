/-
  FnInfoInsertedAnywhere, walked.
-/
import Derived.Test.Qxb6613588aTops1
import Derived.Test.Qxb6613588aBytes22
import Derived.Deep.RegionLaw
import Derived.Deep.CutRange
import Derived.Deep.DeepCutAuto
namespace Go.Proofs.Qxb6613588a
open Go.RowKit

theorem ifaceCells_one (D : List DV) : ∀ u ∈ D.map DV.val, u.oneCell' = true := by
  intro u hu
  obtain ⟨d, _, rfl⟩ := List.mem_map.1 hu
  rfl

theorem info50 : (Try.prog.info? 50).map (fun i => (i.zero, i.size, i.bytes)) = some (some (.agg #[.string ⟨#[]⟩, .int .i64 0, .int .i64 0, .slice none 0 0, .string ⟨#[]⟩, .int .i64 0, .int .i64 0, .string ⟨#[]⟩, .int .i64 0, .int .i64 0]), 10, 120) := by kernel_rfl

/-- the file with the info block put in at k -/
theorem infoFile {w0 w1 W w : World} {p q : ByteArray} {fb gb ib bb k : Nat} {dv vi vt vb dv3 : Value} {S : List Spec} {D : List DV} (hB : Built w0 w1 p fb dv vi vt vb S D) (hl : load S ≤ 131072) (hn : S.length ≤ 131072) (h0 : cB S = 0) (nW : New w1 W)
    (G : GFile W w gb q dv3 ((D.take k).map DV.val ++ [.iface 52 (.pointer (some ⟨ib, 0, none⟩))] ++ (D.drop k).map DV.val)) (hib : w.heap[ib]? = some (.cells #[.pointer (some ⟨bb, 0, none⟩)] 54 (0, 0))) :
    ∃ E, FileAt w w.heap.size gb E ∧ FileAt w w1.heap.size fb D ∧ Below w1.heap.size w1 w ∧ infoOf D = .pointer none ∧ infoOf E = .pointer (some ⟨bb, 0, none⟩) ∧ cellsOf 72 E = cellsOf 72 D ∧ numOf 72 E = numOf 72 D ∧ cellsOf 59 E = cellsOf 59 D ∧ numOf 59 E = numOf 59 D := by
  have bw : Below w1.heap.size w1 w := (nW.below (Nat.le_refl _) (fun _ _ hf => hf)).trans (G.below.mono nW.size)
  have hF := hB.fileAt (by omega) (by omega)
  have hne := hB.noInfo h0
  have hD := hF.each bw
  have hsz := bw.size
  obtain ⟨s1, s2, _⟩ := hB.small
  have hcl := counts_le S
  have hlen := hB.len
  have e72 : ∀ t, t ≠ 52 → cellsOf t (D.take k ++ [⟨52, ib, .pointer (some ⟨bb, 0, none⟩), 1, ptrCells [bb]⟩] ++ D.drop k) = cellsOf t D ∧ numOf t (D.take k ++ [⟨52, ib, .pointer (some ⟨bb, 0, none⟩), 1, ptrCells [bb]⟩] ++ D.drop k) = numOf t D := by
    intro t ht
    have a1 := cellsOf_append t (D.take k) (D.drop k)
    have a2 := numOf_append t (D.take k) (D.drop k)
    rw [List.take_append_drop] at a1 a2
    rw [cellsOf_append, cellsOf_append, numOf_append, numOf_append, cellsOf_one_ne t _ (fun h => ht h.symm), numOf_one_ne t _ (fun h => ht h.symm), List.append_nil, Nat.add_zero]
    exact ⟨a1.symm, a2.symm⟩
  refine ⟨D.take k ++ [⟨52, ib, .pointer (some ⟨bb, 0, none⟩), 1, ptrCells [bb]⟩] ++ D.drop k, ?_, hF.kept bw, bw, infoOf_none hne, ?_, (e72 72 (by decide)).1, (e72 72 (by decide)).2, (e72 59 (by decide)).1, (e72 59 (by decide)).2⟩
  · refine GFile.fileAt (E := D.take k ++ [⟨52, ib, .pointer (some ⟨bb, 0, none⟩), 1, ptrCells [bb]⟩] ++ D.drop k) (by simpa [DV.val] using G) (fun d hd => ?_) ?_ ?_ ?_
    · rcases List.mem_append.1 hd with hd | hd
      · rcases List.mem_append.1 hd with hd | hd
        · have h := hD d (List.mem_of_mem_take hd)
          exact ⟨h.1, fun j hj => by have := h.2 j hj; omega⟩
        · obtain rfl : d = ⟨52, ib, .pointer (some ⟨bb, 0, none⟩), 1, ptrCells [bb]⟩ := by simpa using hd
          refine ⟨.inr (.inr ⟨rfl, bb, rfl, rfl, rfl, by rw [cell_of_row w ib 0 _ _ _ hib]; rfl⟩), fun j hj => ?_⟩
          rcases hj with hj | hj
          · have e : j = ib := hj
            rw [e]; exact lt_of_block hib
          · simp [Value.ownBlock] at hj
      · have h := hD d (List.mem_of_mem_drop hd)
        exact ⟨h.1, fun j hj => by have := h.2 j hj; omega⟩
    · simp only [List.length_append, List.length_take, List.length_drop, List.length_cons, List.length_nil]; omega
    · rw [(e72 72 (by decide)).2]; omega
    · rw [(e72 59 (by decide)).2]; omega
  · rw [List.append_assoc, infoOf_skip (fun d hd => hne d (List.mem_of_mem_take hd))]
    rfl

/-- the world in which the second file is begun -/
def blockW (w : World) (p : ByteArray) : World := w.alloc (.cells (groupCells p 1 (.slice none 0 0)) 50)
def fileW (w : World) (p : ByteArray) : World := w.alloc (.cells #[.string p, .slice none 0 0, .slice none 0 0] 38)

set_option linter.unusedSimpArgs false in
set_option maxRecDepth 100000 in
set_option maxHeartbeats 4000000 in
theorem infoInserted (s : ByteArray) (sa : Option Addr) (cap : Nat) (S : List Spec) (kk : Int) (w : World) (hS : SpecsIn w sa S) :
    Calls Try.prog 8 #[.string s, .slice sa S.length cap, .int .i64 kk] w (LawSays w) := by
  have HS : Hid (SpecsIn w sa S) := hS
  clear hS
  go_enter Try.func8, Try.ntmps8
  go_wp2_with fail
  refine (bytes22 s sa cap S kk w HS.out).mono ?_
  rintro e w' ⟨⟨r, rfl⟩, rfl⟩
  cases r
  · go_wp2_with fail
    go_ret
    exact ⟨rfl, Below.refl _ _⟩
  go_wp2_with fail
  refine (size_any s sa cap S none 0 [] w' HS.out (fun h => by simp at h) (by simp)).mono ?_
  rintro e w'' ⟨⟨r, rfl, hr⟩, rfl⟩
  by_cases hbig : 1048576 < r
  · go_wp2_with fail
    go_ret
    exact ⟨rfl, Below.refl _ _⟩
  obtain ⟨hb, hsh⟩ := hr (by omega)
  have hl : load S ≤ 131072 := by simp at hb; omega
  have hn : S.length ≤ 131072 := by simp at hb; omega
  clear hb hr hsh
  by_cases hk0 : kk < 0
  · go_wp2_with fail
    go_ret
    exact ⟨rfl, Below.refl _ _⟩
  by_cases hk1 : (S.length : Int) < kk
  · go_wp2_with fail
    go_ret
    exact ⟨rfl, Below.refl _ _⟩
  obtain ⟨k, rfl⟩ := Int.eq_ofNat_of_zero_le (show 0 ≤ kk by omega)
  have hkS : k ≤ S.length := by omega
  obtain ⟨wz, rfl⟩ : ∃ x, x = w'' := ⟨_, rfl⟩
  go_wp2_with fail
  refine (count_before sa cap S S.length wz HS.out (Nat.le_refl _) (by omega) (by omega)).mono ?_
  rintro e w2 ⟨he, rfl⟩
  rw [List.take_length] at he
  subst he
  obtain ⟨wz, rfl⟩ : ∃ x, x = w2 := ⟨_, rfl⟩
  by_cases hcB : cB S ≠ 0
  · have hcb : ((cB S : Nat) : Int) ≠ 0 := by omega
    have hcb2 : (((cB S : Nat) : Int) != 0) = true := by simp [hcB]
    go_wp2_with fail
    go_ret
    exact ⟨rfl, Below.refl _ _⟩
  have hcB0 : cB S = 0 := by omega
  have hcb2 : (((cB S : Nat) : Int) != 0) = false := by simp [hcB0]
  have HCB := hide hcB0
  clear hcB0
  clear hcB
  go_wp2_with fail
  refine (build_any s sa cap S _ HS.out (by omega) (by omega)).mono ?_
  rintro e w1 ⟨fb, dv, vi, vt, vb, D, rfl, hB⟩
  have hkD : k ≤ D.length := by rw [hB.len]; exact hkS
  have hDl : D.length ≤ 131072 := by rw [hB.len]; exact hn
  have hfb : fb < w1.heap.size := lt_of_block hB.file
  obtain ⟨da, dc, rfl, hdc, _⟩ := (ownsReads hB.decls).form
  have q4 : ((k : Nat) : Int) ≤ ((dc : Nat) : Int) := by omega
  have q5 : ((k : Nat) : Int) ≤ ((D.length : Nat) : Int) := by omega
  have HB := hide hB
  have hcell := hB.file.cell
  clear hB
  go_upto_region 13 with fail
  change Code.wp _ _ _ _ (fileW (blockW w1 s) s)
  have hW : (blockW w1 s).heap.size = w1.heap.size + 1 := by unfold blockW; simp
  have nW : New w1 (blockW w1 s) := (New.refl w1).alloc _
  have G0 := hide (GFile.start (blockW w1 s) s)
  change Hid (GFile (blockW w1 s) (fileW (blockW w1 s) s) _ _ _ _) at G0
  rw [hW] at G0
  generalize fileW (blockW w1 s) s = wg at *
  generalize blockW w1 s = W at *
  have gc := G0.out.file.cell
  have bW : Below w1.heap.size w1 wg := (nW.below (Nat.le_refl _) (fun _ _ hf => hf)).trans (G0.out.below.mono (by omega))
  have fc : wg.cell? ⟨fb, 1, none⟩ = some (.slice da D.length dc) := (bW.cell hfb).trans hcell
  have SRC1 := hide (show Reads wg 1 (.slice da k dc) k ((D.take k).map DV.val) from by
    have h := ((ownsReads HB.out.decls).take hkD).kept (frOfBelow bW) (fun j hj hx => by have := (ownsBlk HB.out.decls (k := j) (by rw [← hj]; cases da <;> rfl)).2.1; omega)
    rw [Nat.mul_one, ← List.map_take] at h
    exact h)
  have b1 : (([] : List Value).length + k) * 16 ≤ 140737488355328 := by simp; omega
  have b2 : ([] : List Value).length + k ≤ maxLen := by unfold maxLen; simp; omega
  have b3 : W.heap.size ≤ wg.heap.size := G0.out.below.size
  go_cut [] (fun wc => ∃ dv1, GFile W wc (w1.heap.size + 1) s dv1 ((D.take k).map DV.val))
  case first =>
    go_region_law (refine step_append_reads _ rfl (.tmp 62) (.tmp 68) rfl W.heap.size elem35 (by simp [Act.eval, Act.put]) G0.out.decls.drew (by simp [Act.eval, Act.put]) (SRC1.out.kept ((New.refl wg).drew) (fun _ _ hf => hf)) (ifaceCells_one _) b1 b2 b3 ?_; intro dv1 w2 o1 F2 l1; obtain ⟨xa, xc, rfl, _, _⟩ := (ownsReads o1).form; have g1 := (G0.out.new ((New.refl wg).drew)).mid F2; have hgc := g1.cell; have hgf := g1.free; have R := hide ((G0.out.new ((New.refl wg).drew)).step o1 F2 (by simp [Nat.min_eq_left hkD])); clear o1 F2 l1 g1)
    all_goals
      go_wp2_with fail
      go_meet
      have h := R.out.1
      simp only [List.length_nil, Nat.zero_add, List.nil_append] at h
      exact ⟨_, h⟩
  case rest =>
    obtain ⟨dv1, G1⟩ := hcut
    have HG1 := hide G1
    have hk1 : ((D.take k).map DV.val).length = k := by simp [Nat.min_eq_left hkD]
    have hgb : w1.heap.size + 1 < wc.heap.size := lt_of_block G1.file
    have hs1 := G1.below.size
    have HK1 := hide hk1
    clear G1 G0 gc fc SRC1 b1 b2 b3 bW hk1
    go_wp2_with fail
    refine (addInfo_any W.heap.size (w1.heap.size + 1) _ s dv1 k ((D.take k).map DV.val) _ ?f1 ?f2 ?f3 ?f4).mono ?f5
    case f1 => exact ((New.refl wc).alloc _).heapAt HG1.out.file
    case f2 => have h := ((New.refl wc).alloc (.cells #[.pointer (some ⟨w1.heap.size, 0, none⟩)] 54)).own HG1.out.decls; rw [HK1.out] at h; exact h
    case f3 => omega
    case f4 => simp; omega
    rintro e w4 ⟨rfl, dv2, hf4, ho4, F4, L4⟩
    have ib := GFile.other (HG1.out.new ((New.refl wc).alloc _)) F4 (heap_alloc_new wc _) (by decide) (by decide)
    have G2 := hide (GFile.add (HG1.out.new ((New.refl wc).alloc _)) hf4 (by rw [HK1.out]; exact ho4) F4)
    have hs4 : wc.heap.size + 1 ≤ w4.heap.size := by have := F4.size; simpa using this
    clear hf4 ho4 F4 L4 HG1
    have HIB := hide ib
    clear ib
    have gc := G2.out.file.cell
    have bW : Below w1.heap.size w1 w4 := (nW.below (Nat.le_refl _) (fun _ _ hf => hf)).trans (G2.out.below.mono (by omega))
    have fc : w4.cell? ⟨fb, 1, none⟩ = some (.slice da D.length dc) := (bW.cell hfb).trans hcell
    have SRC2 := hide (show Reads w4 1 (.slice (if dc = k then da else da.map (fun x => x.add k)) (D.length - k) (dc - k)) (D.length - k) ((D.drop k).map DV.val) from by
      have h := ((ownsReads HB.out.decls).drop hkD).kept (frOfBelow bW) (fun j hj hx => by have := (ownsBlk HB.out.decls (k := j) (by rw [← hj]; exact ownBlock_drop da D.length dc (D.length - k) k 1 dc)).2.1; omega)
      rw [Nat.mul_one, ← List.map_drop] at h
      exact h)
    have hv2 : (((D.take k).map DV.val) ++ [Value.iface 52 (.pointer (some ⟨wc.heap.size, 0, none⟩))]).length = k + 1 := by rw [List.length_append, HK1.out]; rfl
    have b1 : ((((D.take k).map DV.val) ++ [Value.iface 52 (.pointer (some ⟨wc.heap.size, 0, none⟩))]).length + (D.length - k)) * 16 ≤ 140737488355328 := by rw [hv2]; omega
    have b2 : (((D.take k).map DV.val) ++ [Value.iface 52 (.pointer (some ⟨wc.heap.size, 0, none⟩))]).length + (D.length - k) ≤ maxLen := by rw [hv2]; unfold maxLen; omega
    have b3 : W.heap.size ≤ w4.heap.size := G2.out.below.size
    have B1 := hide b1
    have B2 := hide b2
    have HV2 := hide hv2
    clear b1 b2 hv2
    go_upto_region 15 with fail
    go_cut [] (fun wf => ∃ dv3, GFile W wf (w1.heap.size + 1) s dv3 ((D.take k).map DV.val ++ [.iface 52 (.pointer (some ⟨wc.heap.size, 0, none⟩))] ++ (D.drop k).map DV.val) ∧ wf.heap[wc.heap.size]? = some (.cells #[.pointer (some ⟨w1.heap.size, 0, none⟩)] 54 (0, 0)))
    case first =>
      go_region_law (refine step_append_reads _ rfl (.tmp 81) (.tmp 87) rfl W.heap.size elem35 (by simp [Act.eval, Act.put]) G2.out.decls.drew (by simp [Act.eval, Act.put]) (SRC2.out.kept ((New.refl w4).drew) (fun _ _ hf => hf)) (ifaceCells_one _) B1.out B2.out b3 ?_; intro dv3 w5 o1 F2 l1; obtain ⟨xa, xc, rfl, _, _⟩ := (ownsReads o1).form; have g1 := (G2.out.new ((New.refl w4).drew)).mid F2; have hgc := g1.cell; have hgf := g1.free; have R := hide ((G2.out.new ((New.refl w4).drew)).step o1 F2 (by simp only [List.length_append, List.length_map, List.length_drop])); clear o1 F2 l1 g1)
      all_goals
        have h := R.out
        rw [HV2.out] at h
        have h2 := hide (show _ ∧ _ from ⟨h.1, (G2.out.new ((New.refl w4).drew)).other h.2 HIB.out (by decide) (by decide)⟩)
        clear h R hgc hgf
        go_wp2_with fail
        all_goals
          go_meet
          exact ⟨_, h2.out⟩
    case rest =>
      obtain ⟨dv3, G3, hib⟩ := hcut
      have hRi := ownsReads HB.out.imps
      have hRt := ownsReads HB.out.types
      obtain ⟨L, c1, c2⟩ := cells72 (fun d hd => (HB.out.each d hd).1)
      obtain ⟨M, d1, d2⟩ := cells59 (fun d hd => (HB.out.each d hd).1)
      obtain ⟨E, f1, f2, f3, i1, i2, e1, e2, e3, e4⟩ := infoFile HB.out hl hn HCB.out nW G3 hib
      rw [c1] at e1
      rw [c2] at e2
      rw [d1] at e3
      rw [d2] at e4
      rw [c1, c2] at hRi
      rw [d1, d2] at hRt
      have hib1 : ∀ j, vi.ownBlock = some j → j < w1.heap.size := fun j hj => (ownsBlk HB.out.imps hj).2.1
      have hib2 : ∀ j, vt.ownBlock = some j → j < w1.heap.size := fun j hj => (ownsBlk HB.out.types hj).2.1
      have hL : L.length ≤ 1048576 := by have h1 := HB.out.small.1; have h2 := (counts_le S).1; omega
      have hM : M.length ≤ 1048576 := by have h1 := HB.out.small.2.1; have h2 := (counts_le S).1; omega
      have hsz := f3.size
      have K1 := hide (info_any f2)
      have K2 := hide (info_any f1)
      have K3 := hide (fun W hb => imports_list (w := W) f1 e1 e2 hb (Nat.le_refl _))
      have K4 := hide (fun W hb => types_list (w := W) f1 e3 e4 hb (Nat.le_refl _))
      have hRi4 := hRi.kept (frOfBelow f3) (fun j hj hx => by have := hib1 j hj; omega)
      have hRt4 := hRt.kept (frOfBelow f3) (fun j hj hx => by have := hib2 j hj; omega)
      have E3 := hide (fun W x hx hb => eqImports_below (w := W) (x := x) hx hRi4 (fun j hj => by have := hib1 j hj; exact Nat.lt_of_lt_of_le this hsz) hb hL)
      have E4 := hide (fun W x hx hb => eqTypes_below (w := W) (x := x) hx hRt4 (fun j hj => by have := hib2 j hj; exact Nat.lt_of_lt_of_le this hsz) hb hM)
      have I1 := hide i1
      have I2 := hide i2
      have Z := hide (HB.out.below.trans (f3.mono HB.out.below.size))
      have hzs : wz.heap.size ≤ w1.heap.size := HB.out.below.size
      have heq := run_eql_same Try.underlying46 info50
      obtain ⟨wf, rfl⟩ : ∃ x, x = wc := ⟨_, rfl⟩
      clear G3 hib hRi hRt c1 c2 d1 d2 f1 f2 f3 i1 i2 e1 e2 e3 e4 hib1 hib2 hL hM hRi4 hRt4 gc fc bW SRC2 B1 B2 HV2 G2 HIB
      go_wp2_with fail
      refine K1.out.mono ?_
      rintro e wy ⟨he, rfl⟩
      rw [I1.out] at he
      subst he
      go_wp2_with fail
      refine K2.out.mono ?_
      rintro e wy2 ⟨he, rfl⟩
      rw [I2.out] at he
      subst he
      go_wp2_with fail
      refine (unhide K3 _ (Below.refl _ _)).mono ?_
      rintro e w5 ⟨v5, rfl, r5, s5, _⟩
      go_wp2_with fail
      refine (unhide E3 _ _ r5 s5).mono ?_
      rintro e w6 ⟨rfl, s6⟩
      clear r5 s5
      go_wp2_with fail
      refine (unhide K4 _ s6).mono ?_
      rintro e w7 ⟨v7, rfl, r7, s7, _⟩
      clear s6
      go_wp2_with fail
      refine (unhide E4 _ _ r7 s7).mono ?_
      rintro e w8 ⟨rfl, s8⟩
      clear r7 s7
      go_wp2_with fail
      go_ret
      exact ⟨rfl, Z.out.trans (s8.mono Z.out.size)⟩
end Go.Proofs.Qxb6613588a
