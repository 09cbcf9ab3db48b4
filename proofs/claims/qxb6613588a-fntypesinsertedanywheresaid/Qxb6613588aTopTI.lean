/-
  FnTypesInsertedAnywhere, walked.
-/
import Derived.Test.Qxb6613588aTops1
import Derived.Test.Qxb6613588aBytes27
import Derived.Deep.RegionLaw
import Derived.Deep.CutRange
import Derived.Deep.DeepCutAuto
namespace Go.Proofs.Qxb6613588a
open Go.RowKit

theorem declCells_one (D : List DV) : ∀ u ∈ D.map DV.val, u.oneCell' = true := by
  intro u hu
  obtain ⟨d, _, rfl⟩ := List.mem_map.1 hu
  rfl

/-- the file with the type group put in at k -/
theorem typesFile {w0 w1 W w : World} {p q : ByteArray} {fb gb k : Nat} {dv vi vt vb dv3 : Value} {S : List Spec} {D : List DV} {dT : DV} (hB : Built w0 w1 p fb dv vi vt vb S D) (hl : load S ≤ 131072) (hn : S.length ≤ 131072) (bW : Below w1.heap.size w1 W) (ht : dT.ty = 59) (hdn : dT.n ≤ 131072) (hd : DOk W dT) (hdu : ∀ j, dT.uses j → j < W.heap.size)
    (G : GFile W w gb q dv3 ((D.take k).map DV.val ++ [dT.val] ++ (D.drop k).map DV.val)) :
    ∃ E, FileAt w w.heap.size gb E ∧ FileAt w w1.heap.size fb D ∧ Below w1.heap.size w1 w ∧ cellsOf 59 E = cellsOf 59 (D.take k) ++ dT.xs ++ cellsOf 59 (D.drop k) ∧ numOf 59 E = numOf 59 (D.take k) + dT.n + numOf 59 (D.drop k) := by
  have bw : Below w1.heap.size w1 w := bW.trans (G.below.mono bW.size)
  have hF := hB.fileAt (by omega) (by omega)
  have hD := hF.each bw
  have hsz := bw.size
  have hszG := G.below.size
  obtain ⟨s1, s2, _⟩ := hB.small
  have hcl := counts_le S
  have hlen := hB.len
  have a1 := numOf_append 72 (D.take k) (D.drop k)
  have a2 := numOf_append 59 (D.take k) (D.drop k)
  rw [List.take_append_drop] at a1 a2
  have n72 : numOf 72 (D.take k ++ [dT] ++ D.drop k) = numOf 72 D := by rw [numOf_append, numOf_append, numOf_one_ne 72 dT (by omega), a1, Nat.add_zero]
  have n59 : numOf 59 (D.take k ++ [dT] ++ D.drop k) = numOf 59 (D.take k) + dT.n + numOf 59 (D.drop k) := by rw [numOf_append, numOf_append, numOf_one_eq 59 dT ht]
  refine ⟨D.take k ++ [dT] ++ D.drop k, ?_, hF.kept bw, bw, ?_, n59⟩
  · refine GFile.fileAt (E := D.take k ++ [dT] ++ D.drop k) (by simpa using G) (fun d hd' => ?_) ?_ ?_ ?_
    · rcases List.mem_append.1 hd' with hd' | hd'
      · rcases List.mem_append.1 hd' with hd' | hd'
        · have h := hD d (List.mem_of_mem_take hd')
          exact ⟨h.1, fun j hj => by have := h.2 j hj; omega⟩
        · obtain rfl : d = dT := by simpa using hd'
          exact ⟨hd.kept (frOfBelow G.below) (fun j hj hx => by have := hdu j hj; omega), fun j hj => by have := hdu j hj; omega⟩
      · have h := hD d (List.mem_of_mem_drop hd')
        exact ⟨h.1, fun j hj => by have := h.2 j hj; omega⟩
    · simp only [List.length_append, List.length_take, List.length_drop, List.length_cons, List.length_nil]; omega
    · rw [n72]; omega
    · rw [n59]; omega
  · rw [cellsOf_append, cellsOf_append, cellsOf_one_eq 59 dT ht]

def fileW2 (w : World) (p : ByteArray) : World := w.alloc (.cells #[.string p, .slice none 0 0, .slice none 0 0] 38)

theorem bounds8 {a b c : Nat} (h : a ≤ 131072) (hc : c ≤ 131072) (hb : b < c) : (b + 1) * 8 ≤ 140737488355328 ∧ b + 1 ≤ maxLen ∧ (a + b + 1) * 8 ≤ 140737488355328 ∧ a + b + 1 ≤ maxLen := by
  unfold maxLen; omega

/-- behind the loop and behind the last append: the group stands, and all that was before -/
theorem innerDone {w1 W wi w5 : World} {s : ByteArray} {x v0 v : Value} {n0 : Nat} {xs0 : List Value} {P : List Nat} (nW : New w1 W) (hv : ∀ k, v0.ownBlock = some k → w1.heap.size ≤ k) (hi : Inner w1.heap.size W wi w1.heap.size 61 62 1 s 1 x v0 v n0 xs0 P.length (ptrCells P)) (F : Fr wi w5 (fun k => v.ownBlock = some k)) :
    DOk w5 ⟨59, w1.heap.size, x, P.length, ptrCells P⟩ ∧ (∀ j, (DV.mk 59 w1.heap.size x P.length (ptrCells P)).uses j → j < w5.heap.size) ∧ Below w1.heap.size w1 w5 := by
  have hbel := hi.belowN (Below.refl _ _) nW (Nat.le_refl _) hv
  have hsz := F.size
  have hne : v.ownBlock ≠ some w1.heap.size := ownsNe hi.all hi.blk (by decide)
  refine ⟨.inr (.inl ⟨rfl, F.cell hi.blk.cell hne, (ownsReads hi.own).kept F (fun k hk hx => hi.apart k hk hx), P, rfl, rfl⟩), ?_, hbel.trans (F.below hbel.size (fun k hk hx => ?_))⟩
  · intro j hj
    rcases hj with hj | hj
    · have e : j = w1.heap.size := hj
      have := lt_of_block hi.blk
      omega
    · have := (ownsBlk hi.own hj).2.1; omega
  · have := (ownsBlk hi.all hx).1; omega

set_option linter.unusedSimpArgs false in
set_option maxRecDepth 100000 in
set_option maxHeartbeats 8000000 in
theorem typesInserted (s : ByteArray) (sa : Option Addr) (cap : Nat) (S : List Spec) (kk : Int) (ta : Option Addr) (tc : Nat) (N : List ByteArray) (w : World) (hS : SpecsIn w sa S) (hN : NamesIn w ta N) (hNm : N.length ≤ maxLen) :
    Calls Try.prog 10 #[.string s, .slice sa S.length cap, .int .i64 kk, .slice ta N.length tc] w (LawSays w) := by
  have HS : Hid (SpecsIn w sa S) := hS
  have HN : Hid (NamesIn w ta N) := hN
  have HNm := hide hNm
  clear hS hN hNm
  go_enter Try.func10, Try.ntmps10
  go_wp2_with fail
  refine (bytes27 s sa cap S kk ta tc N w HS.out HN.out HNm.out).mono ?_
  rintro e w' ⟨⟨r, rfl⟩, rfl⟩
  cases r
  · go_wp2_with fail
    go_ret
    exact ⟨rfl, Below.refl _ _⟩
  go_wp2_with fail
  refine (size_any s sa cap S ta tc N w' HS.out HN.out HNm.out).mono ?_
  rintro e w'' ⟨⟨r, rfl, hr⟩, rfl⟩
  by_cases hbig : 1048576 < r
  · go_wp2_with fail
    go_ret
    exact ⟨rfl, Below.refl _ _⟩
  obtain ⟨hb, hsh⟩ := hr (by omega)
  have hl : load S ≤ 131072 := by omega
  have hn : S.length ≤ 131072 := by omega
  have hN1 : N.length ≤ 131072 := by omega
  clear hb hr hsh
  by_cases hk0 : kk < 0
  · go_wp2_with fail
    go_ret
    exact ⟨rfl, Below.refl _ _⟩
  by_cases hk1 : (S.length : Int) < kk
  · go_wp2_with fail
    go_ret
    exact ⟨rfl, Below.refl _ _⟩
  obtain ⟨k, rfl⟩ := Int.eq_ofNat_of_zero_le (show 0 ≤ kk by omega)
  have hkS : k ≤ S.length := by omega
  obtain ⟨wz, rfl⟩ : ∃ x, x = w'' := ⟨_, rfl⟩
  go_wp2_with fail
  refine (build_any s sa cap S _ HS.out (by omega) (by omega)).mono ?_
  rintro e w1 ⟨fb, dv, vi, vt, vb, D, rfl, hB⟩
  have hS1 := hide (HS.out.kept hB.below)
  have hN2 := hide (HN.out.kept hB.below)
  have hkD : k ≤ D.length := by rw [hB.len]; exact hkS
  have hDl : D.length ≤ 131072 := by rw [hB.len]; exact hn
  have hfb : fb < w1.heap.size := lt_of_block hB.file
  have hcell := hB.file.cell
  obtain ⟨L1, L2, a1, a2, b1, b2, c1, c2⟩ := cut59 (fun d hd => (hB.each d hd).1) k
  have hRt := ownsReads hB.types
  rw [c1, c2] at hRt
  obtain ⟨da, dc, rfl, hdc, _⟩ := (ownsReads hB.decls).form
  obtain ⟨ia, ic, rfl, hic, _⟩ := hRt.form
  have hm : cT (S.take k) = L1.length := by rw [← (hB.take k).2, a2]
  have hLl : (L1 ++ L2).length ≤ 131072 := by have h1 := hB.small.2.1; have h2 := (counts_le S).1; omega
  have hL1 : L1.length ≤ 131072 := by rw [List.length_append] at hLl; omega
  have hL2 : L2.length ≤ 131072 := by rw [List.length_append] at hLl; omega
  have hib : ∀ j, (Value.slice ia (L1 ++ L2).length ic).ownBlock = some j → j < w1.heap.size := fun j hj => (ownsBlk hB.types hj).2.1
  have q1 : L1.length ≤ (L1 ++ L2).length := by simp
  have q2 : ((L1.length : Nat) : Int) ≤ (((L1 ++ L2).length : Nat) : Int) := by omega
  have q3 : ((L1.length : Nat) : Int) ≤ ((ic : Nat) : Int) := by omega
  have q4 : ((k : Nat) : Int) ≤ ((dc : Nat) : Int) := by omega
  have q5 : ((k : Nat) : Int) ≤ ((D.length : Nat) : Int) := by omega
  have HB := hide hB
  have HRt := hide hRt
  have HIb := hide hib
  have HM := hide hm
  have X := hide (show _ ∧ _ ∧ _ ∧ _ ∧ _ ∧ _ from ⟨a1, a2, b1, b2, c1, c2⟩)
  clear hB hRt a1 a2 b1 b2 c1 c2 hib hm hLl
  generalize hnl : (L1 ++ L2).length = n at *
  have HNL := hide hnl
  clear hnl
  go_wp2_with fail
  refine (count_before sa cap S k w1 hS1.out hkS (by omega) (by omega)).mono ?_
  rintro e w2 ⟨he, rfl⟩
  rw [HM.out] at he
  subst he
  obtain ⟨w1, rfl⟩ : ∃ x, x = w2 := ⟨_, rfl⟩
  have r0 : (w1.alloc (.cells (groupCells s 1 (.slice none 0 0)) 61)).ownsRow w1.heap.size 62 1 (.slice none 0 0) 0 [] := World.ownsRow_nil _ _ _ _
  have src0 : Reads (w1.alloc (.cells (groupCells s 1 (.slice none 0 0)) 61)) 1 (.slice ia L1.length ic) L1.length (ptrCells L1) := by
    have h := HRt.out
    rw [← HNL.out] at h
    exact h.takePtrs.kept ((New.refl w1).alloc _) (fun _ _ hf => hf)
  have R0 := hide r0
  have SRC0 := hide src0
  clear r0 src0
  go_wp2_with (at_builtin; refine wpList_append_reads _ rfl (.tmp 59) (.tmp 62) rfl w1.heap.size elem29 rfl R0.out rfl SRC0.out (ptrCells_one _) (by omega) (by unfold maxLen; omega) (by simp) ?_)
  intro v0 W o0 F0 l0
  have nW : New w1 W := ((New.refl w1).alloc _).step F0 (fun i _ h => by simp [Value.ownBlock] at h)
  have grp : GroupBlk W w1.heap.size 61 s 1 (.slice none 0 0) := F0.heapAt (heap_alloc_new w1 _) (by simp [Value.ownBlock])
  have o1 : W.ownsRow w1.heap.size 62 1 v0 L1.length (ptrCells L1) := by simpa using o0
  have NW := hide nW
  have GRP := hide grp
  have O1 := hide o1
  have hv0 : ∀ k, v0.ownBlock = some k → w1.heap.size ≤ k := fun k hk => (ownsBlk o1 hk).1
  have HV0 := hide hv0
  have hWs : w1.heap.size < W.heap.size := lt_of_block grp
  clear nW grp o1 o0 F0 l0 hv0 R0 SRC0
  go_wp2_with fail
  go_loopw [17, 18, 19] (fun v i _ wi => ∃ (x : Value) (P : List Nat), P.length ≤ N.length ∧ i = .int .i64 P.length ∧ Inner w1.heap.size W wi w1.heap.size 61 62 1 s 1 x v0 v L1.length (ptrCells L1) P.length (ptrCells P)) (fun _ i _ _ => N.length - (intOf i).toNat)
  case atStart => exact ⟨_, [], Nat.zero_le _, rfl, Inner.start GRP.out O1.out⟩
  case round =>
    obtain ⟨x, P, hj, rfl, hi⟩ := hrel
    obtain ⟨v, rfl⟩ : ∃ x, x = u17 := ⟨_, rfl⟩
    obtain ⟨wi, rfl⟩ : ∃ x, x = wr := ⟨_, rfl⟩
    have hwi : W.heap.size ≤ wi.heap.size := hi.fr.size
    have hwi2 : w1.heap.size < wi.heap.size := by omega
    by_cases hjl : P.length < N.length
    · obtain ⟨b2, o2, nm, hta, _, hm0⟩ := hN2.out.at hjl
      have hbel := hi.belowN (Below.refl _ _) NW.out (Nat.le_refl _) HV0.out
      have hm : wi.cell? ⟨b2, o2 + P.length, none⟩ = some (.string nm) := (hbel.cell (World.block_lt_of_cell? w1 _ hm0)).trans hm0
      have hx3 := hi.blk.cell
      obtain ⟨q6, q7, q8, q9⟩ := bounds8 hL1 hN1 hjl
      have HI2 := hide hi
      clear hbel hm0 hi
      subst hta
      go_wp2_with (at_builtin; refine wpList_append_reads _ rfl (.tmp 80) (.tmp 82) rfl W.heap.size elem29 rfl ((((New.refl wi).alloc _).alloc _).own HI2.out.own) rfl (reads_ptr (heap_at _ _ (by simp))) (ptrCells_one _) q6 q7 (by simp; omega) ?_)
      intro x' w2 o1 F2 l1
      obtain ⟨xa, xc, rfl, _, _⟩ := (ownsReads o1).form
      have g1 := HI2.out.mid (((New.refl wi).alloc _).alloc _) F2
      have hgc := g1.cell
      have hgf := g1.free
      have hw1 : wi.heap.size + 2 ≤ w2.heap.size := by have := F2.size; simp at this; omega
      have HO1 := hide o1
      have HF2 := hide F2
      have Hl1 := hide l1
      clear o1 F2 l1 g1 hm hx3
      go_wp2_with (at_builtin; refine wpList_append_reads _ rfl (.tmp 86) (.tmp 88) rfl w1.heap.size elem29 rfl (HI2.out.mid2 (by decide) (((New.refl wi).alloc _).alloc _) HF2.out ((New.refl _).alloc _)) rfl (reads_ptr (heap_at _ _ (by simp [World.setCell]))) (ptrCells_one _) q8 q9 (by simp [World.setCell]; omega) ?_)
      intro v' w3 o3 F4 l3
      have R := hide (HI2.out.step (by decide) (((New.refl wi).alloc _).alloc _) HO1.out HF2.out (by simpa using Hl1.out) ((New.refl _).alloc _) (by rw [List.append_assoc]; exact o3) F4 (by simpa [World.setCell] using l3))
      clear HO1 HF2 Hl1 o3 F4 l3 HI2 hgc hgf
      rw [← ptrCells_append, show P.length + 1 = (P ++ [wi.heap.size]).length from by simp] at R
      go_wp2_with fail
      go_roundw
      case rel => exact ⟨_, P ++ [wi.heap.size], by simp; omega, by simp, R.out⟩
      case measure => simp [intOf]; omega
    · have hLn : P.length ≤ 131072 := by omega
      have HI2 := hide hi
      clear hi
      have src1 : Reads wi 1 (.slice (if ic = L1.length then ia else ia.map (fun x => x.add L1.length)) (n - L1.length) (ic - L1.length)) L2.length (ptrCells L2) := by
        have h := HRt.out
        rw [← HNL.out] at h
        have h2 := h.dropPtrs
        rw [show n - L1.length = L2.length from by have := HNL.out; rw [List.length_append] at this; omega]
        exact h2.kept (frOfBelow (HI2.out.belowN (Below.refl _ _) NW.out (Nat.le_refl _) HV0.out)) (fun j hj hx => by have := HIb.out j (by rw [← hj]; simpa using ownBlock_drop ia n ic L2.length L1.length 1 ic); omega)
      have SRC1 := hide src1
      clear src1
      have q6 : (L1.length + P.length + L2.length) * 8 ≤ 140737488355328 := by omega
      have q7 : L1.length + P.length + L2.length ≤ maxLen := by unfold maxLen; omega
      go_upto_region 18 with fail
      clear hjl hj
      go_cut [17] (fun v' wc => wc.ownsRow w1.heap.size 62 1 v' (L1.length + P.length + L2.length) (ptrCells L1 ++ (ptrCells P ++ ptrCells L2)) ∧ Fr wi wc (fun k => v.ownBlock = some k))
      case first =>
        by_cases hicL : ic = L1.length
        · subst hicL
          have hnL : n = L1.length := by omega
          subst hnL
          have src := SRC1.out
          simp only [if_pos, Nat.sub_self] at src
          have SRC2 := hide src
          clear src SRC1
          go_wp2_with (at_builtin; refine wpList_append_reads _ rfl (.tmp 90) (.tmp 93) rfl w1.heap.size elem29 rfl HI2.out.all rfl SRC2.out (ptrCells_one _) q6 q7 (by omega) ?_)
          intro v5 w5 o5 F5 l5
          have R := hide (And.intro o5 F5)
          clear o5 F5 l5
          go_wp2_with fail
          go_meet
          exact R.out
        · have src := SRC1.out
          rw [if_neg hicL] at src
          have SRC2 := hide src
          clear src SRC1
          go_wp2_with (at_builtin; refine wpList_append_reads _ rfl (.tmp 90) (.tmp 93) rfl w1.heap.size elem29 rfl HI2.out.all rfl SRC2.out (ptrCells_one _) q6 q7 (by omega) ?_)
          intro v5 w5 o5 F5 l5
          have R := hide (And.intro o5 F5)
          clear o5 F5 l5
          go_wp2_with fail
          go_meet
          exact R.out
      case rest =>
        obtain ⟨want, rfl⟩ : ∃ x, x = u17 := ⟨_, rfl⟩
        obtain ⟨w5, rfl⟩ : ∃ x, x = wc := ⟨_, rfl⟩
        obtain ⟨o5, F5⟩ := hcut
        obtain ⟨e1, e2, e3⟩ := innerDone NW.out HV0.out HI2.out F5
        have hw5 : w1.heap.size ≤ w5.heap.size := e3.size
        have Z1 := hide (show _ ∧ _ ∧ _ from ⟨e1, e2, e3⟩)
        have O5 := hide o5
        clear o5 F5 e1 e2 e3 HI2 SRC1 q6 q7 NW GRP O1 HV0 hwi hwi2 hWs
        go_upto_region 20 with fail
        change Code.wp _ _ _ _ (fileW2 w5 s)
        have G0 := hide (GFile.start w5 s)
        change Hid (GFile w5 (fileW2 w5 s) _ _ _ _) at G0
        generalize fileW2 w5 s = wg at *
        have gc := G0.out.file.cell
        have bW : Below w1.heap.size w1 wg := Z1.out.2.2.trans (G0.out.below.mono (by omega))
        have fc : wg.cell? ⟨fb, 1, none⟩ = some (.slice da D.length dc) := (bW.cell hfb).trans hcell
        have SRC1 := hide (show Reads wg 1 (.slice da k dc) k ((D.take k).map DV.val) from by
          have h := ((ownsReads HB.out.decls).take hkD).kept (frOfBelow bW) (fun j hj hx => by have := (ownsBlk HB.out.decls (k := j) (by rw [← hj]; cases da <;> rfl)).2.1; omega)
          rw [Nat.mul_one, ← List.map_take] at h
          exact h)
        have b1 : (([] : List Value).length + k) * 16 ≤ 140737488355328 := by simp; omega
        have b2 : ([] : List Value).length + k ≤ maxLen := by unfold maxLen; simp; omega
        have b3 : w5.heap.size ≤ wg.heap.size := G0.out.below.size
        go_cut [] (fun wc => ∃ dv1, GFile w5 wc w5.heap.size s dv1 ((D.take k).map DV.val))
        case first =>
          go_region_law (refine step_append_reads _ rfl (.tmp 102) (.tmp 108) rfl w5.heap.size elem35 (by simp [Act.eval, Act.put]) G0.out.decls.drew (by simp [Act.eval, Act.put]) (SRC1.out.kept ((New.refl wg).drew) (fun _ _ hf => hf)) (declCells_one _) b1 b2 b3 ?_; intro dv1 w2 o1 F2 l1; obtain ⟨xa, xc, rfl, _, _⟩ := (ownsReads o1).form; have g1 := (G0.out.new ((New.refl wg).drew)).mid F2; have hgc := g1.cell; have hgf := g1.free; have R := hide ((G0.out.new ((New.refl wg).drew)).step o1 F2 (by simp [Nat.min_eq_left hkD])); clear o1 F2 l1 g1)
          all_goals
            go_wp2_with fail
            go_meet
            have h := R.out.1
            simp only [List.length_nil, Nat.zero_add, List.nil_append] at h
            exact ⟨_, h⟩
        case rest =>
          obtain ⟨dv1, G1⟩ := hcut
          have HG1 := hide G1
          have hk1 : ((D.take k).map DV.val).length = k := by simp [Nat.min_eq_left hkD]
          have hgb : w5.heap.size < wc.heap.size := lt_of_block G1.file
          have HK1 := hide hk1
          clear G1 G0 gc fc SRC1 b1 b2 b3 bW hk1
          go_wp2_with fail
          refine (addType_any w5.heap.size w5.heap.size _ s dv1 k ((D.take k).map DV.val) _ ?f1 ?f2 ?f3 ?f4).mono ?f5
          case f1 => exact HG1.out.file
          case f2 => have h := HG1.out.decls; rw [HK1.out] at h; exact h
          case f3 => omega
          case f4 => omega
          rintro e w4 ⟨rfl, dv2, hf4, ho4, F4, L4⟩
          have G2 := hide (GFile.add HG1.out hf4 (by rw [HK1.out]; exact ho4) F4)
          have hs4 : wc.heap.size ≤ w4.heap.size := F4.size
          clear hf4 ho4 F4 L4 HG1
          have gc := G2.out.file.cell
          have bW : Below w1.heap.size w1 w4 := Z1.out.2.2.trans (G2.out.below.mono (by omega))
          have fc : w4.cell? ⟨fb, 1, none⟩ = some (.slice da D.length dc) := (bW.cell hfb).trans hcell
          have SRC2 := hide (show Reads w4 1 (.slice (if dc = k then da else da.map (fun x => x.add k)) (D.length - k) (dc - k)) (D.length - k) ((D.drop k).map DV.val) from by
            have h := ((ownsReads HB.out.decls).drop hkD).kept (frOfBelow bW) (fun j hj hx => by have := (ownsBlk HB.out.decls (k := j) (by rw [← hj]; exact ownBlock_drop da D.length dc (D.length - k) k 1 dc)).2.1; omega)
            rw [Nat.mul_one, ← List.map_drop] at h
            exact h)
          have hv2 : (((D.take k).map DV.val) ++ [Value.iface 59 (.pointer (some ⟨w1.heap.size, 0, none⟩))]).length = k + 1 := by rw [List.length_append, HK1.out]; rfl
          have b1 : ((((D.take k).map DV.val) ++ [Value.iface 59 (.pointer (some ⟨w1.heap.size, 0, none⟩))]).length + (D.length - k)) * 16 ≤ 140737488355328 := by rw [hv2]; omega
          have b2 : (((D.take k).map DV.val) ++ [Value.iface 59 (.pointer (some ⟨w1.heap.size, 0, none⟩))]).length + (D.length - k) ≤ maxLen := by rw [hv2]; unfold maxLen; omega
          have b3 : w5.heap.size ≤ w4.heap.size := G2.out.below.size
          have B1 := hide b1
          have B2 := hide b2
          have HV2 := hide hv2
          clear b1 b2 hv2
          go_upto_region 22 with fail
          go_cut [] (fun wf => ∃ dv3, GFile w5 wf w5.heap.size s dv3 ((D.take k).map DV.val ++ [.iface 59 (.pointer (some ⟨w1.heap.size, 0, none⟩))] ++ (D.drop k).map DV.val))
          case first =>
            go_region_law (refine step_append_reads _ rfl (.tmp 119) (.tmp 125) rfl w5.heap.size elem35 (by simp [Act.eval, Act.put]) G2.out.decls.drew (by simp [Act.eval, Act.put]) (SRC2.out.kept ((New.refl w4).drew) (fun _ _ hf => hf)) (declCells_one _) B1.out B2.out b3 ?_; intro dv3 w6 o1 F2 l1; obtain ⟨xa, xc, rfl, _, _⟩ := (ownsReads o1).form; have g1 := (G2.out.new ((New.refl w4).drew)).mid F2; have hgc := g1.cell; have hgf := g1.free; have R := hide ((G2.out.new ((New.refl w4).drew)).step o1 F2 (by simp only [List.length_append, List.length_map, List.length_drop])); clear o1 F2 l1 g1)
            all_goals
              have h := R.out.1
              rw [HV2.out] at h
              have h2 := hide h
              clear h R hgc hgf
              go_wp2_with fail
              all_goals
                go_meet
                exact ⟨_, h2.out⟩
          case rest =>
            obtain ⟨dv3, G3⟩ := hcut
            obtain ⟨a1, a2, c1, c2, d1, d2⟩ := X.out
            obtain ⟨z1, z2, z3⟩ := Z1.out
            obtain ⟨E, f1, f2, f3, e1, e2⟩ := typesFile HB.out hl hn z3 rfl hLn z1 z2 G3
            rw [a1, c1] at e1
            rw [a2, c2] at e2
            have e1' : cellsOf 59 E = ptrCells (L1 ++ P ++ L2) := by rw [e1, ptrCells_append, ptrCells_append]
            have e2' : numOf 59 E = (L1 ++ P ++ L2).length := by rw [e2, List.length_append, List.length_append]
            rw [← HNL.out] at d2
            have hRt := HRt.out
            rw [← HNL.out] at hRt
            have hib1 : ∀ j, (Value.slice ia (L1 ++ L2).length ic).ownBlock = some j → j < w1.heap.size := fun j hj => HIb.out j (by rw [← hj]; cases ia <;> rfl)
            have hW : Reads w5 1 want (L1 ++ P ++ L2).length (ptrCells (L1 ++ P ++ L2)) := by
              have h := ownsReads O5.out
              rw [ptrCells_append, ptrCells_append, List.length_append, List.length_append, List.append_assoc]
              exact h
            have hib2 : ∀ j, want.ownBlock = some j → j < w5.heap.size := fun j hj => (ownsBlk O5.out hj).2.1
            have hL : (L1 ++ L2).length ≤ 1048576 := by rw [List.length_append]; omega
            have hM : (L1 ++ P ++ L2).length ≤ 1048576 := by rw [List.length_append, List.length_append]; omega
            have hsz := f3.size
            have hsz5 := G3.below.size
            have K3 := hide (types_list (w := wc) f2 d1 d2 (Below.refl _ _) hsz)
            have K4 := hide (fun W hb => types_list (w := W) f1 e1' e2' hb (Nat.le_refl _))
            have hRt4 := hRt.kept (frOfBelow f3) (fun j hj hx => by have := hib1 j hj; omega)
            have hW4 := hW.kept (frOfBelow G3.below) (fun j hj hx => by have := hib2 j hj; omega)
            have E3 := hide (fun W x hx hb => eqTypes_below (w := W) (x := x) hx hRt4 (fun j hj => by have := hib1 j hj; exact Nat.lt_of_lt_of_le this hsz) hb hL)
            have E4 := hide (fun W x hx hb => eqTypes_below (w := W) (x := x) hx hW4 (fun j hj => by have := hib2 j hj; exact Nat.lt_of_lt_of_le this hsz5) hb hM)
            rw [HNL.out] at E3
            have Z := hide (HB.out.below.trans (f3.mono HB.out.below.size))
            obtain ⟨wf, rfl⟩ : ∃ x, x = wc := ⟨_, rfl⟩
            clear G3 hRt hW a1 a2 c1 c2 d1 d2 z1 z2 z3 f1 f2 f3 e1 e2 e1' e2' hib1 hib2 hL hM hRt4 hW4 gc fc bW SRC2 B1 B2 HV2 G2
            go_wp2_with fail
            refine K3.out.mono ?_
            rintro e w6 ⟨v6, rfl, r6, _, s6⟩
            rw [HNL.out] at r6
            go_wp2_with fail
            refine (unhide E3 _ _ r6 s6).mono ?_
            rintro e w7 ⟨rfl, s7⟩
            clear r6 s6
            go_wp2_with fail
            refine (unhide K4 _ s7).mono ?_
            rintro e w8 ⟨v8, rfl, r8, s8, _⟩
            clear s7
            go_wp2_with fail
            refine (unhide E4 _ _ r8 s8).mono ?_
            rintro e w9 ⟨rfl, s9⟩
            clear r8 s8
            go_wp2_with fail
            go_ret
            exact ⟨rfl, Z.out.trans (s9.mono Z.out.size)⟩
end Go.Proofs.Qxb6613588a
