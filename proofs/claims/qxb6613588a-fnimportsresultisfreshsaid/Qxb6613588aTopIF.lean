/-
  FnImportsResultIsFresh, walked.
-/
import Derived.Test.Qxb6613588aTops0
import Derived.Test.Qxb6613588aBytes19
namespace Go.Proofs.Qxb6613588a
open Go.RowKit

/-- an import overwritten in place -/
theorem impCells_set (L : List Imp) (k : Nat) (m : Imp) (p' : ByteArray) (l' : Int) (h : L[k]? = some m) :
    ((impCells L).set (k * 4) (.string p')).set (k * 4 + 2) (.int .i64 l') = impCells (L.set k ⟨p', m.file, l', m.col⟩) := by
  induction L generalizing k with
  | nil => simp at h
  | cons a L ih =>
    cases k with
    | zero => simp at h; subst h; simp [impCells, Imp.cells]
    | succ k =>
      have := ih k (by simpa using h)
      simp only [impCells, List.flatMap_cons, Imp.cells, List.set_cons_succ] at this ⊢
      have e : (k + 1) * 4 = k * 4 + 4 := by omega
      rw [e, ← this]
      simp [Nat.add_assoc]

theorem fresh_step {w wr : World} {B g n fc k : Nat} {L L' : List Imp} {m : Imp} (h : L'.length = n ∧ (∀ j, k ≤ j → L'[j]? = L[j]?) ∧ wr.ownsRow B 45 4 (.slice (some ⟨g, 0, none⟩) n fc) n (impCells L') ∧ Below B w wr) (hm : L'[k]? = some m) (hg : B ≤ g) (p' : ByteArray) (l' : Int) :
    (L'.set k ⟨p', m.file, l', m.col⟩).length = n ∧ (∀ j, k + 1 ≤ j → (L'.set k ⟨p', m.file, l', m.col⟩)[j]? = L[j]?) ∧
      ((wr.setCell ⟨g, k * 4, none⟩ (.string p')).setCell ⟨g, k * 4 + 1 + 1, none⟩ (.int .i64 l')).ownsRow B 45 4 (.slice (some ⟨g, 0, none⟩) n fc) n (impCells (L'.set k ⟨p', m.file, l', m.col⟩)) ∧
      Below B w ((wr.setCell ⟨g, k * 4, none⟩ (.string p')).setCell ⟨g, k * 4 + 1 + 1, none⟩ (.int .i64 l')) := by
  obtain ⟨h1, h2, h3, h4⟩ := h
  refine ⟨by simpa using h1, fun j hj => ?_, ?_, (h4.setCell (p := ⟨g, k * 4, none⟩) hg _).setCell (p := ⟨g, k * 4 + 1 + 1, none⟩) hg _⟩
  · rw [List.getElem?_set_ne (by omega)]
    exact h2 j (by omega)
  · rw [← impCells_set L' k m p' l' hm]
    exact ((h3.stored (k * 4) (.string p')).1.stored (k * 4 + 1 + 1) (.int .i64 l')).1

set_option maxRecDepth 100000 in
set_option maxHeartbeats 4000000 in
theorem importsFresh (s : ByteArray) (sa : Option Addr) (cap : Nat) (S : List Spec) (w : World) (hS : SpecsIn w sa S) :
    Calls Try.prog 6 #[.string s, .slice sa S.length cap] w (LawSays w) := by
  have HS : Hid (SpecsIn w sa S) := hS
  clear hS
  go_enter Try.func6, Try.ntmps6
  go_wp2_with fail
  refine (bytes19 s sa cap S w HS.out).mono ?_
  rintro e w' ⟨⟨r, rfl⟩, rfl⟩
  cases r
  · go_wp2_with fail
    go_ret
    exact ⟨rfl, Below.refl _ _⟩
  go_wp2_with fail
  refine (size_any s sa cap S none 0 [] w' HS.out (fun h => by simp at h) (by simp)).mono ?_
  rintro e w'' ⟨⟨r, rfl, hr⟩, rfl⟩
  by_cases hbig : 1048576 < r
  · go_wp2_with fail
    go_ret
    exact ⟨rfl, Below.refl _ _⟩
  obtain ⟨hb, hsh⟩ := hr (by omega)
  have hl : load S ≤ 131072 := by simp at hb; omega
  have hn : S.length ≤ 131072 := by simp at hb; omega
  have HSh := hide hsh
  clear hb hr hsh
  obtain ⟨wz, rfl⟩ : ∃ x, x = w'' := ⟨_, rfl⟩
  go_wp2_with fail
  refine (build_any s sa cap S _ HS.out (by omega) (by omega)).mono ?_
  rintro e w1 ⟨fb, dv, vi, vt, vb, D, rfl, hB⟩
  obtain ⟨L, c1, c2, hp⟩ := hB.impList HSh.out
  have hF := hB.fileAt (by omega) (by omega)
  have hRi := ownsReads hB.imps
  rw [c1, c2] at hRi
  have hLl : L.length ≤ 131072 := by have h1 := hB.small.1; have h2 := (counts_le S).1; omega
  have hib : ∀ j, vi.ownBlock = some j → j < w1.heap.size := fun j hj => (ownsBlk hB.imps hj).2.1
  have Z := hide hB.below
  have HF := hide hF
  have HC1 := hide c1
  have HC2 := hide c2
  have HP := hide hp
  have HRi := hide hRi
  have HIb := hide hib
  clear hB hF c1 c2 hp hRi hib
  go_wp2_with fail
  refine (imports_any HF.out (Nat.le_refl _)).mono ?_
  rintro e w2 ⟨v, rfl, ho, hb2⟩
  rw [HC1.out, HC2.out] at ho
  have hRi2 := HRi.out.kept (frOfBelow hb2) (fun j hj hx => by have := HIb.out j hj; omega)
  have HO := hide ho
  have HB2 := hide hb2
  clear hb2
  go_wp2_with fail
  refine (eqImports_any (ownsReads ho) hRi2 (by omega)).mono ?_
  rintro e w3 ⟨rfl, q, rfl⟩
  clear hRi2
  obtain ⟨fa, fc, rfl, hfc, _⟩ := (ownsReads ho).form
  clear ho
  obtain ⟨n, hnl⟩ : ∃ n, n = L.length := ⟨_, rfl⟩
  have HNL := hide hnl
  rw [← hnl] at HO hLl hfc ⊢
  clear hnl
  go_wp2_with fail
  go_loopw [10] (fun i wr => ∃ (k : Nat) (L' : List Imp), k ≤ n ∧ i = .int .i64 k ∧ Hid (L'.length = n ∧ (∀ j, k ≤ j → L'[j]? = L[j]?) ∧ wr.ownsRow w1.heap.size 45 4 (.slice fa n fc) n (impCells L') ∧ Below w1.heap.size w1 wr)) (fun i _ => n - (intOf i).toNat)
  case atStart => exact ⟨0, L, Nat.zero_le _, rfl, HNL.out.symm, fun _ _ => rfl, HO.out, ⟨HB2.out.os, HB2.out.tape, HB2.out.output, HB2.out.size, HB2.out.block⟩⟩
  case round =>
    obtain ⟨k, L', hk, rfl, hI⟩ := hrel
    obtain ⟨hLn, hsame, hown, hbel⟩ := hI.out
    by_cases hlt : k < n
    · obtain ⟨g, fc', hv, hg, hglt⟩ := hown.form (by omega)
      simp only [Value.slice.injEq] at hv
      obtain ⟨rfl, _, rfl⟩ := hv
      obtain ⟨m, hm⟩ : ∃ m, L'[k]? = some m := ⟨L'[k]'(by omega), by simp⟩
      have hm2 : L[k]? = some m := by rw [← hsame k (Nat.le_refl _)]; exact hm
      have hps : m.path.size ≤ 1048576 := HP.out m (List.mem_of_getElem? hm2)
      obtain ⟨e0, e1, e2, e3⟩ := impCells_at L' k m hm
      have hlen : (impCells L').length = n * 4 := hown.1
      have x0 : wr.cell? ⟨g, k * 4, none⟩ = some (.string m.path) := by rw [hown.cellAt (k * 4) (by omega)]; exact e0
      have x2 : wr.cell? ⟨g, k * 4 + 2, none⟩ = some (.int .i64 m.line) := by rw [hown.cellAt (k * 4 + 2) (by omega)]; exact e2
      have z0 := hown.frozenAt (k * 4)
      have z2 := hown.frozenAt (k * 4 + 2)
      have HM := hide hm
      clear hLn hsame hown hbel hm hm2 e0 e1 e2 e3 hlen
      go_wp2_with fail
      go_roundw
      case rel => exact ⟨k + 1, _, by omega, by go_num, fresh_step hI.out HM.out hg _ _⟩
      case measure => simp [intOf]; omega
    · have F := hide (HF.out.kept hbel)
      have hRi3 := hide (HRi.out.kept (frOfBelow hbel) (fun j hj hx => by have := HIb.out j hj; omega))
      have HBel := hide hbel
      have hsz := hbel.size
      clear hI hLn hsame hown hbel
      go_wp2_with fail
      refine (imports_any F.out hsz).mono ?_
      rintro e w5 ⟨v5, rfl, ho5, hb5⟩
      rw [HC1.out, HC2.out] at ho5
      have hR5 := hRi3.out.kept (frOfBelow hb5) (fun j hj hx => by have := HIb.out j hj; omega)
      have HO5 := hide (ownsReads ho5)
      have HR5 := hide hR5
      have HB5 := hide hb5
      clear ho5 hR5 hb5
      go_wp2_with fail
      refine (eqImports_any HO5.out HR5.out (by rw [← HNL.out]; omega)).mono ?_
      rintro e w6 ⟨rfl, q6, rfl⟩
      go_wp2_with fail
      go_ret
      refine ⟨rfl, (Z.out.trans (HBel.out.mono Z.out.size)).trans ?_⟩
      have h5 := HB5.out.mono (Nat.le_trans Z.out.size HBel.out.size)
      exact ⟨h5.os, h5.tape, h5.output, h5.size, h5.block⟩
end Go.Proofs.Qxb6613588a
