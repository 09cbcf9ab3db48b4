/-
  A FILE THAT IS MADE BY APPENDING TO ITS DECLARATIONS: what holds at each step. No walk here.
-/
import Derived.Test.Qxb6613588aTops0
namespace Go.Proofs.Qxb6613588a
open Go.RowKit

/-- the file at block gb, made behind W: its declarations are a row of its own -/
structure GFile (W w : World) (gb : Nat) (p : ByteArray) (dv : Value) (vals : List Value) : Prop where
  below : Below W.heap.size W w
  gbn : W.heap.size ≤ gb
  file : FileBlk w gb p dv
  decls : w.ownsRow W.heap.size 77 1 dv vals.length vals

theorem GFile.start (W : World) (p : ByteArray) : GFile W (W.alloc (.cells #[.string p, .slice none 0 0, .slice none 0 0] 38)) W.heap.size p (.slice none 0 0) [] :=
  ⟨(Below.refl _ _).alloc (Nat.le_refl _) _, Nat.le_refl _, heap_alloc_new W _, World.ownsRow_nil _ _ _ _⟩

theorem GFile.new {W w w' : World} {gb : Nat} {p : ByteArray} {dv : Value} {vals : List Value} (h : GFile W w gb p dv vals) (F : New w w') : GFile W w' gb p dv vals :=
  ⟨h.below.trans (F.below h.below.size (fun _ _ hf => hf)), h.gbn, F.heapAt h.file, F.own h.decls⟩

/-- behind the append, ahead of the store -/
theorem GFile.mid {W w w1 : World} {gb : Nat} {p : ByteArray} {dv : Value} {vals : List Value} (h : GFile W w gb p dv vals) (F2 : Fr w w1 (fun k => dv.ownBlock = some k)) : FileBlk w1 gb p dv :=
  F2.file h.file (ownsNe h.decls h.file (by decide))

theorem GFile.step {W w w1 : World} {gb : Nat} {p : ByteArray} {dv dv' : Value} {vals news : List Value} {n : Nat} (h : GFile W w gb p dv vals) (o1 : w1.ownsRow W.heap.size 77 1 dv' n (vals ++ news)) (F2 : Fr w w1 (fun k => dv.ownBlock = some k)) (hn : n = (vals ++ news).length) :
    GFile W (w1.setCell ⟨gb, 1, none⟩ dv') gb p dv' (vals ++ news) ∧ Fr w (w1.setCell ⟨gb, 1, none⟩ dv') (fun k => k = gb ∨ dv.ownBlock = some k) := by
  have hf1 := h.mid F2
  have hne : dv'.ownBlock ≠ some gb := ownsNe o1 hf1 (by decide)
  have hF : Fr w (w1.setCell ⟨gb, 1, none⟩ dv') (fun k => k = gb ∨ dv.ownBlock = some k) := (F2.mono (fun k _ hk => .inr hk)).setCell _ _ (fun _ => .inl rfl)
  subst hn
  refine ⟨⟨h.below.trans (hF.below h.below.size (fun k hk hx => ?_)), h.gbn, hf1.set, ownsRow_setCell_other (a := ⟨gb, 1, none⟩) o1 hne _⟩, hF⟩
  rcases hx with hx | hx
  · have := h.gbn; omega
  · have := (ownsBlk h.decls hx).1; omega

/-- behind ZZaddInfoDecl, ZZaddTypeDecl -/
theorem GFile.add {W w w' : World} {gb : Nat} {p : ByteArray} {dv dv' : Value} {vals : List Value} {x : Value} (h : GFile W w gb p dv vals) (hf : FileBlk w' gb p dv') (ho : w'.ownsRow W.heap.size 77 1 dv' (vals.length + 1) (vals ++ [x])) (F : Fr w w' (fun k => k = gb ∨ dv.ownBlock = some k)) : GFile W w' gb p dv' (vals ++ [x]) := by
  refine ⟨h.below.trans (F.below h.below.size (fun k hk hx => ?_)), h.gbn, hf, by simpa using ho⟩
  rcases hx with hx | hx
  · have := h.gbn; omega
  · have := (ownsBlk h.decls hx).1; omega

/-- a block of another element type, through such a step -/
theorem GFile.other {W w w' : World} {gb : Nat} {p : ByteArray} {dv : Value} {vals : List Value} (h : GFile W w gb p dv vals) (F : Fr w w' (fun k => k = gb ∨ dv.ownBlock = some k)) {k : Nat} {cs : Array Value} {e : TypeId} {fr : Nat × Nat} (hk : w.heap[k]? = some (.cells cs e fr)) (h1 : e ≠ 38) (h2 : e ≠ 77) : w'.heap[k]? = some (.cells cs e fr) := by
  refine F.heapAt hk (fun hx => ?_)
  rcases hx with hx | hx
  · have hf := h.file
    unfold FileBlk at hf
    rw [← hx, hk] at hf
    simp only [Option.some.injEq, Obj.cells.injEq] at hf
    exact h1 hf.2.1
  · exact ownsNe h.decls hk (fun e' => h2 e'.symm) hx

theorem GFile.fileAt {W w : World} {gb : Nat} {p : ByteArray} {dv : Value} {E : List DV} (h : GFile W w gb p dv (E.map DV.val)) (hE : ∀ d ∈ E, DOk w d ∧ ∀ k, d.uses k → k < w.heap.size) (h1 : E.length ≤ 1048576) (h2 : numOf 72 E ≤ 1048576) (h3 : numOf 59 E ≤ 1048576) : FileAt w w.heap.size gb E :=
  ⟨dv, h.file.cell, by have := ownsReads h.decls; simpa using this, lt_of_block h.file, fun k hk => (ownsBlk h.decls hk).2.1, hE, h1, h2, h3⟩

/-- the declarations of a file that zzBuild made, in a later world -/
theorem FileAt.each {w w' : World} {B fb : Nat} {D : List DV} (h : FileAt w B fb D) (hb : Below B w w') : ∀ d ∈ D, DOk w' d ∧ ∀ k, d.uses k → k < B := by
  obtain ⟨_, _, _, _, _, hD, _⟩ := h.kept hb
  exact hD

theorem le_sum {l : List Nat} {x : Nat} (h : x ∈ l) : x ≤ l.sum := by
  induction l with
  | nil => simp at h
  | cons a l ih =>
    rw [List.sum_cons]
    rcases List.mem_cons.1 h with rfl | h
    · omega
    · have := ih h; omega

/-- with no info block among them -/
theorem Built.noInfo {w0 w : World} {p : ByteArray} {fb : Nat} {dv vi vt vb : Value} {S : List Spec} {D : List DV} (h : Built w0 w p fb dv vi vt vb S D) (h0 : cB S = 0) : ∀ d ∈ D, d.ty ≠ 52 := by
  intro d hd ht
  obtain ⟨i, hi⟩ := List.mem_iff_getElem?.1 hd
  have hlt : i < S.length := by rw [← h.len]; exact (List.getElem?_eq_some_iff.1 hi).1
  have f := h.fits i S[i] d (by simp [hlt]) hi
  have hk : (S[i]).kind = 1 := by
    rcases f with ⟨k1, _⟩ | ⟨_, _, t, _⟩ | ⟨_, _, t, _⟩
    · exact k1
    · omega
    · omega
  have hpos : 0 < cB S := by
    unfold cB
    have : (S[i]).nB ∈ S.map Spec.nB := List.mem_map.2 ⟨_, List.getElem_mem hlt, rfl⟩
    have h1 : (S[i]).nB = 1 := by simp [Spec.nB, hk]
    have := le_sum this
    omega
  omega

theorem infoOf_skip {A B : List DV} (h : ∀ d ∈ A, d.ty ≠ 52) : infoOf (A ++ B) = infoOf B := by
  induction A with
  | nil => rfl
  | cons a A ih =>
    rw [List.cons_append, infoOf, if_neg (h a (List.mem_cons_self ..))]
    exact ih (fun d hd => h d (List.mem_cons_of_mem _ hd))
theorem infoOf_none {A : List DV} (h : ∀ d ∈ A, d.ty ≠ 52) : infoOf A = .pointer none := by
  have := infoOf_skip (B := []) h
  rw [List.append_nil] at this
  rw [this]; rfl

end Go.Proofs.Qxb6613588a
