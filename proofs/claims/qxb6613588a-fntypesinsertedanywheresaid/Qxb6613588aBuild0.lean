/-
  zzBuild's invariant: what memory holds behind the first declarations. No walk here.
-/
import Derived.Test.Qxb6613588aAdd
import Derived.Test.Qxb6613588aCount
namespace Go.Proofs.Qxb6613588a
open Go.RowKit

/-- the blocks that zzBuild goes on writing to -/
def Active (fb : Nat) (dv vi vt vb : Value) (k : Nat) : Prop := k = fb ∨ dv.ownBlock = some k ∨ vi.ownBlock = some k ∨ vt.ownBlock = some k ∨ vb.ownBlock = some k

/-- declaration d is what zzBuild makes of s -/
def Fits (s : Spec) (d : DV) : Prop :=
  (s.kind = 1 ∧ d.ty = 52 ∧ d.n = 1) ∨ (s.kind ≠ 1 ∧ s.kind = 2 ∧ d.ty = 59 ∧ d.n = s.names.length) ∨ (s.kind ≠ 1 ∧ s.kind ≠ 2 ∧ d.ty = 72 ∧ d.n = s.imps.length ∧ d.xs = impCells s.imps)

structure Built (w0 w : World) (p : ByteArray) (fb : Nat) (dv vi vt vb : Value) (S : List Spec) (D : List DV) : Prop where
  below : Below w0.heap.size w0 w
  fbn : w0.heap.size ≤ fb
  file : FileBlk w fb p dv
  decls : w.ownsRow w0.heap.size 77 1 dv D.length (D.map DV.val)
  imps : w.ownsRow w0.heap.size 45 4 vi (numOf 72 D) (cellsOf 72 D)
  types : w.ownsRow w0.heap.size 62 1 vt (numOf 59 D) (cellsOf 59 D)
  blocks : w.ownsRow w0.heap.size 46 1 vb (numOf 52 D) (cellsOf 52 D)
  each : ∀ d ∈ D, DOk w d ∧ ∀ k, d.uses k → k < w.heap.size ∧ ¬ Active fb dv vi vt vb k
  len : D.length = S.length
  fits : ∀ (i : Nat) (s : Spec) (d : DV), S[i]? = some s → D[i]? = some d → Fits s d

theorem Active.ge {w0 w : World} {p : ByteArray} {fb : Nat} {dv vi vt vb : Value} {S : List Spec} {D : List DV} (h : Built w0 w p fb dv vi vt vb S D) {k : Nat} (hk : Active fb dv vi vt vb k) : w0.heap.size ≤ k ∧ k < w.heap.size := by
  rcases hk with rfl | hk | hk | hk | hk
  · exact ⟨h.fbn, lt_of_block h.file⟩
  · have := ownsBlk h.decls hk; exact ⟨this.1, this.2.1⟩
  · have := ownsBlk h.imps hk; exact ⟨this.1, this.2.1⟩
  · have := ownsBlk h.types hk; exact ⟨this.1, this.2.1⟩
  · have := ownsBlk h.blocks hk; exact ⟨this.1, this.2.1⟩

/-- one declaration more -/
theorem Built.grow {w0 w w' : World} {p : ByteArray} {fb : Nat} {dv vi vt vb dv' vi' vt' vb' : Value} {S : List Spec} {D : List DV} {s : Spec} {d : DV} (h : Built w0 w p fb dv vi vt vb S D)
    (F : Fr w w' (Active fb dv vi vt vb)) (hf : FileBlk w' fb p dv') (h1 : w'.ownsRow w0.heap.size 77 1 dv' (D.length + 1) (D.map DV.val ++ [d.val]))
    (h2 : w'.ownsRow w0.heap.size 45 4 vi' (numOf 72 (D ++ [d])) (cellsOf 72 (D ++ [d]))) (h3 : w'.ownsRow w0.heap.size 62 1 vt' (numOf 59 (D ++ [d])) (cellsOf 59 (D ++ [d])))
    (h4 : w'.ownsRow w0.heap.size 46 1 vb' (numOf 52 (D ++ [d])) (cellsOf 52 (D ++ [d]))) (hd : DOk w' d) (hu : ∀ k, d.uses k → k < w'.heap.size ∧ ¬ Active fb dv' vi' vt' vb' k)
    (ha : ∀ k, Active fb dv' vi' vt' vb' k → k < w.heap.size → Active fb dv vi vt vb k) (hfit : Fits s d) : Built w0 w' p fb dv' vi' vt' vb' (S ++ [s]) (D ++ [d]) := by
  refine ⟨h.below.trans (F.below h.below.size (fun k hk hx => by have := (Active.ge h hx).1; omega)), h.fbn, hf, by simpa using h1, h2, h3, h4, ?_, by simp [h.len], ?_⟩
  · intro e he
    rcases List.mem_append.1 he with he | he
    · obtain ⟨g1, g2⟩ := h.each e he
      refine ⟨g1.kept F (fun k hk => (g2 k hk).2), fun k hk => ⟨Nat.lt_of_lt_of_le (g2 k hk).1 F.size, fun hx => (g2 k hk).2 (ha k hx (g2 k hk).1)⟩⟩
    · obtain rfl : e = d := by simpa using he
      exact ⟨hd, hu⟩
  · intro i t e ht he
    by_cases hi : i < S.length
    · rw [List.getElem?_append_left hi] at ht
      rw [List.getElem?_append_left (by rw [h.len]; exact hi)] at he
      exact h.fits i t e ht he
    · have hlt : i < (S ++ [s]).length := (List.getElem?_eq_some_iff.1 ht).1
      obtain rfl : i = S.length := by simp at hlt; omega
      rw [List.getElem?_append_right (Nat.le_refl _)] at ht
      rw [List.getElem?_append_right (by rw [h.len]; exact Nat.le_refl _)] at he
      simp at ht
      rw [h.len] at he
      simp at he
      subst ht; subst he; exact hfit

theorem Fr.file {w w' : World} {X : Nat → Prop} {fb : Nat} {p : ByteArray} {dv : Value} (h : Fr w w' X) (hf : FileBlk w fb p dv) (hx : ¬ X fb) : FileBlk w' fb p dv := h.heapAt hf hx


/-- nothing that was there has turned -/
def New (w w' : World) : Prop := Fr w w' (fun _ => False)
theorem New.refl (w : World) : New w w := Fr.refl _ _
theorem New.alloc {a b : World} (h : New a b) (o : Obj) : New a (b.alloc o) := Fr.alloc h o
theorem New.drew {a b : World} (h : New a b) : New a b.drew := Fr.drew h
theorem New.fr {a b : World} (h : New a b) (X : Nat → Prop) : Fr a b X := Fr.mono h (fun _ _ hf => hf.elim)
theorem New.own {a b : World} (h : New a b) {base : Nat} {e : TypeId} {size : Nat} {v : Value} {n : Nat} {xs : List Value} (ho : a.ownsRow base e size v n xs) : b.ownsRow base e size v n xs := ownsKept ho h (fun _ _ hf => hf)
theorem New.heapAt {a b : World} (h : New a b) {k : Nat} {o : Obj} (ho : a.heap[k]? = some o) : b.heap[k]? = some o := Fr.heapAt h ho (fun hf => hf)

/-- the five things that are written to lie in five blocks -/
theorem Built.apart {w0 w : World} {p : ByteArray} {fb : Nat} {dv vi vt vb : Value} {S : List Spec} {D : List DV} (h : Built w0 w p fb dv vi vt vb S D) :
    (dv.ownBlock ≠ some fb ∧ vi.ownBlock ≠ some fb ∧ vt.ownBlock ≠ some fb ∧ vb.ownBlock ≠ some fb) ∧
    (∀ k, dv.ownBlock = some k → vi.ownBlock ≠ some k ∧ vt.ownBlock ≠ some k ∧ vb.ownBlock ≠ some k) ∧ (∀ k, vi.ownBlock = some k → vt.ownBlock ≠ some k ∧ vb.ownBlock ≠ some k ∧ dv.ownBlock ≠ some k) ∧
    (∀ k, vt.ownBlock = some k → vb.ownBlock ≠ some k ∧ dv.ownBlock ≠ some k ∧ vi.ownBlock ≠ some k) ∧ (∀ k, vb.ownBlock = some k → dv.ownBlock ≠ some k ∧ vi.ownBlock ≠ some k ∧ vt.ownBlock ≠ some k) :=
  ⟨⟨ownsNe h.decls h.file (by decide), ownsNe h.imps h.file (by decide), ownsNe h.types h.file (by decide), ownsNe h.blocks h.file (by decide)⟩,
   fun _ hk => ⟨ownsNe2 h.decls h.imps (by decide) hk, ownsNe2 h.decls h.types (by decide) hk, ownsNe2 h.decls h.blocks (by decide) hk⟩,
   fun _ hk => ⟨ownsNe2 h.imps h.types (by decide) hk, ownsNe2 h.imps h.blocks (by decide) hk, ownsNe2 h.imps h.decls (by decide) hk⟩,
   fun _ hk => ⟨ownsNe2 h.types h.blocks (by decide) hk, ownsNe2 h.types h.decls (by decide) hk, ownsNe2 h.types h.imps (by decide) hk⟩,
   fun _ hk => ⟨ownsNe2 h.blocks h.decls (by decide) hk, ownsNe2 h.blocks h.imps (by decide) hk, ownsNe2 h.blocks h.types (by decide) hk⟩⟩

/-- an info declaration: the road from the round's head to its end -/
theorem info_done {w0 w : World} {p : ByteArray} {fb : Nat} {dv vi vt vb : Value} {S : List Spec} {D : List DV} (h : Built w0 w p fb dv vi vt vb S D) {s : Spec} (hs : s.kind = 1) {W3 w4 w6 : World} {C : Obj} {dv' vb' : Value} {bb db : Nat}
    (F3 : New w W3) (hdb : w.heap.size ≤ db) (hb : W3.heap[db]? = some (.cells #[.pointer (some ⟨bb, 0, none⟩)] 54 (0, 0)))
    (hf4 : FileBlk w4 fb p dv') (ho4 : w4.ownsRow w0.heap.size 77 1 dv' (D.length + 1) (D.map DV.val ++ [.iface 52 (.pointer (some ⟨db, 0, none⟩))])) (F4 : Fr W3 w4 (fun k => k = fb ∨ dv.ownBlock = some k)) (L4 : dv'.ownBlock = dv.ownBlock ∨ ∃ g, dv'.ownBlock = some g ∧ W3.heap.size ≤ g)
    (ho6 : w6.ownsRow w0.heap.size 46 1 vb' (numOf 52 D + 1) (cellsOf 52 D ++ [.pointer (some ⟨bb, 0, none⟩)])) (F6 : Fr (w4.alloc C) w6 (fun k => vb.ownBlock = some k)) (L6 : vb'.ownBlock = vb.ownBlock ∨ vb'.ownBlock = some (w4.heap.size + 1)) :
    Built w0 w6 p fb dv' vi vt vb' (S ++ [s]) (D ++ [⟨52, db, .pointer (some ⟨bb, 0, none⟩), 1, ptrCells [bb]⟩]) := by
  obtain ⟨⟨a1, a2, a3, a4⟩, b1, b2, b3, b4⟩ := h.apart
  have hdlt : db < W3.heap.size := lt_of_block hb
  have hflt := lt_of_block h.file
  have sz3 := F3.size
  have sz4 := F4.size
  have sz6 : w4.heap.size + 1 ≤ w6.heap.size := by have := F6.size; simpa using this
  have lt1 : ∀ k, dv.ownBlock = some k → k < w.heap.size := fun k hk => (ownsBlk h.decls hk).2.1
  have lt2 : ∀ k, vi.ownBlock = some k → k < w.heap.size := fun k hk => (ownsBlk h.imps hk).2.1
  have lt3 : ∀ k, vt.ownBlock = some k → k < w.heap.size := fun k hk => (ownsBlk h.types hk).2.1
  have lt4 : ∀ k, vb.ownBlock = some k → k < w.heap.size := fun k hk => (ownsBlk h.blocks hk).2.1
  have Fw4 : Fr w w4 (fun k => k = fb ∨ dv.ownBlock = some k) := (F3.fr _).trans F4
  have F46 : Fr w4 w6 (fun k => vb.ownBlock = some k) := (Fr.ofAlloc w4 C _).trans F6
  have Fw6 : Fr w w6 (fun k => k = fb ∨ dv.ownBlock = some k ∨ vb.ownBlock = some k) := (Fw4.mono (fun k _ hk => by rcases hk with hk | hk <;> simp [hk])).trans (F46.mono (fun k _ hk => .inr (.inr hk)))
  have vb4 : w4.ownsRow w0.heap.size 46 1 vb (numOf 52 D) (cellsOf 52 D) := ownsKept h.blocks Fw4 (fun k hk hx => by rcases hx with rfl | hx; exact a4 hk; exact (b4 k hk).1 hx)
  have dv6 : dv'.ownBlock = some db → False := by
    intro hx
    rcases L4 with e | ⟨g, e, hg⟩
    · have := lt1 db (by rw [← e]; exact hx); omega
    · rw [hx] at e; have : db = g := by simpa using e
      omega
  have vb6 : vb'.ownBlock = some db → False := by
    intro hx
    rcases L6 with e | e
    · have := lt4 db (by rw [← e]; exact hx); omega
    · rw [hx] at e; have : db = w4.heap.size + 1 := by simpa using e
      omega
  refine h.grow (d := ⟨52, db, .pointer (some ⟨bb, 0, none⟩), 1, ptrCells [bb]⟩) (Fw6.mono (fun k _ hk => ?_)) (F46.file hf4 (ownsNe vb4 hf4 (by decide))) (ownsKept ho4 F46 (fun k hk => ownsNe2 ho4 vb4 (by decide) hk)) ?_ ?_ ?_ ?_ ?_ ?_ (.inl ⟨hs, rfl, rfl⟩)
  · rcases hk with hk | hk | hk
    · exact .inl hk
    · exact .inr (.inl hk)
    · exact .inr (.inr (.inr (.inr hk)))
  · rw [numOf_append, cellsOf_append, numOf_one_ne 72 _ (by show (52 : Nat) ≠ 72; decide), cellsOf_one_ne 72 _ (by show (52 : Nat) ≠ 72; decide), Nat.add_zero, List.append_nil]
    exact ownsKept h.imps Fw6 (fun k hk hx => by rcases hx with rfl | hx | hx; exact a2 hk; exact (b2 k hk).2.2 hx; exact (b2 k hk).2.1 hx)
  · rw [numOf_append, cellsOf_append, numOf_one_ne 59 _ (by show (52 : Nat) ≠ 59; decide), cellsOf_one_ne 59 _ (by show (52 : Nat) ≠ 59; decide), Nat.add_zero, List.append_nil]
    exact ownsKept h.types Fw6 (fun k hk hx => by rcases hx with rfl | hx | hx; exact a3 hk; exact (b3 k hk).2.1 hx; exact (b3 k hk).1 hx)
  · rw [numOf_append, cellsOf_append, numOf_one_eq 52 _ rfl, cellsOf_one_eq 52 _ rfl]
    exact ho6
  · refine .inr (.inr ⟨rfl, bb, rfl, rfl, rfl, ?_⟩)
    have c3 : W3.cell? ⟨db, 0, none⟩ = some (.pointer (some ⟨bb, 0, none⟩)) := by rw [cell_of_row W3 db 0 _ _ _ hb]; rfl
    have c4 := F4.cell c3 (fun hx => by
      rcases hx with hx | hx
      · have : db = fb := hx; omega
      · have := lt1 db hx; omega)
    exact F46.cell c4 (fun hx => by have := lt4 db hx; omega)
  · intro k hk
    rcases hk with hk | hk
    · have ek : k = db := hk
      rw [ek]
      refine ⟨by omega, fun hx => ?_⟩
      rcases hx with hx | hx | hx | hx | hx
      · have : db = fb := hx; omega
      · exact dv6 hx
      · have := lt2 db hx; omega
      · have := lt3 db hx; omega
      · exact vb6 hx
    · simp [Value.ownBlock] at hk
  · intro k hk hlt
    rcases hk with hk | hk | hk | hk | hk
    · exact .inl hk
    · rcases L4 with e | ⟨g, e, hg⟩
      · exact .inr (.inl (by rw [← e]; exact hk))
      · rw [hk] at e; have : k = g := by simpa using e
        omega
    · exact .inr (.inr (.inl hk))
    · exact .inr (.inr (.inr (.inl hk)))
    · rcases L6 with e | e
      · exact .inr (.inr (.inr (.inr (by rw [← e]; exact hk))))
      · rw [hk] at e; have : k = w4.heap.size + 1 := by simpa using e
        omega

end Go.Proofs.Qxb6613588a
