/-
  zzBuild's two inner loops: a group's own slice and the slice of all, grown side by side. No walk here.
-/
import Derived.Test.Qxb6613588aBuild0
namespace Go.Proofs.Qxb6613588a
open Go.RowKit

/-- a group's block: its position, its slice, no parentheses -/
def groupCells (p : ByteArray) (line : Int) (v : Value) : Array Value :=
  #[.string p, .int .i64 line, .int .i64 1, v, .string ⟨#[]⟩, .int .i64 0, .int .i64 0, .string ⟨#[]⟩, .int .i64 0, .int .i64 0]

def GroupBlk (w : World) (db de : Nat) (p : ByteArray) (line : Int) (v : Value) : Prop := w.heap[db]? = some (.cells (groupCells p line v) de (0, 0))
theorem GroupBlk.cell {w : World} {db de : Nat} {p : ByteArray} {line : Int} {v : Value} (h : GroupBlk w db de p line v) : w.cell? ⟨db, 3, none⟩ = some v := by
  rw [cell_of_row w db 3 _ _ _ h]; rfl
theorem GroupBlk.free {w : World} {db de : Nat} {p : ByteArray} {line : Int} {v : Value} (h : GroupBlk w db de p line v) : w.frozen? ⟨db, 3, none⟩ = false := frozen_of_row w db 3 _ _ h
theorem GroupBlk.set {w : World} {db de : Nat} {p : ByteArray} {line : Int} {v v' : Value} (h : GroupBlk w db de p line v) : GroupBlk (w.setCell ⟨db, 3, none⟩ v') db de p line v' := heap_setCell_same w db 3 _ de v' h

/-- behind j rounds of an inner loop, begun at W: x the group's own slice, v the slice of all (v0 at the start) -/
structure Inner (N : Nat) (W w : World) (db de e size : Nat) (p : ByteArray) (line : Int) (x v0 v : Value) (n0 : Nat) (xs0 : List Value) (j : Nat) (ys : List Value) : Prop where
  fr : Fr W w (fun k => k = db ∨ v0.ownBlock = some k)
  dlt : db < W.heap.size
  blk : GroupBlk w db de p line x
  own : w.ownsRow W.heap.size e size x j ys
  all : w.ownsRow N e size v (n0 + j) (xs0 ++ ys)
  lies : v.ownBlock = v0.ownBlock ∨ ∃ g, v.ownBlock = some g ∧ W.heap.size ≤ g
  apart : ∀ g, x.ownBlock = some g → v.ownBlock ≠ some g

theorem Inner.start {N : Nat} {W : World} {db de e size : Nat} {p : ByteArray} {line : Int} {v0 : Value} {n0 : Nat} {xs0 : List Value} (hb : GroupBlk W db de p line (.slice none 0 0)) (h0 : W.ownsRow N e size v0 n0 xs0) :
    Inner N W W db de e size p line (.slice none 0 0) v0 v0 n0 xs0 0 [] :=
  ⟨Fr.refl _ _, lt_of_block hb, hb, World.ownsRow_nil _ _ _ _, by simpa using h0, .inl rfl, fun g hg => by simp [Value.ownBlock] at hg⟩

/-- behind the append onto the group's own slice: the group's block is as it was -/
theorem Inner.mid {N : Nat} {W w : World} {db de e size : Nat} {p : ByteArray} {line : Int} {x v0 v : Value} {n0 : Nat} {xs0 : List Value} {j : Nat} {ys : List Value} (h : Inner N W w db de e size p line x v0 v n0 xs0 j ys)
    {Wb w1 : World} (F1 : New w Wb) (F2 : Fr Wb w1 (fun k => x.ownBlock = some k)) : GroupBlk w1 db de p line x :=
  F2.heapAt (F1.heapAt h.blk) (fun hx => by have := (ownsBlk h.own hx).1; have := h.dlt; omega)

/-- behind it, and behind the store into the group: the slice of all is as it was -/
theorem Inner.mid2 {N : Nat} {W w : World} {db de e size : Nat} {p : ByteArray} {line : Int} {x v0 v : Value} {n0 : Nat} {xs0 : List Value} {j : Nat} {ys : List Value} (h : Inner N W w db de e size p line x v0 v n0 xs0 j ys) (he : e ≠ de)
    {Wb w1 Wc : World} {x' : Value} (F1 : New w Wb) (F2 : Fr Wb w1 (fun k => x.ownBlock = some k)) (F3 : New (w1.setCell ⟨db, 3, none⟩ x') Wc) : Wc.ownsRow N e size v (n0 + j) (xs0 ++ ys) := by
  have h1 : w1.ownsRow N e size v (n0 + j) (xs0 ++ ys) := ownsKept (F1.own h.all) F2 (fun k hk hx => h.apart k hx hk)
  have hne : v.ownBlock ≠ some db := ownsNe h1 (show w1.heap[db]? = some (.cells (groupCells p line x) de (0, 0)) from h.mid F1 F2) he
  exact F3.own (ownsRow_setCell_other (a := ⟨db, 3, none⟩) h1 hne _)

theorem Inner.step {N : Nat} {W w : World} {db de e size : Nat} {p : ByteArray} {line : Int} {x v0 v : Value} {n0 : Nat} {xs0 : List Value} {j : Nat} {ys : List Value} (h : Inner N W w db de e size p line x v0 v n0 xs0 j ys) (he : e ≠ de)
    {Wb w1 Wc w3 : World} {x' v' : Value} {news : List Value} (F1 : New w Wb) (o1 : w1.ownsRow W.heap.size e size x' (j + 1) (ys ++ news)) (F2 : Fr Wb w1 (fun k => x.ownBlock = some k)) (l1 : x'.ownBlock = x.ownBlock ∨ x'.ownBlock = some Wb.heap.size)
    (F3 : New (w1.setCell ⟨db, 3, none⟩ x') Wc) (o3 : w3.ownsRow N e size v' (n0 + j + 1) ((xs0 ++ ys) ++ news)) (F4 : Fr Wc w3 (fun k => v.ownBlock = some k)) (l3 : v'.ownBlock = v.ownBlock ∨ v'.ownBlock = some Wc.heap.size) :
    Inner N W w3 db de e size p line x' v0 v' n0 xs0 (j + 1) (ys ++ news) := by
  have b1 := h.mid F1 F2
  have szW := h.fr.size
  have sz1 := F1.size
  have sz2 := F2.size
  have sz3 : w1.heap.size ≤ Wc.heap.size := by have := F3.size; simpa [World.setCell] using this
  have sz4 := F4.size
  have hxge : ∀ g, x.ownBlock = some g → W.heap.size ≤ g ∧ g < w.heap.size := fun g hg => ⟨(ownsBlk h.own hg).1, (ownsBlk h.own hg).2.1⟩
  have hvlt : ∀ g, v.ownBlock = some g → g < w.heap.size := fun g hg => (ownsBlk h.all hg).2.1
  have hxne : x'.ownBlock ≠ some db := ownsNe o1 b1 he
  have o1c : Wc.ownsRow W.heap.size e size x' (j + 1) (ys ++ news) := F3.own (ownsRow_setCell_other o1 hxne _)
  have bc : GroupBlk Wc db de p line x' := F3.heapAt b1.set
  have allc := h.mid2 he F1 F2 F3
  have hx'v : ∀ g, x'.ownBlock = some g → v.ownBlock ≠ some g := by
    intro g hg hv
    rcases l1 with l1 | l1
    · exact h.apart g (by rw [← l1]; exact hg) hv
    · rw [hg] at l1; have : g = Wb.heap.size := by simpa using l1
      have := hvlt g hv; omega
  refine ⟨?_, h.dlt, F4.heapAt bc (ownsNe allc bc he), ownsKept o1c F4 hx'v, by rw [← List.append_assoc]; exact o3, ?_, ?_⟩
  · have A1 : Fr W w1 (fun k => k = db ∨ v0.ownBlock = some k) := (h.fr.step (F1.fr (fun _ => False)) (fun _ _ hf => hf.elim)).step F2 (fun k hk hx => by have := (hxge k hx).1; omega)
    have A2 : Fr W (w1.setCell ⟨db, 3, none⟩ x') (fun k => k = db ∨ v0.ownBlock = some k) := A1.setCell _ _ (fun _ => .inl rfl)
    refine (A2.step F3 (fun _ _ hf => hf.elim)).step F4 (fun k hk hx => ?_)
    rcases h.lies with e | ⟨g, e, hg⟩
    · exact .inr (by rw [← e]; exact hx)
    · rw [hx] at e; have : k = g := by simpa using e
      omega
  · rcases l3 with e | e
    · rcases h.lies with e2 | ⟨g, e2, hg⟩
      · exact .inl (e.trans e2)
      · exact .inr ⟨g, e.trans e2, hg⟩
    · exact .inr ⟨_, e, by omega⟩
  · intro g hg hv
    rcases l3 with e | e
    · exact hx'v g hg (by rw [← e]; exact hv)
    · rw [hv] at e; have : g = Wc.heap.size := by simpa using e
      have := (ownsBlk o1c hg).2.1; omega

/-- a type group: the road from the round's head to its end -/
theorem types_done {w0 w : World} {p : ByteArray} {fb : Nat} {dv vi vt vb : Value} {S : List Spec} {D : List DV} (h : Built w0 w p fb dv vi vt vb S D) {s : Spec} (hs1 : s.kind ≠ 1) (hs : s.kind = 2) {W wi w4 : World} {db : Nat} {line : Int} {x vt' dv' : Value} {L : List Nat}
    (FW : New w W) (hdb : w.heap.size ≤ db) (hi : Inner w0.heap.size W wi db 61 62 1 p line x vt vt' (numOf 59 D) (cellsOf 59 D) L.length (ptrCells L)) (hL : L.length = s.names.length)
    (hf4 : FileBlk w4 fb p dv') (ho4 : w4.ownsRow w0.heap.size 77 1 dv' (D.length + 1) (D.map DV.val ++ [.iface 59 (.pointer (some ⟨db, 0, none⟩))])) (F4 : Fr wi w4 (fun k => k = fb ∨ dv.ownBlock = some k)) (L4 : dv'.ownBlock = dv.ownBlock ∨ ∃ g, dv'.ownBlock = some g ∧ wi.heap.size ≤ g) :
    Built w0 w4 p fb dv' vi vt' vb (S ++ [s]) (D ++ [⟨59, db, x, L.length, ptrCells L⟩]) := by
  obtain ⟨⟨a1, a2, a3, a4⟩, b1, b2, b3, b4⟩ := h.apart
  have hflt := lt_of_block h.file
  have szW := FW.size
  have szi := hi.fr.size
  have sz4 := F4.size
  have hdlt := hi.dlt
  have lt1 : ∀ k, dv.ownBlock = some k → k < w.heap.size := fun k hk => (ownsBlk h.decls hk).2.1
  have lt2 : ∀ k, vi.ownBlock = some k → k < w.heap.size := fun k hk => (ownsBlk h.imps hk).2.1
  have lt3 : ∀ k, vt.ownBlock = some k → k < w.heap.size := fun k hk => (ownsBlk h.types hk).2.1
  have lt4 : ∀ k, vb.ownBlock = some k → k < w.heap.size := fun k hk => (ownsBlk h.blocks hk).2.1
  have xge : ∀ k, x.ownBlock = some k → W.heap.size ≤ k ∧ k < wi.heap.size := fun k hk => ⟨(ownsBlk hi.own hk).1, (ownsBlk hi.own hk).2.1⟩
  have Fi : Fr w wi (fun k => vt.ownBlock = some k) := (FW.fr _).step hi.fr (fun k hk hx => by rcases hx with hx | hx; omega; exact hx)
  have F : Fr w w4 (fun k => vt.ownBlock = some k ∨ k = fb ∨ dv.ownBlock = some k) := (Fi.mono (fun k _ hk => .inl hk)).trans (F4.mono (fun k _ hk => .inr hk))
  have dvne : ∀ k, dv'.ownBlock = some k → w.heap.size ≤ k → wi.heap.size ≤ k := by
    intro k hk hge
    rcases L4 with e | ⟨g, e, hg⟩
    · have := lt1 k (by rw [← e]; exact hk); omega
    · rw [hk] at e; have : k = g := by simpa using e
      omega
  have vtge : ∀ k, vt'.ownBlock = some k → w.heap.size ≤ k → W.heap.size ≤ k := by
    intro k hk hge
    rcases hi.lies with e | ⟨g, e, hg⟩
    · have := lt3 k (by rw [← e]; exact hk); omega
    · rw [hk] at e; have : k = g := by simpa using e
      omega
  have fbx : ∀ k, k = fb ∨ dv.ownBlock = some k → k < w.heap.size := fun k hk => by
    rcases hk with hk | hk
    · omega
    · exact lt1 k hk
  refine h.grow (d := ⟨59, db, x, L.length, ptrCells L⟩) (F.mono (fun k _ hk => ?_)) hf4 ho4 ?_ ?_ ?_ ?_ ?_ ?_ (.inr (.inl ⟨hs1, hs, rfl, hL⟩))
  · rcases hk with hk | hk | hk
    · exact .inr (.inr (.inr (.inl hk)))
    · exact .inl hk
    · exact .inr (.inl hk)
  · rw [numOf_append, cellsOf_append, numOf_one_ne 72 _ (by show (59 : Nat) ≠ 72; decide), cellsOf_one_ne 72 _ (by show (59 : Nat) ≠ 72; decide), Nat.add_zero, List.append_nil]
    exact ownsKept h.imps F (fun k hk hx => by rcases hx with hx | rfl | hx; exact (b2 k hk).1 hx; exact a2 hk; exact (b2 k hk).2.2 hx)
  · rw [numOf_append, cellsOf_append, numOf_one_eq 59 _ rfl, cellsOf_one_eq 59 _ rfl]
    refine ownsKept hi.all F4 (fun k hk hx => ?_)
    have hlt := fbx k hx
    rcases hi.lies with e | ⟨g, e, hg⟩
    · have hk' : vt.ownBlock = some k := by rw [← e]; exact hk
      rcases hx with rfl | hx
      · exact a3 hk'
      · exact (b3 k hk').2.1 hx
    · rw [hk] at e; have : k = g := by simpa using e
      omega
  · rw [numOf_append, cellsOf_append, numOf_one_ne 52 _ (by show (59 : Nat) ≠ 52; decide), cellsOf_one_ne 52 _ (by show (59 : Nat) ≠ 52; decide), Nat.add_zero, List.append_nil]
    exact ownsKept h.blocks F (fun k hk hx => by rcases hx with hx | rfl | hx; exact (b4 k hk).2.2 hx; exact a4 hk; exact (b4 k hk).1 hx)
  · refine .inr (.inl ⟨rfl, F4.cell hi.blk.cell (fun hx => by have := fbx db hx; omega), (ownsReads hi.own).kept F4 (fun k hk hx => by have := fbx k hx; have := xge k hk; omega), L, rfl, rfl⟩)
  · intro k hk
    have hkge : w.heap.size ≤ k ∧ k < wi.heap.size ∧ (k = db ∨ W.heap.size ≤ k) := by
      rcases hk with hk | hk
      · have ek : k = db := hk
        omega
      · have := xge k hk; omega
    refine ⟨by omega, fun hx => ?_⟩
    rcases hx with hx | hx | hx | hx | hx
    · omega
    · have := dvne k hx hkge.1; omega
    · have := lt2 k hx; omega
    · have hW := vtge k hx hkge.1
      rcases hk with hk | hk
      · have ek : k = db := hk
        omega
      · exact hi.apart k hk hx
    · have := lt4 k hx; omega
  · intro k hk hlt
    rcases hk with hk | hk | hk | hk | hk
    · exact .inl hk
    · rcases L4 with e | ⟨g, e, hg⟩
      · exact .inr (.inl (by rw [← e]; exact hk))
      · rw [hk] at e; have : k = g := by simpa using e
        omega
    · exact .inr (.inr (.inl hk))
    · rcases hi.lies with e | ⟨g, e, hg⟩
      · exact .inr (.inr (.inr (.inl (by rw [← e]; exact hk))))
      · rw [hk] at e; have : k = g := by simpa using e
        omega
    · exact .inr (.inr (.inr (.inr hk)))

/-- an import group: the road from the round's head to its end -/
theorem imports_done {w0 w : World} {p : ByteArray} {fb : Nat} {dv vi vt vb : Value} {S : List Spec} {D : List DV} (h : Built w0 w p fb dv vi vt vb S D) {s : Spec} (hs1 : s.kind ≠ 1) (hs : s.kind ≠ 2) {W wi w4 : World} {db : Nat} {line : Int} {x vi' dv' : Value} {L : List Imp}
    (FW : New w W) (hdb : w.heap.size ≤ db) (hi : Inner w0.heap.size W wi db 74 45 4 p line x vi vi' (numOf 72 D) (cellsOf 72 D) L.length (impCells L)) (hL : L = s.imps)
    (hf4 : FileBlk w4 fb p dv') (ho4 : w4.ownsRow w0.heap.size 77 1 dv' (D.length + 1) (D.map DV.val ++ [.iface 72 (.pointer (some ⟨db, 0, none⟩))])) (F4 : Fr wi w4 (fun k => k = fb ∨ dv.ownBlock = some k)) (L4 : dv'.ownBlock = dv.ownBlock ∨ ∃ g, dv'.ownBlock = some g ∧ wi.heap.size ≤ g) :
    Built w0 w4 p fb dv' vi' vt vb (S ++ [s]) (D ++ [⟨72, db, x, L.length, impCells L⟩]) := by
  obtain ⟨⟨a1, a2, a3, a4⟩, b1, b2, b3, b4⟩ := h.apart
  have hflt := lt_of_block h.file
  have szW := FW.size
  have szi := hi.fr.size
  have sz4 := F4.size
  have hdlt := hi.dlt
  have lt1 : ∀ k, dv.ownBlock = some k → k < w.heap.size := fun k hk => (ownsBlk h.decls hk).2.1
  have lt2 : ∀ k, vi.ownBlock = some k → k < w.heap.size := fun k hk => (ownsBlk h.imps hk).2.1
  have lt3 : ∀ k, vt.ownBlock = some k → k < w.heap.size := fun k hk => (ownsBlk h.types hk).2.1
  have lt4 : ∀ k, vb.ownBlock = some k → k < w.heap.size := fun k hk => (ownsBlk h.blocks hk).2.1
  have xge : ∀ k, x.ownBlock = some k → W.heap.size ≤ k ∧ k < wi.heap.size := fun k hk => ⟨(ownsBlk hi.own hk).1, (ownsBlk hi.own hk).2.1⟩
  have Fi : Fr w wi (fun k => vi.ownBlock = some k) := (FW.fr _).step hi.fr (fun k hk hx => by rcases hx with hx | hx; omega; exact hx)
  have F : Fr w w4 (fun k => vi.ownBlock = some k ∨ k = fb ∨ dv.ownBlock = some k) := (Fi.mono (fun k _ hk => .inl hk)).trans (F4.mono (fun k _ hk => .inr hk))
  have dvne : ∀ k, dv'.ownBlock = some k → w.heap.size ≤ k → wi.heap.size ≤ k := by
    intro k hk hge
    rcases L4 with e | ⟨g, e, hg⟩
    · have := lt1 k (by rw [← e]; exact hk); omega
    · rw [hk] at e; have : k = g := by simpa using e
      omega
  have vtge : ∀ k, vi'.ownBlock = some k → w.heap.size ≤ k → W.heap.size ≤ k := by
    intro k hk hge
    rcases hi.lies with e | ⟨g, e, hg⟩
    · have := lt2 k (by rw [← e]; exact hk); omega
    · rw [hk] at e; have : k = g := by simpa using e
      omega
  have fbx : ∀ k, k = fb ∨ dv.ownBlock = some k → k < w.heap.size := fun k hk => by
    rcases hk with hk | hk
    · omega
    · exact lt1 k hk
  refine h.grow (d := ⟨72, db, x, L.length, impCells L⟩) (F.mono (fun k _ hk => ?_)) hf4 ho4 ?_ ?_ ?_ ?_ ?_ ?_ (.inr (.inr ⟨hs1, hs, rfl, by rw [hL], by rw [hL]⟩))
  · rcases hk with hk | hk | hk
    · exact .inr (.inr (.inl hk))
    · exact .inl hk
    · exact .inr (.inl hk)
  · rw [numOf_append, cellsOf_append, numOf_one_eq 72 _ rfl, cellsOf_one_eq 72 _ rfl]
    refine ownsKept hi.all F4 (fun k hk hx => ?_)
    have hlt := fbx k hx
    rcases hi.lies with e | ⟨g, e, hg⟩
    · have hk' : vi.ownBlock = some k := by rw [← e]; exact hk
      rcases hx with rfl | hx
      · exact a2 hk'
      · exact (b2 k hk').2.2 hx
    · rw [hk] at e; have : k = g := by simpa using e
      omega
  · rw [numOf_append, cellsOf_append, numOf_one_ne 59 _ (by show (72 : Nat) ≠ 59; decide), cellsOf_one_ne 59 _ (by show (72 : Nat) ≠ 59; decide), Nat.add_zero, List.append_nil]
    exact ownsKept h.types F (fun k hk hx => by rcases hx with hx | rfl | hx; exact (b3 k hk).2.2 hx; exact a3 hk; exact (b3 k hk).2.1 hx)
  · rw [numOf_append, cellsOf_append, numOf_one_ne 52 _ (by show (72 : Nat) ≠ 52; decide), cellsOf_one_ne 52 _ (by show (72 : Nat) ≠ 52; decide), Nat.add_zero, List.append_nil]
    exact ownsKept h.blocks F (fun k hk hx => by rcases hx with hx | rfl | hx; exact (b4 k hk).2.1 hx; exact a4 hk; exact (b4 k hk).1 hx)
  · refine .inl ⟨rfl, F4.cell hi.blk.cell (fun hx => by have := fbx db hx; omega), (ownsReads hi.own).kept F4 (fun k hk hx => by have := fbx k hx; have := xge k hk; omega), L, rfl, rfl⟩
  · intro k hk
    have hkge : w.heap.size ≤ k ∧ k < wi.heap.size ∧ (k = db ∨ W.heap.size ≤ k) := by
      rcases hk with hk | hk
      · have ek : k = db := hk
        omega
      · have := xge k hk; omega
    refine ⟨by omega, fun hx => ?_⟩
    rcases hx with hx | hx | hx | hx | hx
    · omega
    · have := dvne k hx hkge.1; omega
    · have hW := vtge k hx hkge.1
      rcases hk with hk | hk
      · have ek : k = db := hk
        omega
      · exact hi.apart k hk hx
    · have := lt3 k hx; omega
    · have := lt4 k hx; omega
  · intro k hk hlt
    rcases hk with hk | hk | hk | hk | hk
    · exact .inl hk
    · rcases L4 with e | ⟨g, e, hg⟩
      · exact .inr (.inl (by rw [← e]; exact hk))
      · rw [hk] at e; have : k = g := by simpa using e
        omega
    · rcases hi.lies with e | ⟨g, e, hg⟩
      · exact .inr (.inr (.inl (by rw [← e]; exact hk)))
      · rw [hk] at e; have : k = g := by simpa using e
        omega
    · exact .inr (.inr (.inr (.inl hk)))
    · exact .inr (.inr (.inr (.inr hk)))

/-- the copy of the declaration, and the group's block, laid at a round's head -/
def specCells (d : Spec) : Array Value := #[.int .i64 d.kind, .slice d.ia d.imps.length d.ic, .slice d.ta d.names.length d.tc]
def groupW (w : World) (de : Nat) (p : ByteArray) (line : Int) (d : Spec) : World := (w.alloc (.cells (specCells d) 69)).alloc (.cells (groupCells p line (.slice none 0 0)) de)

theorem groupW_new (w : World) (de : Nat) (p : ByteArray) (line : Int) (d : Spec) : New w (groupW w de p line d) := ((New.refl w).alloc _).alloc _
theorem groupW_size (w : World) (de : Nat) (p : ByteArray) (line : Int) (d : Spec) : (groupW w de p line d).heap.size = w.heap.size + 2 := by unfold groupW; simp
theorem groupW_grp (w : World) (de : Nat) (p : ByteArray) (line : Int) (d : Spec) : GroupBlk (groupW w de p line d) (w.heap.size + 1) de p line (.slice none 0 0) := by
  have h := heap_alloc_new (w.alloc (.cells (specCells d) 69)) (.cells (groupCells p line (.slice none 0 0)) de)
  have e : (w.alloc (.cells (specCells d) 69)).heap.size = w.heap.size + 1 := by simp
  rw [e] at h
  exact h
theorem groupW_spec (w : World) (de : Nat) (p : ByteArray) (line : Int) (d : Spec) : (groupW w de p line d).heap[w.heap.size]? = some (.cells (specCells d) 69 (0, 0)) := by
  unfold groupW
  rw [Below.heap_alloc _ _ _ (by simp)]
  exact heap_alloc_new w _

/-- the copy of the declaration, read in an inner round -/
theorem Inner.spec {N : Nat} {w0 wi : World} {db de e size : Nat} {p : ByteArray} {line : Int} {x v0 v : Value} {n0 : Nat} {xs0 : List Value} {j : Nat} {ys : List Value} {d : Spec} (h : Inner N (groupW w0 de p line d) wi db de e size p line x v0 v n0 xs0 j ys) (hdb : db = w0.heap.size + 1) (hv : ∀ k, v0.ownBlock = some k → k < w0.heap.size) :
    wi.cell? ⟨w0.heap.size, 1, none⟩ = some (.slice d.ia d.imps.length d.ic) ∧ wi.cell? ⟨w0.heap.size, 2, none⟩ = some (.slice d.ta d.names.length d.tc) := by
  have hb : wi.heap[w0.heap.size]? = some (.cells (specCells d) 69 (0, 0)) := h.fr.heapAt (groupW_spec w0 de p line d) (fun hx => by
    rcases hx with hx | hx
    · omega
    · have := hv _ hx; omega)
  exact ⟨by rw [cell_of_row wi _ 1 _ _ _ hb]; rfl, by rw [cell_of_row wi _ 2 _ _ _ hb]; rfl⟩

theorem Inner.belowN {w0 w W wi : World} {db de e size : Nat} {p : ByteArray} {line : Int} {x v0 v : Value} {n0 : Nat} {xs0 : List Value} {j : Nat} {ys : List Value} (h : Inner w0.heap.size W wi db de e size p line x v0 v n0 xs0 j ys) (hB : Below w0.heap.size w0 w) (FW : New w W) (hdb : w0.heap.size ≤ db) (hv : ∀ k, v0.ownBlock = some k → w0.heap.size ≤ k) : Below w0.heap.size w0 wi := by
  have h1 : Below w0.heap.size w W := FW.below hB.size (fun _ _ hf => hf)
  have h2 : Below w0.heap.size W wi := h.fr.below (Nat.le_trans hB.size FW.size) (fun k hk hx => by
    rcases hx with hx | hx
    · omega
    · have := hv k hx; omega)
  exact (hB.trans h1).trans h2

/-- the file and its declarations, behind an inner loop -/
theorem Inner.file {w0 w W wi : World} {p q : ByteArray} {fb : Nat} {dv vi vt vb : Value} {S : List Spec} {D : List DV} {db de e size : Nat} {line : Int} {x v0 v : Value} {n0 : Nat} {xs0 : List Value} {j : Nat} {ys : List Value} (hB : Built w0 w p fb dv vi vt vb S D) (FW : New w W) (h : Inner w0.heap.size W wi db de e size q line x v0 v n0 xs0 j ys) (hdb : w.heap.size ≤ db) (hv : v0 = vt ∨ v0 = vi) :
    FileBlk wi fb p dv ∧ wi.ownsRow w0.heap.size 77 1 dv D.length (D.map DV.val) := by
  obtain ⟨⟨a1, a2, a3, a4⟩, b1, b2, b3, b4⟩ := hB.apart
  have hflt := lt_of_block hB.file
  refine ⟨h.fr.file (FW.heapAt hB.file) (fun hx => ?_), ownsKept (FW.own hB.decls) h.fr (fun k hk hx => ?_)⟩
  · rcases hx with hx | hx
    · omega
    · rcases hv with rfl | rfl
      · exact a3 hx
      · exact a2 hx
  · have := (ownsBlk hB.decls hk).2.1
    rcases hx with hx | hx
    · omega
    · rcases hv with rfl | rfl
      · exact (b1 k hk).2.1 hx
      · exact (b1 k hk).1 hx

end Go.Proofs.Qxb6613588a
