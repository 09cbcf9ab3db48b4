/-
  ZZaddInfoDecl, ZZaddTypeDecl, ZZaddImportDecl: one declaration more at the file's end.
-/
import Derived.Test.Qxb6613588aImports
namespace Go.Proofs.Qxb6613588a
open Go.RowKit

/-- the file at block fb: its path, its declarations, no comments -/
def FileBlk (w : World) (fb : Nat) (p : ByteArray) (dv : Value) : Prop := w.heap[fb]? = some (.cells #[.string p, dv, .slice none 0 0] 38 (0, 0))

theorem FileBlk.cell {w : World} {fb : Nat} {p : ByteArray} {dv : Value} (h : FileBlk w fb p dv) : w.cell? ⟨fb, 1, none⟩ = some dv := by
  rw [cell_of_row w fb 1 _ _ _ h]; rfl
theorem FileBlk.free {w : World} {fb : Nat} {p : ByteArray} {dv : Value} (h : FileBlk w fb p dv) : w.frozen? ⟨fb, 1, none⟩ = false := frozen_of_row w fb 1 _ _ h
theorem FileBlk.set {w : World} {fb : Nat} {p : ByteArray} {dv v' : Value} (h : FileBlk w fb p dv) : FileBlk (w.setCell ⟨fb, 1, none⟩ v') fb p v' := heap_setCell_same w fb 1 _ 38 v' h

/-- what the three say of a file whose declarations are the call's own -/
def AddSays (base fb : Nat) (p : ByteArray) (dv : Value) (n : Nat) (ds : List Value) (x : Value) (w : World) (e : Ending) (w' : World) : Prop :=
  e = .returned (.tuple #[]) ∧ ∃ dv', FileBlk w' fb p dv' ∧ w'.ownsRow base 77 1 dv' (n + 1) (ds ++ [x]) ∧ Fr w w' (fun k => k = fb ∨ dv.ownBlock = some k) ∧ (dv'.ownBlock = dv.ownBlock ∨ ∃ g, dv'.ownBlock = some g ∧ w.heap.size ≤ g)

theorem addSays {base fb : Nat} {p : ByteArray} {dv : Value} {n : Nat} {ds : List Value} {x : Value} {w w1 : World} {v' : Value} (o : Obj) (hf : FileBlk w fb p dv) (hown : w.ownsRow base 77 1 dv n ds)
    (h1 : w1.ownsRow base 77 1 v' (n + 1) (ds ++ [x])) (h2 : Fr (w.alloc o) w1 (fun k => dv.ownBlock = some k)) (h3 : v'.ownBlock = dv.ownBlock ∨ v'.ownBlock = some (w.heap.size + 1)) :
    AddSays base fb p dv n ds x w (.returned (.tuple #[])) (w1.setCell ⟨fb, 1, none⟩ v') := by
  have hlt := lt_of_block hf
  have hne : dv.ownBlock ≠ some fb := ownsNe hown hf (by decide)
  have hf1 : FileBlk w1 fb p dv := h2.heapAt (by rw [Below.heap_alloc w o fb hlt]; exact hf) hne
  have hne' : v'.ownBlock ≠ some fb := ownsNe h1 hf1 (by decide)
  refine ⟨rfl, v', hf1.set, ownsRow_setCell_other h1 hne' _, ?_, ?_⟩
  · refine ((Fr.ofAlloc w o _).step h2 (fun k _ hk => .inr hk)).setCell _ _ (fun _ => .inl rfl)
  · rcases h3 with h3 | h3
    · exact .inl h3
    · exact .inr ⟨_, h3, by omega⟩

set_option maxRecDepth 100000 in
set_option maxHeartbeats 1000000 in
theorem addInfo_any (base fb db : Nat) (p : ByteArray) (dv : Value) (n : Nat) (ds : List Value) (w : World) (hf : FileBlk w fb p dv) (hown : w.ownsRow base 77 1 dv n ds) (hn : n ≤ 1048576) (hb : base ≤ w.heap.size) :
    Calls Try.prog 23 #[.pointer (some ⟨fb, 0, none⟩), .pointer (some ⟨db, 0, none⟩)] w (AddSays base fb p dv n ds (.iface 52 (.pointer (some ⟨db, 0, none⟩))) w) := by
  have hc := hf.cell
  have HF := hide hf
  have HO := hide hown
  have hlt := lt_of_block hf
  have hown1 : (w.alloc (.cells #[.iface 52 (.pointer (some ⟨db, 0, none⟩))] 77)).ownsRow base 77 1 dv n ds := hown.alloc _
  have hsrc : Reads (w.alloc (.cells #[.iface 52 (.pointer (some ⟨db, 0, none⟩))] 77)) 1 (.slice (some ⟨w.heap.size, 0, none⟩) 1 1) 1 [.iface 52 (.pointer (some ⟨db, 0, none⟩))] := reads_block (heap_alloc_new w _) 1 (by decide)
  have h1 : ∀ u ∈ [Value.iface 52 (.pointer (some ⟨db, 0, none⟩))], u.oneCell' = true := by intro u hu; simp at hu; subst hu; rfl
  have b1 : (n + 1) * 16 ≤ 140737488355328 := by omega
  have b2 : n + 1 ≤ maxLen := by unfold maxLen; omega
  have b3 : base ≤ (w.alloc (.cells #[.iface 52 (.pointer (some ⟨db, 0, none⟩))] 77)).heap.size := by simp; omega
  have H1 := hide hown1
  have H2 := hide hsrc
  have H3 := hide h1
  have H6 := hide b3
  clear hf hown hown1 hsrc h1 b3
  go_enter Try.func23, Try.ntmps23
  go_wp2_with (at_builtin; refine wpList_append_reads _ rfl (.tmp 8) (.tmp 11) rfl base elem35 rfl H1.out rfl H2.out H3.out b1 b2 H6.out ?_)
  intro v' w1 hown' hfr hlie
  obtain ⟨va, vc, rfl, _, _⟩ := (ownsReads hown').form
  have hf1 : FileBlk w1 fb p dv := hfr.heapAt (by rw [Below.heap_alloc w _ fb hlt]; exact HF.out) (ownsNe HO.out HF.out (by decide))
  have hc1 := hf1.cell
  have hz1 := hf1.free
  have F := hide (addSays _ HF.out HO.out hown' hfr hlie)
  clear hf1 hown' hfr hlie H1 H2 H3 H6 HF HO hc
  go_wp2
  go_end0
  exact F.out
set_option maxRecDepth 100000 in
set_option maxHeartbeats 1000000 in
theorem addType_any (base fb db : Nat) (p : ByteArray) (dv : Value) (n : Nat) (ds : List Value) (w : World) (hf : FileBlk w fb p dv) (hown : w.ownsRow base 77 1 dv n ds) (hn : n ≤ 1048576) (hb : base ≤ w.heap.size) :
    Calls Try.prog 28 #[.pointer (some ⟨fb, 0, none⟩), .pointer (some ⟨db, 0, none⟩)] w (AddSays base fb p dv n ds (.iface 59 (.pointer (some ⟨db, 0, none⟩))) w) := by
  have hc := hf.cell
  have HF := hide hf
  have HO := hide hown
  have hlt := lt_of_block hf
  have hown1 : (w.alloc (.cells #[.iface 59 (.pointer (some ⟨db, 0, none⟩))] 77)).ownsRow base 77 1 dv n ds := hown.alloc _
  have hsrc : Reads (w.alloc (.cells #[.iface 59 (.pointer (some ⟨db, 0, none⟩))] 77)) 1 (.slice (some ⟨w.heap.size, 0, none⟩) 1 1) 1 [.iface 59 (.pointer (some ⟨db, 0, none⟩))] := reads_block (heap_alloc_new w _) 1 (by decide)
  have h1 : ∀ u ∈ [Value.iface 59 (.pointer (some ⟨db, 0, none⟩))], u.oneCell' = true := by intro u hu; simp at hu; subst hu; rfl
  have b1 : (n + 1) * 16 ≤ 140737488355328 := by omega
  have b2 : n + 1 ≤ maxLen := by unfold maxLen; omega
  have b3 : base ≤ (w.alloc (.cells #[.iface 59 (.pointer (some ⟨db, 0, none⟩))] 77)).heap.size := by simp; omega
  have H1 := hide hown1
  have H2 := hide hsrc
  have H3 := hide h1
  have H6 := hide b3
  clear hf hown hown1 hsrc h1 b3
  go_enter Try.func28, Try.ntmps28
  go_wp2_with (at_builtin; refine wpList_append_reads _ rfl (.tmp 8) (.tmp 11) rfl base elem35 rfl H1.out rfl H2.out H3.out b1 b2 H6.out ?_)
  intro v' w1 hown' hfr hlie
  obtain ⟨va, vc, rfl, _, _⟩ := (ownsReads hown').form
  have hf1 : FileBlk w1 fb p dv := hfr.heapAt (by rw [Below.heap_alloc w _ fb hlt]; exact HF.out) (ownsNe HO.out HF.out (by decide))
  have hc1 := hf1.cell
  have hz1 := hf1.free
  have F := hide (addSays _ HF.out HO.out hown' hfr hlie)
  clear hf1 hown' hfr hlie H1 H2 H3 H6 HF HO hc
  go_wp2
  go_end0
  exact F.out
set_option maxRecDepth 100000 in
set_option maxHeartbeats 1000000 in
theorem addImport_any (base fb db : Nat) (p : ByteArray) (dv : Value) (n : Nat) (ds : List Value) (w : World) (hf : FileBlk w fb p dv) (hown : w.ownsRow base 77 1 dv n ds) (hn : n ≤ 1048576) (hb : base ≤ w.heap.size) :
    Calls Try.prog 32 #[.pointer (some ⟨fb, 0, none⟩), .pointer (some ⟨db, 0, none⟩)] w (AddSays base fb p dv n ds (.iface 72 (.pointer (some ⟨db, 0, none⟩))) w) := by
  have hc := hf.cell
  have HF := hide hf
  have HO := hide hown
  have hlt := lt_of_block hf
  have hown1 : (w.alloc (.cells #[.iface 72 (.pointer (some ⟨db, 0, none⟩))] 77)).ownsRow base 77 1 dv n ds := hown.alloc _
  have hsrc : Reads (w.alloc (.cells #[.iface 72 (.pointer (some ⟨db, 0, none⟩))] 77)) 1 (.slice (some ⟨w.heap.size, 0, none⟩) 1 1) 1 [.iface 72 (.pointer (some ⟨db, 0, none⟩))] := reads_block (heap_alloc_new w _) 1 (by decide)
  have h1 : ∀ u ∈ [Value.iface 72 (.pointer (some ⟨db, 0, none⟩))], u.oneCell' = true := by intro u hu; simp at hu; subst hu; rfl
  have b1 : (n + 1) * 16 ≤ 140737488355328 := by omega
  have b2 : n + 1 ≤ maxLen := by unfold maxLen; omega
  have b3 : base ≤ (w.alloc (.cells #[.iface 72 (.pointer (some ⟨db, 0, none⟩))] 77)).heap.size := by simp; omega
  have H1 := hide hown1
  have H2 := hide hsrc
  have H3 := hide h1
  have H6 := hide b3
  clear hf hown hown1 hsrc h1 b3
  go_enter Try.func32, Try.ntmps32
  go_wp2_with (at_builtin; refine wpList_append_reads _ rfl (.tmp 8) (.tmp 11) rfl base elem35 rfl H1.out rfl H2.out H3.out b1 b2 H6.out ?_)
  intro v' w1 hown' hfr hlie
  obtain ⟨va, vc, rfl, _, _⟩ := (ownsReads hown').form
  have hf1 : FileBlk w1 fb p dv := hfr.heapAt (by rw [Below.heap_alloc w _ fb hlt]; exact HF.out) (ownsNe HO.out HF.out (by decide))
  have hc1 := hf1.cell
  have hz1 := hf1.free
  have F := hide (addSays _ HF.out HO.out hown' hfr hlie)
  clear hf1 hown' hfr hlie H1 H2 H3 H6 HF HO hc
  go_wp2
  go_end0
  exact F.out
end Go.Proofs.Qxb6613588a
