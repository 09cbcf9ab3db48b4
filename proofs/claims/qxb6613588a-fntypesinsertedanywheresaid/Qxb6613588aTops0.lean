/-
  BETWEEN THE PARTS AND THE LAWS: what zzBuild leaves, as the callers read it. No walk here.
-/
import Derived.Test.Qxb6613588aBuild
import Derived.Test.Qxb6613588aEq
namespace Go.Proofs.Qxb6613588a
open Go.RowKit

/-- the file that zzBuild hands back -/
theorem Built.fileAt {w0 w : World} {p : ByteArray} {fb : Nat} {dv vi vt vb : Value} {S : List Spec} {D : List DV} (h : Built w0 w p fb dv vi vt vb S D) (hl : load S ≤ 1048576) (hn : S.length ≤ 1048576) : FileAt w w.heap.size fb D := by
  obtain ⟨s1, s2, s3⟩ := h.small
  have hc := counts_le S
  exact ⟨dv, h.file.cell, ownsReads h.decls, lt_of_block h.file, fun k hk => (ownsBlk h.decls hk).2.1, fun d hd => ⟨(h.each d hd).1, fun k hk => ((h.each d hd).2 k hk).1⟩, by rw [h.len]; exact hn, by omega, by omega⟩

/-- how many of the first k declarations' elements there are -/
theorem Built.take {w0 w : World} {p : ByteArray} {fb : Nat} {dv vi vt vb : Value} {S : List Spec} {D : List DV} (h : Built w0 w p fb dv vi vt vb S D) (k : Nat) : numOf 72 (D.take k) = cI (S.take k) ∧ numOf 59 (D.take k) = cT (S.take k) := by
  have key : ∀ (S : List Spec) (D : List DV), D.length = S.length → (∀ (i : Nat) (s : Spec) (d : DV), S[i]? = some s → D[i]? = some d → Fits s d) → ∀ k, numOf 72 (D.take k) = cI (S.take k) ∧ numOf 59 (D.take k) = cT (S.take k) := by
    intro S
    induction S with
    | nil => intro D hl _ k; obtain rfl : D = [] := List.eq_nil_of_length_eq_zero (by simpa using hl); simp [numOf, cI, cT]
    | cons s S ih =>
      intro D hl hf k
      cases D with
      | nil => simp at hl
      | cons d D =>
        cases k with
        | zero => simp [numOf, cI, cT]
        | succ k =>
          obtain ⟨h1, h2⟩ := ih D (by simpa using hl) (fun i t e ht he => hf (i + 1) t e (by simpa using ht) (by simpa using he)) k
          have f := hf 0 s d rfl rfl
          have e1 : numOf 72 ((d :: D).take (k + 1)) = numOf 72 [d] + numOf 72 (D.take k) := numOf_append 72 [d] (D.take k)
          have e2 : numOf 59 ((d :: D).take (k + 1)) = numOf 59 [d] + numOf 59 (D.take k) := numOf_append 59 [d] (D.take k)
          have g1 : cI ((s :: S).take (k + 1)) = s.nI + cI (S.take k) := by simp [cI]
          have g2 : cT ((s :: S).take (k + 1)) = s.nT + cT (S.take k) := by simp [cT]
          rw [e1, e2, g1, g2, h1, h2]
          rcases f with ⟨k1, ht, hn⟩ | ⟨k1, k2, ht, hn⟩ | ⟨k1, k2, ht, hn, _⟩
          · rw [numOf_one_ne 72 d (by omega), numOf_one_ne 59 d (by omega)]
            simp [Spec.nI, Spec.nT, k1]
          · rw [numOf_one_ne 72 d (by omega), numOf_one_eq 59 d ht, hn]
            simp [Spec.nI, Spec.nT, k2]
          · rw [numOf_one_ne 59 d (by omega), numOf_one_eq 72 d ht, hn]
            simp [Spec.nI, Spec.nT, k1, k2]
  exact key S D h.len h.fits k

/-- the imports, as a list; none of their paths is long -/
theorem Built.impList {w0 w : World} {p : ByteArray} {fb : Nat} {dv vi vt vb : Value} {S : List Spec} {D : List DV} (h : Built w0 w p fb dv vi vt vb S D) (hs : Short S) : ∃ L, cellsOf 72 D = impCells L ∧ numOf 72 D = L.length ∧ ∀ m ∈ L, m.path.size ≤ 1048576 := by
  have key : ∀ (S : List Spec) (D : List DV), D.length = S.length → (∀ (i : Nat) (s : Spec) (d : DV), S[i]? = some s → D[i]? = some d → Fits s d) → Short S → ∃ L, cellsOf 72 D = impCells L ∧ numOf 72 D = L.length ∧ ∀ m ∈ L, m.path.size ≤ 1048576 := by
    intro S
    induction S with
    | nil => intro D hl _ _; obtain rfl : D = [] := List.eq_nil_of_length_eq_zero (by simpa using hl); exact ⟨[], rfl, rfl, fun m hm => by simp at hm⟩
    | cons s S ih =>
      intro D hl hf hsh
      cases D with
      | nil => simp at hl
      | cons d D =>
        obtain ⟨L, h1, h2, h3⟩ := ih D (by simpa using hl) (fun i t e ht he => hf (i + 1) t e (by simpa using ht) (by simpa using he)) (fun t ht => hsh t (List.mem_cons_of_mem _ ht))
        have f := hf 0 s d rfl rfl
        have e1 : cellsOf 72 (d :: D) = cellsOf 72 [d] ++ cellsOf 72 D := cellsOf_append 72 [d] D
        have e2 : numOf 72 (d :: D) = numOf 72 [d] + numOf 72 D := numOf_append 72 [d] D
        rcases f with ⟨k1, ht, hn⟩ | ⟨k1, k2, ht, hn⟩ | ⟨k1, k2, ht, hn, hx⟩
        · exact ⟨L, by rw [e1, h1, cellsOf_one_ne 72 d (by omega)]; rfl, by rw [e2, h2, numOf_one_ne 72 d (by omega), Nat.zero_add], h3⟩
        · exact ⟨L, by rw [e1, h1, cellsOf_one_ne 72 d (by omega)]; rfl, by rw [e2, h2, numOf_one_ne 72 d (by omega), Nat.zero_add], h3⟩
        · refine ⟨s.imps ++ L, by rw [e1, h1, cellsOf_one_eq 72 d ht, hx, impCells_append], by rw [e2, h2, numOf_one_eq 72 d ht, hn, List.length_append], fun m hm => ?_⟩
          rcases List.mem_append.1 hm with hm | hm
          · exact hsh s (List.mem_cons_self ..) m hm
          · exact h3 m hm
  exact key S D h.len h.fits hs

/-- part of a file's declarations, behind a file of its own -/
theorem FileAt.part {w w' : World} {B fb : Nat} {D E : List DV} (h : FileAt w B fb D) (hb : Below B w w') {B' pb : Nat} {dv : Value} (hc : w'.cell? ⟨pb, 1, none⟩ = some dv) (hr : Reads w' 1 dv E.length (E.map DV.val)) (hpb : pb < B') (hBB : B ≤ B') (hdv : ∀ k, dv.ownBlock = some k → k < B') (hsub : ∀ d ∈ E, d ∈ D) (h1 : E.length ≤ 1048576) (h2 : numOf 72 E ≤ 1048576) (h3 : numOf 59 E ≤ 1048576) : FileAt w' B' pb E := by
  obtain ⟨dv0, _, _, _, _, hD, _⟩ := h.kept hb
  exact ⟨dv, hc, hr, hpb, hdv, fun d hd => ⟨(hD d (hsub d hd)).1, fun k hk => Nat.lt_of_lt_of_le ((hD d (hsub d hd)).2 k hk) hBB⟩, h1, h2, h3⟩

/-! ### the arguments, behind a call that turns nothing that was there -/
theorem belowCell {w w' : World} (h : Below w.heap.size w w') {a : Addr} {v : Value} (hc : w.cell? a = some v) : w'.cell? a = some v := (h.cell (World.block_lt_of_cell? w a hc)).trans hc

theorem NamesIn.kept {w w' : World} {ta : Option Addr} {N : List ByteArray} (h : NamesIn w ta N) (hb : Below w.heap.size w w') : NamesIn w' ta N := fun hx => by
  obtain ⟨b, o, e, hc⟩ := h hx
  exact ⟨b, o, e, fun j hj => belowCell hb (hc j hj)⟩
theorem ImpsIn.kept {w w' : World} {ia : Option Addr} {L : List Imp} (h : ImpsIn w ia L) (hb : Below w.heap.size w w') : ImpsIn w' ia L := fun hx => by
  obtain ⟨b, o, e, hc⟩ := h hx
  exact ⟨b, o, e, fun j hj => ⟨belowCell hb (hc j hj).1, belowCell hb (hc j hj).2.1, belowCell hb (hc j hj).2.2.1, belowCell hb (hc j hj).2.2.2⟩⟩
theorem SpecsIn.kept {w w' : World} {sa : Option Addr} {S : List Spec} (h : SpecsIn w sa S) (hb : Below w.heap.size w w') : SpecsIn w' sa S := by
  refine ⟨fun hx => ?_, fun s hs => ?_, h.2.2⟩
  · obtain ⟨b, o, e, hc⟩ := h.1 hx
    exact ⟨b, o, e, fun j hj => ⟨belowCell hb (hc j hj).1, belowCell hb (hc j hj).2.1, belowCell hb (hc j hj).2.2⟩⟩
  · obtain ⟨h1, h2, h3⟩ := h.2.1 s hs
    exact ⟨h1.kept hb, h2.kept hb, h3⟩

/-- the law returns true, and nothing that was there has turned -/
def LawSays (w : World) (e : Ending) (w' : World) : Prop := e = .returned (.bool true) ∧ Below w.heap.size w w'

/-- the imports, cut at a declaration -/
theorem cut72 {w : World} {D : List DV} (h : ∀ d ∈ D, DOk w d) (k : Nat) : ∃ L1 L2, cellsOf 72 (D.take k) = impCells L1 ∧ numOf 72 (D.take k) = L1.length ∧ cellsOf 72 (D.drop k) = impCells L2 ∧ numOf 72 (D.drop k) = L2.length ∧ cellsOf 72 D = impCells (L1 ++ L2) ∧ numOf 72 D = (L1 ++ L2).length := by
  obtain ⟨L1, a1, a2⟩ := cells72 (w := w) (D := D.take k) (fun d hd => h d (List.mem_of_mem_take hd))
  obtain ⟨L2, b1, b2⟩ := cells72 (w := w) (D := D.drop k) (fun d hd => h d (List.mem_of_mem_drop hd))
  refine ⟨L1, L2, a1, a2, b1, b2, ?_, ?_⟩
  · have := cellsOf_append 72 (D.take k) (D.drop k)
    rw [List.take_append_drop] at this
    rw [this, a1, b1, impCells_append]
  · have := numOf_append 72 (D.take k) (D.drop k)
    rw [List.take_append_drop] at this
    rw [this, a2, b2, List.length_append]
theorem cut59 {w : World} {D : List DV} (h : ∀ d ∈ D, DOk w d) (k : Nat) : ∃ L1 L2, cellsOf 59 (D.take k) = ptrCells L1 ∧ numOf 59 (D.take k) = L1.length ∧ cellsOf 59 (D.drop k) = ptrCells L2 ∧ numOf 59 (D.drop k) = L2.length ∧ cellsOf 59 D = ptrCells (L1 ++ L2) ∧ numOf 59 D = (L1 ++ L2).length := by
  obtain ⟨L1, a1, a2⟩ := cells59 (w := w) (D := D.take k) (fun d hd => h d (List.mem_of_mem_take hd))
  obtain ⟨L2, b1, b2⟩ := cells59 (w := w) (D := D.drop k) (fun d hd => h d (List.mem_of_mem_drop hd))
  refine ⟨L1, L2, a1, a2, b1, b2, ?_, ?_⟩
  · have := cellsOf_append 59 (D.take k) (D.drop k)
    rw [List.take_append_drop] at this
    rw [this, a1, b1, ptrCells_append]
  · have := numOf_append 59 (D.take k) (D.drop k)
    rw [List.take_append_drop] at this
    rw [this, a2, b2, List.length_append]

theorem Reads.takeImps {w : World} {ao : Option Addr} {c : Nat} {L1 L2 : List Imp} (h : Reads w 4 (.slice ao (L1 ++ L2).length c) (L1 ++ L2).length (impCells (L1 ++ L2))) : Reads w 4 (.slice ao L1.length c) L1.length (impCells L1) := by
  have := h.take (k := L1.length) (by simp)
  rwa [impCells_append, ← impCells_length, List.take_left] at this
theorem Reads.dropImps {w : World} {ao : Option Addr} {c : Nat} {L1 L2 : List Imp} (h : Reads w 4 (.slice ao (L1 ++ L2).length c) (L1 ++ L2).length (impCells (L1 ++ L2))) : Reads w 4 (.slice (if c = L1.length then ao else ao.map (·.add (L1.length * 4))) L2.length (c - L1.length)) L2.length (impCells L2) := by
  have := h.drop (k := L1.length) (by simp)
  rw [impCells_append, ← impCells_length, List.drop_left, impCells_length] at this
  simpa using this
theorem Reads.takePtrs {w : World} {ao : Option Addr} {c : Nat} {L1 L2 : List Nat} (h : Reads w 1 (.slice ao (L1 ++ L2).length c) (L1 ++ L2).length (ptrCells (L1 ++ L2))) : Reads w 1 (.slice ao L1.length c) L1.length (ptrCells L1) := by
  have := h.take (k := L1.length) (by simp)
  rwa [Nat.mul_one, ptrCells_append, ← ptrCells_length, List.take_left, ptrCells_length] at this
theorem Reads.dropPtrs {w : World} {ao : Option Addr} {c : Nat} {L1 L2 : List Nat} (h : Reads w 1 (.slice ao (L1 ++ L2).length c) (L1 ++ L2).length (ptrCells (L1 ++ L2))) : Reads w 1 (.slice (if c = L1.length then ao else ao.map (·.add L1.length)) L2.length (c - L1.length)) L2.length (ptrCells L2) := by
  have := h.drop (k := L1.length) (by simp)
  rw [Nat.mul_one, ptrCells_append, ← ptrCells_length, List.drop_left, ptrCells_length] at this
  simpa using this

/-- Imports, as the laws take it: in whatever world that holds the file -/
theorem imports_list {w0 w : World} {B fb : Nat} {D : List DV} {L : List Imp} (h : FileAt w0 B fb D) (hc : cellsOf 72 D = impCells L) (hn : numOf 72 D = L.length) (hb : Below B w0 w) (hB : B ≤ w0.heap.size) :
    Calls Try.prog 18 #[.pointer (some ⟨fb, 0, none⟩)] w fun e w' => ∃ v, e = .returned v ∧ Reads w' 4 v L.length (impCells L) ∧ Below B w0 w' ∧ Below w.heap.size w w' := by
  have hsz := hb.size
  refine (imports_any (h.kept hb) (by omega)).mono ?_
  rintro e w' ⟨v, rfl, ho, hb'⟩
  rw [hc, hn] at ho
  exact ⟨v, rfl, ownsReads ho, hb.trans (hb'.mono (by omega)), hb'⟩
theorem types_list {w0 w : World} {B fb : Nat} {D : List DV} {L : List Nat} (h : FileAt w0 B fb D) (hc : cellsOf 59 D = ptrCells L) (hn : numOf 59 D = L.length) (hb : Below B w0 w) (hB : B ≤ w0.heap.size) :
    Calls Try.prog 25 #[.pointer (some ⟨fb, 0, none⟩)] w fun e w' => ∃ v, e = .returned v ∧ Reads w' 1 v L.length (ptrCells L) ∧ Below B w0 w' ∧ Below w.heap.size w w' := by
  have hsz := hb.size
  refine (types_any (h.kept hb) (by omega)).mono ?_
  rintro e w' ⟨v, rfl, ho, hb'⟩
  rw [hc, hn] at ho
  exact ⟨v, rfl, ownsReads ho, hb.trans (hb'.mono (by omega)), hb'⟩

theorem eqImports_below {w0 w : World} {B : Nat} {x y : Value} {L : List Imp} (hx : Reads w 4 x L.length (impCells L)) (hy : Reads w0 4 y L.length (impCells L)) (hyb : ∀ k, y.ownBlock = some k → k < B) (hb : Below B w0 w) (hl : L.length ≤ 1048576) :
    Calls Try.prog 17 #[x, y] w fun e w' => e = .returned (.bool true) ∧ Below B w0 w' := by
  refine (eqImports_any hx (hy.kept (frOfBelow hb) (fun k hk hx => by have := hyb k hk; omega)) hl).mono ?_
  rintro e w' ⟨rfl, q, rfl⟩
  exact ⟨rfl, ⟨hb.os, hb.tape, hb.output, hb.size, hb.block⟩⟩
theorem eqTypes_below {w0 w : World} {B : Nat} {x y : Value} {L : List Nat} (hx : Reads w 1 x L.length (ptrCells L)) (hy : Reads w0 1 y L.length (ptrCells L)) (hyb : ∀ k, y.ownBlock = some k → k < B) (hb : Below B w0 w) (hl : L.length ≤ 1048576) :
    Calls Try.prog 24 #[x, y] w fun e w' => e = .returned (.bool true) ∧ Below B w0 w' := by
  refine (eqTypes_any hx (hy.kept (frOfBelow hb) (fun k hk hx => by have := hyb k hk; omega)) hl).mono ?_
  rintro e w' ⟨rfl, q, rfl⟩
  exact ⟨rfl, ⟨hb.os, hb.tape, hb.output, hb.size, hb.block⟩⟩

theorem ownBlock_drop (ao : Option Addr) (n c m k size : Nat) (c' : Nat) : (Value.slice ao n c).ownBlock = (Value.slice (if c' = k then ao else ao.map (·.add (k * size))) m (c' - k)).ownBlock := by
  cases ao with
  | none => simp [Value.ownBlock]
  | some a =>
    by_cases hd : c' = k
    · simp [hd, Value.ownBlock]
    · simp only [hd, if_false, Option.map_some, Value.ownBlock, Addr.add]
      split <;> rfl

/-- a file of a part of the declarations: what its block holds -/
def partCells (p : ByteArray) (dv : Value) : Array Value := #[.string p, dv, .slice none 0 0]
/-- the two parts of a file, cut at k -/
def cutW (w : World) (p : ByteArray) (da : Option Addr) (n dc k : Nat) : World :=
  (w.alloc (.cells (partCells p (.slice da k dc)) 38)).alloc (.cells (partCells p (.slice (if dc = k then da else da.map (·.add k)) (n - k) (dc - k))) 38)

theorem cut_files {w0 w : World} {p q : ByteArray} {fb : Nat} {da : Option Addr} {dc : Nat} {vi vt vb : Value} {S : List Spec} {D : List DV} (h : Built w0 w p fb (.slice da D.length dc) vi vt vb S D) (hl : load S ≤ 131072) (hn : S.length ≤ 131072) {k : Nat} (hk : k ≤ D.length) :
    FileAt (cutW w q da D.length dc k) (w.heap.size + 2) fb D ∧ FileAt (cutW w q da D.length dc k) (w.heap.size + 2) w.heap.size (D.take k) ∧ FileAt (cutW w q da D.length dc k) (w.heap.size + 2) (w.heap.size + 1) (D.drop k) ∧
      Below w.heap.size w (cutW w q da D.length dc k) ∧ (cutW w q da D.length dc k).heap.size = w.heap.size + 2 := by
  have F := h.fileAt (by omega) (by omega)
  have hb : Below w.heap.size w (cutW w q da D.length dc k) := ((Below.refl _ _).alloc (Nat.le_refl _) _).alloc (by simp) _
  have hsz : (cutW w q da D.length dc k).heap.size = w.heap.size + 2 := by unfold cutW; simp
  have hR := ownsReads h.decls
  have hdv : ∀ j, (Value.slice da D.length dc).ownBlock = some j → j < w.heap.size := fun j hj => (ownsBlk h.decls hj).2.1
  have nw : New w (cutW w q da D.length dc k) := ((New.refl w).alloc _).alloc _
  have c1 : (cutW w q da D.length dc k).cell? ⟨w.heap.size, 1, none⟩ = some (.slice da k dc) := by
    have hh : (cutW w q da D.length dc k).heap[w.heap.size]? = some (.cells (partCells q (.slice da k dc)) 38 (0, 0)) := by
      unfold cutW
      rw [Below.heap_alloc _ _ _ (by simp)]
      exact heap_alloc_new w _
    rw [cell_of_row _ _ 1 _ _ _ hh]; rfl
  have c2 : (cutW w q da D.length dc k).cell? ⟨w.heap.size + 1, 1, none⟩ = some (.slice (if dc = k then da else da.map (·.add k)) (D.length - k) (dc - k)) := by
    have hh : (cutW w q da D.length dc k).heap[w.heap.size + 1]? = some (.cells (partCells q (.slice (if dc = k then da else da.map (·.add k)) (D.length - k) (dc - k))) 38 (0, 0)) := heap_at _ _ (by simp)
    rw [cell_of_row _ _ 1 _ _ _ hh]; rfl
  have r1 : Reads w 1 (.slice da k dc) (D.take k).length ((D.take k).map DV.val) := by
    have := hR.take hk
    rw [Nat.mul_one, ← List.map_take] at this
    rwa [List.length_take, Nat.min_eq_left hk]
  have r2 : Reads w 1 (.slice (if dc = k then da else da.map (·.add k)) (D.length - k) (dc - k)) (D.drop k).length ((D.drop k).map DV.val) := by
    have := hR.drop hk
    simp only [Nat.mul_one] at this
    rw [← List.map_drop] at this
    rwa [List.length_drop]
  have n72 := numOf_append 72 (D.take k) (D.drop k)
  have n59 := numOf_append 59 (D.take k) (D.drop k)
  rw [List.take_append_drop] at n72 n59
  obtain ⟨s1, s2, _⟩ := h.small
  have hcl := counts_le S
  have hlen := h.len
  have ob : ∀ j, (Value.slice (if dc = k then da else da.map (·.add k)) (D.length - k) (dc - k)).ownBlock = some j → j < w.heap.size := by
    intro j hj
    cases da with
    | none => simp [Value.ownBlock] at hj
    | some a =>
      refine hdv j ?_
      rw [← hj]
      by_cases hd : dc = k
      · simp [hd, Value.ownBlock]
      · simp only [hd, if_false, Option.map_some, Value.ownBlock, Addr.add]
        split <;> rfl
  refine ⟨F.part hb (F.kept hb).choose_spec.1 (F.kept hb).choose_spec.2.1 (by have := lt_of_block h.file; omega) (by omega) (fun j hj => by have := (F.kept hb).choose_spec.2.2.2.1 j hj; omega) (fun d hd => hd) (by omega) (by omega) (by omega), ?_, ?_, hb, hsz⟩
  · exact F.part hb c1 (r1.kept nw (fun _ _ hf => hf)) (by omega) (by omega) (fun j hj => by have := hdv j (by rw [← hj]; cases da <;> rfl); omega) (fun d hd => List.mem_of_mem_take hd) (by rw [List.length_take]; omega) (by omega) (by omega)
  · exact F.part hb c2 (r2.kept nw (fun _ _ hf => hf)) (by omega) (by omega) (fun j hj => by have := ob j hj; omega) (fun d hd => List.mem_of_mem_drop hd) (by rw [List.length_drop]; omega) (by omega) (by omega)

end Go.Proofs.Qxb6613588a
