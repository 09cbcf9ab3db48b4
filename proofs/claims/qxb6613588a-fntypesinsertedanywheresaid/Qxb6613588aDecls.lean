/-
  WHAT A FILE HOLDS: its declarations as plain data, and when a world holds them. No walk here.
-/
import Derived.Test.Qxb6613588aOwn
namespace Go.Proofs.Qxb6613588a
open Go.RowKit

/-- one declaration in memory: the pointer's type, its block, the slice in it, how many elements that has, and the cells that it reads as. (An info declaration: the one cell that it holds.) -/
structure DV where
  ty : Nat
  b : Nat
  v : Value
  n : Nat
  xs : List Value

/-- the interface value that stands for it among the file's declarations -/
def DV.val (d : DV) : Value := .iface d.ty (.pointer (some ⟨d.b, 0, none⟩))

/-- it lies so in w -/
def DOk (w : World) (d : DV) : Prop :=
  (d.ty = 72 ∧ w.cell? ⟨d.b, 3, none⟩ = some d.v ∧ Reads w 4 d.v d.n d.xs ∧ ∃ L, d.xs = impCells L ∧ d.n = L.length) ∨
  (d.ty = 59 ∧ w.cell? ⟨d.b, 3, none⟩ = some d.v ∧ Reads w 1 d.v d.n d.xs ∧ ∃ L, d.xs = ptrCells L ∧ d.n = L.length) ∨
  (d.ty = 52 ∧ ∃ p, d.v = .pointer (some ⟨p, 0, none⟩) ∧ d.xs = ptrCells [p] ∧ d.n = 1 ∧ w.cell? ⟨d.b, 0, none⟩ = some (.pointer (some ⟨p, 0, none⟩)))

/-- the elements of the declarations of type t, in order -/
def cellsOf (t : Nat) (D : List DV) : List Value := D.flatMap fun d => if d.ty = t then d.xs else []
/-- how many they are -/
def numOf (t : Nat) (D : List DV) : Nat := (D.map fun d => if d.ty = t then d.n else 0).sum

theorem cellsOf_append (t : Nat) (A B : List DV) : cellsOf t (A ++ B) = cellsOf t A ++ cellsOf t B := by simp [cellsOf]
theorem numOf_append (t : Nat) (A B : List DV) : numOf t (A ++ B) = numOf t A + numOf t B := by simp [numOf]
theorem cellsOf_nil (t : Nat) : cellsOf t [] = [] := rfl
theorem numOf_nil (t : Nat) : numOf t [] = 0 := rfl
theorem cellsOf_one_eq (t : Nat) (d : DV) (h : d.ty = t) : cellsOf t [d] = d.xs := by simp [cellsOf, h]
theorem cellsOf_one_ne (t : Nat) (d : DV) (h : d.ty ≠ t) : cellsOf t [d] = [] := by simp [cellsOf, h]
theorem numOf_one_eq (t : Nat) (d : DV) (h : d.ty = t) : numOf t [d] = d.n := by simp [numOf, h]
theorem numOf_one_ne (t : Nat) (d : DV) (h : d.ty ≠ t) : numOf t [d] = 0 := by simp [numOf, h]

theorem take_succ_snoc {α : Type} {L : List α} {k : Nat} {x : α} (h : L[k]? = some x) : L.take (k + 1) = L.take k ++ [x] := by rw [List.take_add_one, h]; rfl

theorem numOf_take_le (t : Nat) (D : List DV) (k : Nat) : numOf t (D.take k) ≤ numOf t D := by
  have := numOf_append t (D.take k) (D.drop k)
  rw [List.take_append_drop] at this
  omega

theorem DOk.ty {w : World} {d : DV} (h : DOk w d) : d.ty = 72 ∨ d.ty = 59 ∨ d.ty = 52 := by
  rcases h with h | h | h
  · exact .inl h.1
  · exact .inr (.inl h.1)
  · exact .inr (.inr h.1)

/-- the blocks that a declaration lies in -/
def DV.uses (d : DV) (k : Nat) : Prop := k = d.b ∨ d.v.ownBlock = some k

theorem DOk.kept {w w' : World} {X : Nat → Prop} {d : DV} (h : DOk w d) (hf : Fr w w' X) (hX : ∀ k, d.uses k → ¬ X k) : DOk w' d := by
  rcases h with ⟨h1, h2, h3, h4⟩ | ⟨h1, h2, h3, h4⟩ | ⟨h1, p, h2, h3, hn, h4⟩
  · exact .inl ⟨h1, hf.cell h2 (hX _ (.inl rfl)), h3.kept hf (fun k hk => hX k (.inr hk)), h4⟩
  · exact .inr (.inl ⟨h1, hf.cell h2 (hX _ (.inl rfl)), h3.kept hf (fun k hk => hX k (.inr hk)), h4⟩)
  · exact .inr (.inr ⟨h1, p, h2, h3, hn, hf.cell h4 (hX _ (.inl rfl))⟩)

/-- the file at block fb holds the declarations D, all of it below block B -/
def FileAt (w : World) (B fb : Nat) (D : List DV) : Prop :=
  ∃ dv, w.cell? ⟨fb, 1, none⟩ = some dv ∧ Reads w 1 dv D.length (D.map DV.val) ∧ fb < B ∧ (∀ k, dv.ownBlock = some k → k < B) ∧ (∀ d ∈ D, DOk w d ∧ ∀ k, d.uses k → k < B) ∧ D.length ≤ 1048576 ∧ numOf 72 D ≤ 1048576 ∧ numOf 59 D ≤ 1048576

theorem FileAt.kept {w w' : World} {B fb : Nat} {D : List DV} (h : FileAt w B fb D) (hf : Below B w w') : FileAt w' B fb D := by
  obtain ⟨dv, h1, h2, h3, h4, h5, h6⟩ := h
  have F := frOfBelow hf
  refine ⟨dv, F.cell h1 (by simpa using h3), h2.kept F (fun k hk => by have := h4 k hk; omega), h3, h4, fun d hd => ⟨(h5 d hd).1.kept F (fun k hk => by have := (h5 d hd).2 k hk; omega), (h5 d hd).2⟩, h6⟩

theorem Reads.at1 {w : World} {v : Value} {n : Nat} {xs : List Value} (h : Reads w 1 v n xs) {b o c : Nat} (hv : v = .slice (some ⟨b, o, none⟩) n c) {k : Nat} {u : Value} (hk : xs[k]? = some u) : w.cell? ⟨b, o + k, none⟩ = some u := by
  rcases h.2 with ⟨h2, _⟩ | ⟨b', o', c', h2, _, hc⟩
  · rw [h2] at hv; simp at hv
  · rw [h2] at hv
    simp only [Value.slice.injEq, Option.some.injEq, Addr.mk.injEq] at hv
    obtain ⟨⟨rfl, rfl, _⟩, _⟩ := hv
    exact hc k u hk

/-- the declarations' imports, and their types, as lists of imports and of pointers -/
theorem cells72 {w : World} {D : List DV} (h : ∀ d ∈ D, DOk w d) : ∃ L, cellsOf 72 D = impCells L ∧ numOf 72 D = L.length := by
  induction D with
  | nil => exact ⟨[], rfl, rfl⟩
  | cons d D ih =>
    obtain ⟨L, h1, h2⟩ := ih (fun x hx => h x (List.mem_cons_of_mem _ hx))
    have e1 : cellsOf 72 (d :: D) = cellsOf 72 [d] ++ cellsOf 72 D := cellsOf_append 72 [d] D
    have e2 : numOf 72 (d :: D) = numOf 72 [d] + numOf 72 D := numOf_append 72 [d] D
    rcases h d (List.mem_cons_self ..) with ⟨ht, _, _, L', hx, hn⟩ | ⟨ht, _⟩ | ⟨ht, _⟩
    · exact ⟨L' ++ L, by rw [e1, h1, cellsOf_one_eq 72 d ht, hx, impCells_append], by rw [e2, h2, numOf_one_eq 72 d ht, hn, List.length_append]⟩
    · exact ⟨L, by rw [e1, h1, cellsOf_one_ne 72 d (by omega)]; rfl, by rw [e2, h2, numOf_one_ne 72 d (by omega), Nat.zero_add]⟩
    · exact ⟨L, by rw [e1, h1, cellsOf_one_ne 72 d (by omega)]; rfl, by rw [e2, h2, numOf_one_ne 72 d (by omega), Nat.zero_add]⟩

theorem cells59 {w : World} {D : List DV} (h : ∀ d ∈ D, DOk w d) : ∃ L, cellsOf 59 D = ptrCells L ∧ numOf 59 D = L.length := by
  induction D with
  | nil => exact ⟨[], rfl, rfl⟩
  | cons d D ih =>
    obtain ⟨L, h1, h2⟩ := ih (fun x hx => h x (List.mem_cons_of_mem _ hx))
    have e1 : cellsOf 59 (d :: D) = cellsOf 59 [d] ++ cellsOf 59 D := cellsOf_append 59 [d] D
    have e2 : numOf 59 (d :: D) = numOf 59 [d] + numOf 59 D := numOf_append 59 [d] D
    rcases h d (List.mem_cons_self ..) with ⟨ht, _⟩ | ⟨ht, _, _, L', hx, hn⟩ | ⟨ht, _⟩
    · exact ⟨L, by rw [e1, h1, cellsOf_one_ne 59 d (by omega)]; rfl, by rw [e2, h2, numOf_one_ne 59 d (by omega), Nat.zero_add]⟩
    · exact ⟨L' ++ L, by rw [e1, h1, cellsOf_one_eq 59 d ht, hx, ptrCells_append], by rw [e2, h2, numOf_one_eq 59 d ht, hn, List.length_append]⟩
    · exact ⟨L, by rw [e1, h1, cellsOf_one_ne 59 d (by omega)]; rfl, by rw [e2, h2, numOf_one_ne 59 d (by omega), Nat.zero_add]⟩

end Go.Proofs.Qxb6613588a
