/-
  WHAT THE ARGUMENTS HOLD, said of a world: the imports, the names and the declarations that the laws are handed, as plain lists. No walk here.
-/
import Derived.WalkKit
namespace Go.Proofs.Qxb6613588a
open Go.RowKit

/-- one ZImport -/
structure Imp where
  path : ByteArray
  file : ByteArray
  line : Int
  col : Int

/-- one ZDecl: its kind, its two slices (address and capacity), and what they hold -/
structure Spec where
  kind : Int
  ia : Option Addr
  ic : Nat
  ta : Option Addr
  tc : Nat
  imps : List Imp
  names : List ByteArray

def ImpsIn (w : World) (ia : Option Addr) (L : List Imp) : Prop :=
  0 < L.length → ∃ b o, ia = some ⟨b, o, none⟩ ∧ ∀ j (h : j < L.length), w.cell? ⟨b, o + j * 4, none⟩ = some (.string L[j].path) ∧ w.cell? ⟨b, o + j * 4 + 1, none⟩ = some (.string L[j].file) ∧
    w.cell? ⟨b, o + j * 4 + 2, none⟩ = some (.int .i64 L[j].line) ∧ w.cell? ⟨b, o + j * 4 + 3, none⟩ = some (.int .i64 L[j].col)

def NamesIn (w : World) (ta : Option Addr) (L : List ByteArray) : Prop :=
  0 < L.length → ∃ b o, ta = some ⟨b, o, none⟩ ∧ ∀ j (h : j < L.length), w.cell? ⟨b, o + j, none⟩ = some (.string L[j])

def SpecIn (w : World) (s : Spec) : Prop :=
  ImpsIn w s.ia s.imps ∧ NamesIn w s.ta s.names ∧ s.imps.length ≤ maxLen ∧ s.names.length ≤ maxLen ∧ s.imps.length ≤ s.ic ∧ s.names.length ≤ s.tc

def SpecsIn (w : World) (sa : Option Addr) (S : List Spec) : Prop :=
  (0 < S.length → ∃ b o, sa = some ⟨b, o, none⟩ ∧ ∀ i (h : i < S.length), w.cell? ⟨b, o + i * 3, none⟩ = some (.int .i64 S[i].kind) ∧
    w.cell? ⟨b, o + i * 3 + 1, none⟩ = some (.slice S[i].ia S[i].imps.length S[i].ic) ∧ w.cell? ⟨b, o + i * 3 + 2, none⟩ = some (.slice S[i].ta S[i].names.length S[i].tc)) ∧
  (∀ s ∈ S, SpecIn w s) ∧ S.length ≤ maxLen

theorem NamesIn.at {w : World} {ta : Option Addr} {L : List ByteArray} (h : NamesIn w ta L) {j : Nat} (hj : j < L.length) :
    ∃ b o x, ta = some ⟨b, o, none⟩ ∧ L[j]? = some x ∧ w.cell? ⟨b, o + j, none⟩ = some (.string x) := by
  obtain ⟨b, o, e, hc⟩ := h (by omega)
  exact ⟨b, o, L[j], e, by simp [hj], hc j hj⟩

theorem ImpsIn.at {w : World} {ia : Option Addr} {L : List Imp} (h : ImpsIn w ia L) {j : Nat} (hj : j < L.length) :
    ∃ b o x, ia = some ⟨b, o, none⟩ ∧ L[j]? = some x ∧ w.cell? ⟨b, o + j * 4, none⟩ = some (.string x.path) ∧ w.cell? ⟨b, o + j * 4 + 1, none⟩ = some (.string x.file) ∧
      w.cell? ⟨b, o + j * 4 + 2, none⟩ = some (.int .i64 x.line) ∧ w.cell? ⟨b, o + j * 4 + 3, none⟩ = some (.int .i64 x.col) := by
  obtain ⟨b, o, e, hc⟩ := h (by omega)
  exact ⟨b, o, L[j], e, by simp [hj], hc j hj⟩

theorem SpecsIn.at {w : World} {sa : Option Addr} {S : List Spec} (h : SpecsIn w sa S) {i : Nat} (hi : i < S.length) :
    ∃ b o s, sa = some ⟨b, o, none⟩ ∧ S[i]? = some s ∧ SpecIn w s ∧ w.cell? ⟨b, o + i * 3, none⟩ = some (.int .i64 s.kind) ∧
      w.cell? ⟨b, o + i * 3 + 1, none⟩ = some (.slice s.ia s.imps.length s.ic) ∧ w.cell? ⟨b, o + i * 3 + 2, none⟩ = some (.slice s.ta s.names.length s.tc) := by
  obtain ⟨b, o, e, hc⟩ := h.1 (by omega)
  exact ⟨b, o, S[i], e, by simp [hi], h.2.1 _ (List.getElem_mem hi), hc i hi⟩

/-! ### the cells that an import lies in; pointers to blocks -/
def Imp.cells (m : Imp) : List Value := [.string m.path, .string m.file, .int .i64 m.line, .int .i64 m.col]
def impCells (L : List Imp) : List Value := L.flatMap Imp.cells

theorem impCells_at (L : List Imp) (i : Nat) (m : Imp) (h : L[i]? = some m) : (impCells L)[i * 4]? = some (.string m.path) ∧ (impCells L)[i * 4 + 1]? = some (.string m.file) ∧ (impCells L)[i * 4 + 2]? = some (.int .i64 m.line) ∧ (impCells L)[i * 4 + 3]? = some (.int .i64 m.col) := by
  induction L generalizing i with
  | nil => simp at h
  | cons a L ih =>
    cases i with
    | zero => simp at h; subst h; simp [impCells, Imp.cells]
    | succ i =>
      have := ih i (by simpa using h)
      simp only [impCells, List.flatMap_cons, Imp.cells] at this ⊢
      have e : (i + 1) * 4 = i * 4 + 4 := by omega
      rw [e]
      simpa [Nat.add_assoc, List.getElem?_cons] using this

theorem impCells_length (L : List Imp) : (impCells L).length = L.length * 4 := by
  induction L with
  | nil => rfl
  | cons a L ih => simp only [impCells, List.flatMap_cons, List.length_append, List.length_cons] at ih ⊢; rw [ih]; simp [Imp.cells]; omega

/-- pointers to the heads of the blocks L -/
def ptrCells (L : List Nat) : List Value := L.map fun b => .pointer (some ⟨b, 0, none⟩)

theorem impCells_one (L : List Imp) : ∀ u ∈ impCells L, u.oneCell' = true := by
  intro u hu
  simp only [impCells, List.mem_flatMap, Imp.cells, List.mem_cons, List.not_mem_nil, or_false] at hu
  obtain ⟨m, _, h | h | h | h⟩ := hu <;> subst h <;> rfl
theorem ptrCells_one (L : List Nat) : ∀ u ∈ ptrCells L, u.oneCell' = true := by
  intro u hu
  simp only [ptrCells, List.mem_map] at hu
  obtain ⟨m, _, h⟩ := hu
  subst h; rfl
theorem impCells_append (A B : List Imp) : impCells (A ++ B) = impCells A ++ impCells B := by simp [impCells]
theorem ptrCells_append (A B : List Nat) : ptrCells (A ++ B) = ptrCells A ++ ptrCells B := by simp [ptrCells]
theorem ptrCells_length (L : List Nat) : (ptrCells L).length = L.length := by simp [ptrCells]

theorem hide {p : Prop} (h : p) : Hid p := h
theorem unhide {p : Prop} (h : Hid p) : p := h

/-- the call hands back some Boolean -/
def RetBool (e : Ending) : Prop := ∃ r : Bool, e = .returned (.bool r)
theorem retBool (r : Bool) : RetBool (.returned (.bool r)) := ⟨r, rfl⟩

end Go.Proofs.Qxb6613588a
