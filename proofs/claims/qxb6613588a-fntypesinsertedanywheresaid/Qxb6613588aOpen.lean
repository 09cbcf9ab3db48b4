/-
  FROM THE FORM's READING OF THE ARGUMENTS TO WHAT THE WALKS ARE TOLD: a slice of ZDecl, a slice of strings.
-/
import Derived.Test.Qxb6613588aRows
import Derived.Test.Qxb6613588aMem
import Derived.ProofKit
import Derived.Deep.Slices
import Derived.Deep.Strs
import Derived.Lib.SmallJoins
namespace Go.Proofs.Qxb6613588a
open Go.RowKit Go.Deep Go.ChangeShapes Go.WideShapes

theorem cells69 : Try.prog.cellsOf 69 = 3 := by kernel_rfl
theorem cells71 : Try.prog.cellsOf 71 = 4 := by kernel_rfl
theorem cells9 : Try.prog.cellsOf 9 = 1 := by kernel_rfl
theorem cells3 : Try.prog.cellsOf 3 = 1 := by kernel_rfl
theorem cells57 : Try.prog.cellsOf 57 = 1 := by kernel_rfl
theorem cells67 : Try.prog.cellsOf 67 = 1 := by kernel_rfl

theorem list3 {l : List Value} (h : l.length = 3) : ∃ a b c, l = [a, b, c] := by
  match l, h with
  | [a, b, c], _ => exact ⟨a, b, c, rfl⟩
theorem list4 {l : List Value} (h : l.length = 4) : ∃ a b c d, l = [a, b, c, d] := by
  match l, h with
  | [a, b, c, d], _ => exact ⟨a, b, c, d, rfl⟩

section
variable {H : Type} {enc : TypeId × Value → H} {w : World} {base : Nat} {spare : Nat → Bool} {held : Bool}

/-- an address at which a cell lies has no spot -/
theorem spot_none {w : World} {a : Addr} {v : Value} (h : w.cell? a = some v) : ∃ b o, a = ⟨b, o, none⟩ := by
  obtain ⟨b, o, sp⟩ := a
  cases sp with
  | none => exact ⟨b, o, rfl⟩
  | some x => exfalso; unfold World.cell? at h; revert h; cases w.heap[b]? with
    | none => simp
    | some ob => cases ob <;> simp

theorem add_at (b o n : Nat) : (⟨b, o, none⟩ : Addr).add n = ⟨b, o + n, none⟩ := by unfold Addr.add; split <;> simp_all

theorem names_open {fuel : Nat} {v : Value} {x : DataW H × List MemPlace} (h : DataW.trod enc Try.prog w base spare held fuel 57 [v] = some x) :
    ∃ ta tc N, v = .slice ta N.length tc ∧ NamesIn w ta N ∧ N.length ≤ maxLen ∧ N.length ≤ tc := by
  rcases open_strs Try.underlying57 Try.underlying9 cells9 h with ⟨hv, _⟩ | ⟨a, len, cap, m, Sx, hv, _, hl, hm, hmm, _, hc⟩
  · simp at hv
    exact ⟨none, 0, [], hv, fun hx => by simp at hx, by simp, by simp⟩
  · simp at hv
    have hlm : len ≤ m := by rw [hmm]; split <;> omega
    refine ⟨some a, cap, (List.range len).map Sx, by simpa using hv, fun hx => ?_, by simp; omega, by simp; omega⟩
    simp at hx
    obtain ⟨b, o, rfl⟩ := spot_none (by simpa [Addr.add] using (hc 0 (by omega)).1)
    refine ⟨b, o, rfl, fun j hj => ?_⟩
    simp at hj
    rw [← add_at, (hc j (by omega)).1]
    simp

theorem imps_open {fuel : Nat} {v : Value} {x : DataW H × List MemPlace} (h : DataW.trod enc Try.prog w base spare held fuel 67 [v] = some x) :
    ∃ ia ic L, v = .slice ia L.length ic ∧ ImpsIn w ia L ∧ L.length ≤ maxLen ∧ L.length ≤ ic := by
  rcases open_slice Try.underlying67 h with ⟨hv, _⟩ | ⟨a, len, cap, m, n, D, Pl, hv, _, hl, hm, hmm, _, hc⟩
  · simp at hv
    exact ⟨none, 0, [], hv, fun hx => by simp at hx, by simp, by simp⟩
  · simp at hv
    have hlm : len ≤ m := by rw [hmm]; split <;> omega
    have each : ∀ i, i < len → ∃ im : Imp, w.cell? (a.add (i * 4)) = some (.string im.path) ∧ w.cell? ((a.add (i * 4)).add 1) = some (.string im.file) ∧ w.cell? ((a.add (i * 4)).add 2) = some (.int .i64 im.line) ∧ w.cell? ((a.add (i * 4)).add 3) = some (.int .i64 im.col) := by
      intro i hi
      obtain ⟨cs, hcs, ht⟩ := hc i (by omega)
      rw [cells71] at hcs
      obtain ⟨y0, y1, y2, y3, k, _, hlen, t0, t1, t2, t3⟩ := Go.Joins.trod_struct4 Try.underlying71 ht
      rw [cells71] at hlen
      obtain ⟨_, _, hcell⟩ := World.cells?_some hcs
      obtain ⟨c0, c1, c2, c3, rfl⟩ := list4 hlen
      simp only [cells9, cells3] at t0 t1 t2 t3
      obtain ⟨p, e0, _⟩ := DataW.trod_string Try.underlying9 t0
      obtain ⟨f, e1, _⟩ := DataW.trod_string Try.underlying9 t1
      obtain ⟨l, e2, _⟩ := DataW.trod_int Try.underlying3 t2
      obtain ⟨c, e3, _⟩ := DataW.trod_int Try.underlying3 t3
      simp at e0 e1 e2 e3
      subst e0 e1 e2 e3
      refine ⟨⟨p, f, l, c⟩, ?_, ?_, ?_, ?_⟩
      · simpa [Addr.add] using hcell 0 (by omega)
      · simpa using hcell 1 (by omega)
      · simpa using hcell 2 (by omega)
      · simpa using hcell 3 (by omega)
    have : Inhabited Imp := ⟨⟨ByteArray.empty, ByteArray.empty, 0, 0⟩⟩
    obtain ⟨F, hF⟩ := choose_lt each
    refine ⟨some a, cap, (List.range len).map F, by simpa using hv, fun hx => ?_, by simp; omega, by simp; omega⟩
    simp at hx
    obtain ⟨b, o, rfl⟩ := spot_none (by simpa [Addr.add] using (hF 0 (by omega)).1)
    refine ⟨b, o, rfl, fun j hj => ?_⟩
    simp at hj
    have hj' := hF j hj
    simp only [add_at] at hj'
    simpa using hj'

theorem specs_open {fuel : Nat} {v : Value} {x : DataW H × List MemPlace} (h : DataW.trod enc Try.prog w base spare held fuel 24 [v] = some x) :
    ∃ sa cap S, v = .slice sa S.length cap ∧ SpecsIn w sa S := by
  rcases open_slice Try.underlying24 h with ⟨hv, _⟩ | ⟨a, len, cap, m, n, D, Pl, hv, _, hl, hm, hmm, _, hc⟩
  · simp at hv
    exact ⟨none, 0, [], hv, fun hx => by simp at hx, fun s hs => by simp at hs, by simp⟩
  · simp at hv
    have hlm : len ≤ m := by rw [hmm]; split <;> omega
    have each : ∀ i, i < len → ∃ s : Spec, SpecIn w s ∧ w.cell? (a.add (i * 3)) = some (.int .i64 s.kind) ∧ w.cell? ((a.add (i * 3)).add 1) = some (.slice s.ia s.imps.length s.ic) ∧ w.cell? ((a.add (i * 3)).add 2) = some (.slice s.ta s.names.length s.tc) := by
      intro i hi
      obtain ⟨cs, hcs, ht⟩ := hc i (by omega)
      rw [cells69] at hcs
      obtain ⟨y0, y1, y2, k, _, hlen, t0, t1, t2⟩ := trod_struct3 Try.underlying69 ht
      rw [cells69] at hlen
      obtain ⟨_, _, hcell⟩ := World.cells?_some hcs
      obtain ⟨c0, c1, c2, rfl⟩ := list3 hlen
      simp only [cells57, cells67, cells3] at t0 t1 t2
      obtain ⟨kd, e0, _⟩ := DataW.trod_int Try.underlying3 t0
      obtain ⟨ia, ic, L, e1, hI, hIl, hIc⟩ := imps_open (v := c1) (by simpa using t1)
      obtain ⟨ta, tc, N, e2, hN, hNl, hNc⟩ := names_open (v := c2) (by simpa using t2)
      simp at e0
      subst e0 e1 e2
      refine ⟨⟨kd, ia, ic, ta, tc, L, N⟩, ⟨hI, hN, hIl, hNl, hIc, hNc⟩, ?_, ?_, ?_⟩
      · simpa [Addr.add] using hcell 0 (by omega)
      · simpa using hcell 1 (by omega)
      · simpa using hcell 2 (by omega)
    have : Inhabited Spec := ⟨⟨0, none, 0, none, 0, [], []⟩⟩
    obtain ⟨F, hF⟩ := choose_lt each
    refine ⟨some a, cap, (List.range len).map F, by simpa using hv, fun hx => ?_, fun s hs => ?_, by simp; omega⟩
    · simp at hx
      obtain ⟨b, o, rfl⟩ := spot_none (by simpa [Addr.add] using (hF 0 (by omega)).2.1)
      refine ⟨b, o, rfl, fun j hj => ?_⟩
      simp at hj
      have hj' := (hF j hj).2
      simp only [add_at] at hj'
      simpa using hj'
    · simp at hs
      obtain ⟨i, hi, rfl⟩ := hs
      exact (hF i hi).1
end
end Go.Proofs.Qxb6613588a
