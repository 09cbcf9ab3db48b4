/-
  THE PROOF OF Rows.FnTypesInsertedAnywhereSaid: the frame is the one that the guide's tool writes for a law over slices, turned to this function's arguments; the walk lies in Qxb6613588aTopTI.
-/
import Derived.Test.Qxb6613588aRows
import Derived.Test.Qxb6613588aHead
import Derived.Test.Qxb6613588aOpen
import Derived.Test.Qxb6613588aTopTI
import Derived.WalkKit
import Derived.ProofKit
import Derived.OpenShut
import Derived.ShutString
import Derived.ChangeOld
import Derived.Below
namespace Go.Proofs.Qxb6613588a.fnTypesInsertedAnywhere
open Go.ChangeShapes Go.WideShapes Go.ChangeAt Go.RowKit
open Go.ChangeMaps (open_string shut_string)
set_option linter.unusedVariables false

theorem own : ownKnob Try.prog.godebug = none := by kernel_rfl
theorem laidOut : laidOutB Try.prog = true := by kernel_rfl

set_option maxRecDepth 100000 in
theorem lifted (os : Os) (started : os.Started) (H : Type) (enc : TypeId × Value → H) :
    ReturnsInHanded {} Try.checked os 10 .any (Rows.fnTypesInsertedAnywhereSpec.pre6 enc Try.prog Try.f10 Rows.fnTypesInsertedAnywhereRow.domain false) (Rows.fnTypesInsertedAnywhereSpec.post enc Try.prog Try.f10 false true false false) := by
  refine returnsInHanded_of_change (C := Try.checked) own started (by kernel_rfl) Try.func10
    (ChangeSpec.witness6 (enc := enc) (C := Try.checked) false ⟨#[], #[.string ByteArray.empty, .slice none 0 0, .int .i64 0, .slice none 0 0], []⟩ 8 (by kernel_rfl) (by kernel_rfl) (by kernel_rfl) (by kernel_rfl)) ?_
  intro W base args ds gs before hval0 hW hcnd _
  have hval : ∀ (j : Nat) t v, Try.f10.params[j]? = some t → args[j]? = some v → Value.okWide Try.prog W .any base t v := hval0
  have hW' := hW
  obtain ⟨p, q, hA0, hV, rfl, hfz, hnd⟩ := hW
  have hA : DataW.TrodAll enc Try.prog W 0 (fun _ => true) true Try.f10.params.toList args.toList ds p := hA0
  rw [Try.params10] at hA hval
  obtain ⟨v0, vs0, d0, ds0, p0, q0, hargs, rfl, rfl, h0, r0⟩ := trodAll_cons hA
  obtain ⟨v1, vs1, d1, ds1, p1, q1, rfl, rfl, rfl, h1, r1⟩ := trodAll_cons r0
  obtain ⟨v2, vs2, d2, ds2, p2, q2, rfl, rfl, rfl, h2, r2⟩ := trodAll_cons r1
  obtain ⟨v3, vs3, d3, ds3, p3, q3, rfl, rfl, rfl, h3, r3⟩ := trodAll_cons r2
  obtain ⟨rfl, rfl, rfl⟩ := trodAll_nil r3
  obtain rfl : args = #[v0, v1, v2, v3] := by cases args; simp_all
  obtain ⟨rfl, rfl⟩ := trodVars_none hV
  obtain ⟨a0, rfl, rfl, rfl, w0⟩ := open_string Try.underlying9 (hval 0 9 v0 rfl rfl) h0
  obtain ⟨a1, len1, cap1, rfl⟩ := okWide_slice Try.underlying24 (hval 1 24 v1 rfl rfl)
  have k1 := h1
  have lt1 : ∀ x ∈ p1, x.block < W.heap.size := by obtain ⟨m, hm⟩ := k1; exact DataW.trod_lt m _ _ _ hm
  obtain ⟨S, hSl, hS⟩ : ∃ S : List Spec, len1 = S.length ∧ SpecsIn W a1 S := by
    obtain ⟨fuel, hf⟩ := h1
    obtain ⟨sa, cap, S, hv, hS⟩ := specs_open (v := .slice a1 len1 cap1) (by simpa [Value.cells] using hf)
    simp only [Value.slice.injEq] at hv
    obtain ⟨rfl, rfl, _⟩ := hv
    exact ⟨S, rfl, hS⟩
  subst hSl
  obtain ⟨a2, rfl, rfl, rfl, w2⟩ := open_int Try.underlying3 (hval 2 3 v2 rfl rfl) h2
  obtain ⟨a3, len3, cap3, rfl⟩ := okWide_slice Try.underlying57 (hval 3 57 v3 rfl rfl)
  have k3 := h3
  have lt3 : ∀ x ∈ p3, x.block < W.heap.size := by obtain ⟨m, hm⟩ := k3; exact DataW.trod_lt m _ _ _ hm
  obtain ⟨N, hNl, hN, hNm⟩ : ∃ N : List ByteArray, len3 = N.length ∧ NamesIn W a3 N ∧ N.length ≤ maxLen := by
    obtain ⟨fuel, hf⟩ := h3
    obtain ⟨ta, tc, N, hv, hN, hm, _⟩ := names_open (v := .slice a3 len3 cap3) (by simpa [Value.cells] using hf)
    simp only [Value.slice.injEq] at hv
    obtain ⟨rfl, rfl, _⟩ := hv
    exact ⟨N, rfl, hN, hm⟩
  subst hNl
  clear hA0 hval0
  refine (typesInserted a0 a1 cap1 S a2 a3 cap3 N W hS hN hNm).mono fun e W' ⟨he, bel⟩ => ?_
  subst he
  exact ⟨_, rfl, _, _, _, [], _, [], hW', trodAll_mk1 (shut_bool Try.underlying4 _), (trodAll_cons_mk (shut_string Try.underlying9 w0) (trodAll_cons_mk (Below.trod laidOut (by kernel_rfl) (of_decide_eq_true (by kernel_rfl)) k1 bel lt1) (trodAll_cons_mk (shut_int Try.underlying3 w2) (trodAll_cons_mk (Below.trod laidOut (by kernel_rfl) (of_decide_eq_true (by kernel_rfl)) k3 bel lt3) trodAll_mk0)))), rfl, bel.frame _, fun h => by cases h⟩

theorem closed : joinedFacts Try.pinned.checked.prog 10 Try.f10 Rows.fnTypesInsertedAnywhereSpec Rows.fnTypesInsertedAnywhereRow = true := by
  show joinedFacts Try.prog 10 Try.f10 Rows.fnTypesInsertedAnywhereSpec Rows.fnTypesInsertedAnywhereRow = true
  unfold joinedFacts
  rw [fact_enter, fact_lifts, fact_make]
  kernel_rfl

theorem over : Rows.fnTypesInsertedAnywhereRow.holds Try.pinned (OpenSpec.ofChange Rows.fnTypesInsertedAnywhereSpec) :=
  OpenClaim.holds_of_wide 10 Try.f10 rfl rfl rfl rfl rfl rfl rfl ⟨rfl, rfl, rfl, rfl, rfl⟩ rfl rfl rfl rfl rfl (by kernel_rfl) Try.func10 closed
    (of_decide_eq_true (by kernel_rfl)) (by unfold Func.isWrapper; first | (rw [if_pos (by decide +kernel)]; kernel_rfl) | (rw [if_neg (by decide +kernel)]; exact ⟨rfl, rfl⟩))
    (fun os started H enc _ => lifted os started H enc)

/-- THE STATEMENT -/
theorem proved : Rows.FnTypesInsertedAnywhereSaid := over
#print axioms proved
end Go.Proofs.Qxb6613588a.fnTypesInsertedAnywhere
