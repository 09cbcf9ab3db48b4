/-
  zzCountBefore: the imports, the types and the info blocks of the first k declarations, counted.
-/
import Derived.Test.Qxb6613588aRows
import Derived.Test.Qxb6613588aSize
namespace Go.Proofs.Qxb6613588a
open Go.RowKit

def Spec.nI (s : Spec) : Nat := if s.kind = 1 then 0 else if s.kind = 2 then 0 else s.imps.length
def Spec.nT (s : Spec) : Nat := if s.kind = 1 then 0 else if s.kind = 2 then s.names.length else 0
def Spec.nB (s : Spec) : Nat := if s.kind = 1 then 1 else 0
def cI (S : List Spec) : Nat := (S.map Spec.nI).sum
def cT (S : List Spec) : Nat := (S.map Spec.nT).sum
def cB (S : List Spec) : Nat := (S.map Spec.nB).sum

theorem cI_take_succ (S : List Spec) (k : Nat) (s : Spec) (h : S[k]? = some s) : cI (S.take (k + 1)) = cI (S.take k) + s.nI := by
  rw [List.take_add_one, h]; simp [cI]
theorem cT_take_succ (S : List Spec) (k : Nat) (s : Spec) (h : S[k]? = some s) : cT (S.take (k + 1)) = cT (S.take k) + s.nT := by
  rw [List.take_add_one, h]; simp [cT]
theorem cB_take_succ (S : List Spec) (k : Nat) (s : Spec) (h : S[k]? = some s) : cB (S.take (k + 1)) = cB (S.take k) + s.nB := by
  rw [List.take_add_one, h]; simp [cB]
theorem counts_le (S : List Spec) : cI S + cT S ≤ load S ∧ cB S ≤ S.length := by
  induction S with
  | nil => simp [cI, cT, cB, load]
  | cons s S ih =>
    simp only [cI, cT, cB, load, List.map_cons, List.sum_cons, List.length_cons] at ih ⊢
    have h1 : s.nI + s.nT ≤ s.imps.length + s.names.length := by unfold Spec.nI Spec.nT; split <;> (try split) <;> omega
    have h2 : s.nB ≤ 1 := by unfold Spec.nB; split <;> omega
    omega
theorem load_append (A B : List Spec) : load (A ++ B) = load A + load B := by simp [load]
theorem load_take_le (S : List Spec) (k : Nat) : load (S.take k) ≤ load S := by
  have h := load_append (S.take k) (S.drop k)
  rw [List.take_append_drop] at h
  omega

def CountSays (S : List Spec) (k : Nat) (w : World) (e : Ending) (w' : World) : Prop :=
  e = .returned (.tuple #[.int .i64 (cI (S.take k)), .int .i64 (cT (S.take k)), .int .i64 (cB (S.take k))]) ∧ w' = w

set_option maxRecDepth 100000 in
set_option maxHeartbeats 1000000 in
theorem count_before (sa : Option Addr) (cap : Nat) (S : List Spec) (kk : Nat) (w : World) (hS : SpecsIn w sa S) (hk : kk ≤ S.length) (hl : load S ≤ 1048576) (hn : S.length ≤ 1048576) :
    Calls Try.prog 16 #[.slice sa S.length cap, .int .i64 kk] w (CountSays S kk w) := by
  have HS : Hid (SpecsIn w sa S) := hS
  clear hS
  obtain ⟨n, hn'⟩ : ∃ n, n = S.length := ⟨_, rfl⟩
  rw [← hn'] at hk hn ⊢
  have HN : Hid (n = S.length) := hn'
  have HL := hide hl
  clear hn' hl
  go_enter Try.func16, Try.ntmps16
  go_wp2
  go_loop [7, 8, 9, 10] (fun a t c i => ∃ (k : Nat), k ≤ kk ∧ i = .int .i64 k ∧ a = .int .i64 (cI (S.take k)) ∧ t = .int .i64 (cT (S.take k)) ∧ c = .int .i64 (cB (S.take k))) (fun _ _ _ i => kk - (intOf i).toNat)
  case atStart => exact ⟨0, Nat.zero_le _, rfl, rfl, rfl, rfl⟩
  case round =>
    obtain ⟨k, hkk, rfl, rfl, rfl, rfl⟩ := hrel
    have b1 := (counts_le (S.take k)).1
    have b2 := (counts_le (S.take k)).2
    have b3 := load_take_le S k
    have b4 := HL.out
    have b5 : (S.take k).length ≤ k := List.length_take_le _ _
    by_cases hlt : k < kk
    · obtain ⟨b, o, d, rfl, hd, ⟨_, _, hIl, hTl, _, _⟩, hc0, hc1, hc2⟩ := HS.out.at (i := k) (by rw [← HN.out]; omega)
      have e1 := hide (cI_take_succ S k d hd)
      have e2 := hide (cT_take_succ S k d hd)
      have e3 := hide (cB_take_succ S k d hd)
      have c1 := counts_le (S.take (k + 1))
      have c2 := load_take_le S (k + 1)
      clear hd
      unfold maxLen at hIl hTl
      have key : (d.kind = 1 ∧ cI (S.take (k + 1)) = cI (S.take k) ∧ cT (S.take (k + 1)) = cT (S.take k) ∧ cB (S.take (k + 1)) = cB (S.take k) + 1) ∨
          (d.kind ≠ 1 ∧ d.kind = 2 ∧ cI (S.take (k + 1)) = cI (S.take k) ∧ cT (S.take (k + 1)) = cT (S.take k) + d.names.length ∧ cB (S.take (k + 1)) = cB (S.take k)) ∨
          (d.kind ≠ 1 ∧ d.kind ≠ 2 ∧ cI (S.take (k + 1)) = cI (S.take k) + d.imps.length ∧ cT (S.take (k + 1)) = cT (S.take k) ∧ cB (S.take (k + 1)) = cB (S.take k)) := by
        rw [e1.out, e2.out, e3.out]
        by_cases h1 : d.kind = 1
        · left; simp [h1, Spec.nI, Spec.nT, Spec.nB]
        · by_cases h2 : d.kind = 2
          · right; left; simp [h2, Spec.nI, Spec.nT, Spec.nB]
          · right; right; simp [h1, h2, Spec.nI, Spec.nT, Spec.nB]
      rcases key with ⟨h1, k1, k2, k3⟩ | ⟨h1, h2, k1, k2, k3⟩ | ⟨h1, h2, k1, k2, k3⟩
      · have hb : (d.kind == 1) = true := by simp [h1]
        have K1 := hide k1
        have K2 := hide k2
        have K3 := hide k3
        clear e1 e2 e3 c1 c2 k1 k2 k3 h1
        go_wp2
        go_round
        case rel => exact ⟨k + 1, by omega, by go_num, by rw [K1.out], by rw [K2.out], by rw [K3.out]; go_num⟩
        case measure => simp [intOf]; omega
      · have hb : (d.kind == 1) = false := by simp [h1]
        have hb2 : (d.kind == 2) = true := by simp [h2]
        have hq : cT (S.take k) + d.names.length ≤ 1048576 := by omega
        have K1 := hide k1
        have K2 := hide k2
        have K3 := hide k3
        clear e1 e2 e3 c1 c2 k1 k2 k3 h1 h2
        go_wp2
        go_round
        case rel => exact ⟨k + 1, by omega, by go_num, by rw [K1.out], by rw [K2.out]; go_num, by rw [K3.out]⟩
        case measure => simp [intOf]; omega
      · have hb : (d.kind == 1) = false := by simp [h1]
        have hb2 : (d.kind == 2) = false := by simp [h2]
        have hq : cI (S.take k) + d.imps.length ≤ 1048576 := by omega
        have K1 := hide k1
        have K2 := hide k2
        have K3 := hide k3
        clear e1 e2 e3 c1 c2 k1 k2 k3 h1 h2
        go_wp2
        go_round
        case rel => exact ⟨k + 1, by omega, by go_num, by rw [K1.out]; go_num, by rw [K2.out], by rw [K3.out]⟩
        case measure => simp [intOf]; omega
    · obtain rfl : k = kk := by omega
      go_wp2
      go_ret3
      exact ⟨rfl, rfl⟩
end Go.Proofs.Qxb6613588a
