/-
  THE GUARD ON THE TOTAL LENGTH, function 27: it hands back some Boolean and turns nothing.
-/
import Derived.Test.Qxb6613588aRows
import Derived.Test.Qxb6613588aMem
namespace Go.Proofs.Qxb6613588a
open Go.RowKit

set_option maxRecDepth 100000 in
set_option maxHeartbeats 2000000 in
theorem bytes27 (s : ByteArray) (sa : Option Addr) (cap : Nat) (S : List Spec) (kk : Int) (ta : Option Addr) (tc : Nat) (N : List ByteArray) (w : World) (hS : SpecsIn w sa S) (hT : NamesIn w ta N) (hTl : N.length ≤ maxLen) :
    Calls Try.prog 27 #[.string s, .slice sa S.length cap, .int .i64 kk, .slice ta N.length tc] w fun e w' => RetBool e ∧ w' = w := by
  have hSl := hS.2.2
  unfold maxLen at hSl
  have HS : Hid (SpecsIn w sa S) := hS
  clear hS
  obtain ⟨n, hn⟩ : ∃ n, n = S.length := ⟨_, rfl⟩
  rw [← hn] at hSl ⊢
  have HN : Hid (n = S.length) := hn
  clear hn
  unfold maxLen at hTl
  have HT : Hid (NamesIn w ta N) := hT
  clear hT
  obtain ⟨m, hm⟩ : ∃ m, m = N.length := ⟨_, rfl⟩
  rw [← hm] at hTl ⊢
  have HM : Hid (m = N.length) := hm
  clear hm
  go_enter Try.func27, Try.ntmps27
  go_wp2
  all_goals first | (go_ret; exact ⟨retBool _, rfl⟩) | skip
  go_loop [9, 10, 11, 12] (fun z i _ _ => ∃ (k : Nat) (x : Int), k ≤ n ∧ z = .int .i64 x ∧ i = .int .i64 k) (fun _ i _ _ => n - (intOf i).toNat)
  case atStart => exact ⟨0, _, Nat.zero_le _, rfl, rfl⟩
  case round =>
    obtain ⟨k, x, hk, rfl, rfl⟩ := hrel
    by_cases hlt : k < n
    · obtain ⟨b, o, d, rfl, _, ⟨hI, hT, hIl, hTl2, _, _⟩, hc0, hc1, hc2⟩ := HS.out.at (i := k) (by rw [← HN.out]; exact hlt)
      unfold maxLen at hIl hTl2
      have HI : Hid (ImpsIn w d.ia d.imps) := hI
      have HT2 : Hid (NamesIn w d.ta d.names) := hT
      clear hI hT hc0
      go_wp2
      all_goals first | (go_ret; exact ⟨retBool _, rfl⟩) | skip
      go_loop [9, 11] (fun z i => ∃ (j : Nat) (y : Int), j ≤ d.imps.length ∧ z = .int .i64 y ∧ i = .int .i64 j) (fun _ i => d.imps.length - (intOf i).toNat)
      case atStart => exact ⟨0, _, Nat.zero_le _, rfl, rfl⟩
      case round =>
        obtain ⟨j, y, hj, rfl, rfl⟩ := hrel
        by_cases hjl : j < d.imps.length
        · obtain ⟨b1, o1, m, hia, _, hm0, hm1, hm2, hm3⟩ := HI.out.at hjl
          rw [hia] at hc1
          clear hia hm2 hm3
          go_wp2
          all_goals first | (go_ret; exact ⟨retBool _, rfl⟩) | skip
          go_round
          case rel => exact ⟨j + 1, _, by omega, rfl, by go_num⟩
          case measure => simp [intOf]; omega
        · go_wp2
          all_goals first | (go_ret; exact ⟨retBool _, rfl⟩) | skip
          go_loop [9, 12] (fun z i => ∃ (j : Nat) (y : Int), j ≤ d.names.length ∧ z = .int .i64 y ∧ i = .int .i64 j) (fun _ i => d.names.length - (intOf i).toNat)
          case atStart => exact ⟨0, _, Nat.zero_le _, rfl, rfl⟩
          case round =>
            obtain ⟨j', y', hj', rfl, rfl⟩ := hrel
            by_cases hjl' : j' < d.names.length
            · obtain ⟨b2, o2, m, hta, _, hm0⟩ := HT2.out.at hjl'
              rw [hta] at hc2
              clear hta
              go_wp2
              all_goals first | (go_ret; exact ⟨retBool _, rfl⟩) | skip
              go_round
              case rel => exact ⟨j' + 1, _, by omega, rfl, by go_num⟩
              case measure => simp [intOf]; omega
            · go_wp2
              go_round
              case rel => exact ⟨k + 1, _, by omega, rfl, by go_num⟩
              case measure => simp [intOf]; omega
    · go_wp2
      all_goals first | (go_ret; exact ⟨retBool _, rfl⟩) | skip
      go_loop [9, 13] (fun z i => ∃ (j : Nat) (y : Int), j ≤ m ∧ z = .int .i64 y ∧ i = .int .i64 j) (fun _ i => m - (intOf i).toNat)
      case atStart => exact ⟨0, _, Nat.zero_le _, rfl, rfl⟩
      case round =>
        obtain ⟨j, y, hj, rfl, rfl⟩ := hrel
        by_cases hjl : j < m
        · obtain ⟨b1, o1, q, rfl, _, hm0⟩ := HT.out.at (j := j) (by rw [← HM.out]; exact hjl)
          go_wp2
          all_goals first | (go_ret; exact ⟨retBool _, rfl⟩) | skip
          go_round
          case rel => exact ⟨j + 1, _, by omega, rfl, by go_num⟩
          case measure => simp [intOf]; omega
        · go_wp2
          go_ret
          exact ⟨retBool _, rfl⟩
end Go.Proofs.Qxb6613588a
