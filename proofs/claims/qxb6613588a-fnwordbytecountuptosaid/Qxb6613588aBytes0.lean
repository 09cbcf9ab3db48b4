import Derived.Test.Qxb6613588aRows
import Derived.WalkKit
import Derived.ProofKit
namespace Go.Proofs.Qxb6613588a
open Go.ChangeShapes Go.WideShapes Go.ChangeAt Go.RowKit

/-- what isWordByte answers -/
def wb (a : Int) : Bool := decide ((97 ≤ a ∧ a ≤ 122) ∨ (65 ≤ a ∧ a ≤ 90) ∨ (48 ≤ a ∧ a ≤ 57) ∨ a = 95)

theorem ret_bool {b c : Bool} (h : b = c) : Ending.returned (.bool b) = .returned (.bool c) := by rw [h]

theorem isWord_any (a : Int) (w : World) : Calls Try.prog 29 #[.int .u8 a] w fun e w' => e = .returned (.bool (wb a)) ∧ w' = w := by
  go_enter Try.func29, Try.ntmps29
  go_wp2
  all_goals
    go_ret
    refine ⟨ret_bool ?_, rfl⟩
    rw [Bool.eq_iff_iff]
    simp [wb]
    omega

theorem zzIsWord_any (a : Int) (w : World) : Calls Try.prog 11 #[.int .u8 a] w fun e w' => e = .returned (.bool (wb a)) ∧ w' = w := by
  go_enter Try.func11, Try.ntmps11
  go_wp2_with (go_at_call 29; refine (isWord_any _ _).mono ?_; rintro e w' ⟨rfl, rfl⟩)
  go_ret
  exact ⟨rfl, rfl⟩

/-- the plain law: a byte and its case partner are both word bytes just where the byte is a letter -/
def flipLaw (a : Int) : Bool := (wb a && wb (bits .xor .u8 a 32)) == (decide (97 ≤ bits .or .u8 a 32) && decide (bits .or .u8 a 32 ≤ 122))

theorem flipLaw_fin : ∀ n : Fin 256, flipLaw (n.val : Int) = true := by decide +kernel

theorem flipLaw_all (a : Int) (h0 : 0 ≤ a) (h1 : a ≤ 255) : flipLaw a = true := by
  obtain ⟨n, rfl⟩ := Int.eq_ofNat_of_zero_le h0
  exact flipLaw_fin ⟨n, by omega⟩

theorem flip_any (a : Int) (h0 : 0 ≤ a) (h1 : a ≤ 255) (w : World) : Calls Try.prog 4 #[.int .u8 a] w fun e w' => e = .returned (.bool true) ∧ w' = w := by
  have L : Hid (flipLaw a = true) := flipLaw_all a h0 h1
  cases hw : wb a
  · go_enter Try.func4, Try.ntmps4
    go_wp2_with (go_at_call 11; refine (zzIsWord_any _ _).mono ?_; rintro e w' ⟨rfl, rfl⟩)
    all_goals
      have l := L.out
      go_ret
      refine ⟨ret_bool ?_, rfl⟩
      simp [flipLaw, hw] at l ⊢
      try omega
  · go_enter Try.func4, Try.ntmps4
    go_wp2_with (go_at_call 11; refine (zzIsWord_any _ _).mono ?_; rintro e w' ⟨rfl, rfl⟩)
    · have l := L.out
      have h2 : 97 ≤ bits .or .u8 a 32 := by assumption
      go_ret
      refine ⟨ret_bool ?_, rfl⟩
      simpa [flipLaw, hw, h2] using l
    · have l := L.out
      have h2 : ¬ 97 ≤ bits .or .u8 a 32 := by have h3 : bits .or .u8 a 32 < 97 := by assumption
                                               omega
      go_ret
      refine ⟨ret_bool ?_, rfl⟩
      simpa [flipLaw, hw, h2] using l

/-- what zzClamp answers -/
def clamp (x hi : Int) : Int := if x < 0 then 0 else if hi < x then hi else x

theorem ret_int {k : IntKind} {a b : Int} (h : a = b) : Ending.returned (.int k a) = .returned (.int k b) := by rw [h]

theorem clamp_any (x hi : Int) (w : World) : Calls Try.prog 12 #[.int .i64 x, .int .i64 hi] w fun e w' => e = .returned (.int .i64 (clamp x hi)) ∧ w' = w := by
  go_enter Try.func12, Try.ntmps12
  go_wp2
  all_goals
    go_ret
    refine ⟨ret_int ?_, rfl⟩
    unfold clamp
    repeat (first | rw [if_pos (by omega)] | rw [if_neg (by omega)])

/-- how many of the bytes below k are word bytes -/
def cnt : Nat → Nat
  | 0 => 0
  | k + 1 => cnt k + (if wb (k : Int) then 1 else 0)

theorem cnt_le (k : Nat) : cnt k ≤ k := by
  induction k with
  | zero => exact Nat.le_refl _
  | succ k ih => simp only [cnt]; split <;> omega

theorem clamp_bd (x hi : Int) (h : 0 ≤ hi) : 0 ≤ clamp x hi ∧ clamp x hi ≤ hi := by
  unfold clamp; split
  · omega
  · split <;> omega

def countLaw (n : Nat) : Bool := decide ((cnt (n + 1) : Int) = clamp ((n : Int) - 47) 10 + clamp ((n : Int) - 64) 26 + clamp ((n : Int) - 94) 1 + clamp ((n : Int) - 96) 26)

theorem countLaw_fin : ∀ n : Fin 256, countLaw n.val = true := by decide +kernel

set_option maxHeartbeats 400000 in
theorem count_any (n : Nat) (h1 : n ≤ 255) (w : World) : Calls Try.prog 3 #[.int .u8 (n : Int)] w fun e w' => e = .returned (.bool true) ∧ w' = w := by
  have L : Hid (countLaw n = true) := countLaw_fin ⟨n, by omega⟩
  go_enter Try.func3, Try.ntmps3
  go_wp2
  go_loop [3, 4] (fun c b => ∃ k : Nat, k ≤ n + 1 ∧ b = .int .i64 k ∧ c = .int .i64 (cnt k)) (fun _ b => n + 1 - (intOf b).toNat)
  case atStart => exact ⟨0, Nat.zero_le _, rfl, rfl⟩
  case round =>
    obtain ⟨k, hk, rfl, rfl⟩ := hrel
    have hcl := cnt_le k
    by_cases hlt : k ≤ n
    · cases hw : wb (k : Int)
      · have hs : Hid (cnt (k + 1) = cnt k) := by simp [Hid, cnt, hw]
        go_wp2_with (go_at_call 11; refine (zzIsWord_any _ _).mono ?_; rintro e w' ⟨rfl, rfl⟩)
        go_round
        case rel => exact ⟨k + 1, by omega, by go_num, by rw [hs.out]⟩
        case measure => simp [intOf]; omega
      · have hs : Hid (cnt (k + 1) = cnt k + 1) := by simp [Hid, cnt, hw]
        go_wp2_with (go_at_call 11; refine (zzIsWord_any _ _).mono ?_; rintro e w' ⟨rfl, rfl⟩)
        go_round
        case rel => exact ⟨k + 1, by omega, by go_num, by rw [hs.out]; go_num⟩
        case measure => simp [intOf]; omega
    · have e1 := clamp_bd ((n : Int) - 47) 10 (by omega)
      have e2 := clamp_bd ((n : Int) - 64) 26 (by omega)
      have e3 := clamp_bd ((n : Int) - 94) 1 (by omega)
      have e4 := clamp_bd ((n : Int) - 96) 26 (by omega)
      have hkn : Hid (k = n + 1) := by show k = n + 1; omega
      go_wp2_with (go_at_call 12; refine (clamp_any _ _ _).mono ?_; rintro e w' ⟨rfl, rfl⟩)
      go_ret
      refine ⟨ret_bool ?_, rfl⟩
      have l := L.out
      rw [hkn.out]
      simpa [countLaw] using l
end Go.Proofs.Qxb6613588a
