/-
  zzAdd, zzAddWords, zzSize: what they answer. zzSize turns nothing; where its answer is within the limit, so are the counts that the builders below owe.
-/
import Derived.Test.Qxb6613588aRows
import Derived.Test.Qxb6613588aMem
namespace Go.Proofs.Qxb6613588a
open Go.RowKit

/-- the saturating sum -/
def sat (n x : Int) : Int := if n + x ≤ 1048576 then n + x else 1048577

theorem sat_bd {n x : Int} (hx : 0 ≤ x) (h : n ≤ 1048577) : n ≤ sat n x ∧ sat n x ≤ 1048577 := by unfold sat; split <;> omega
theorem sat_le {n x : Int} (h : sat n x ≤ 1048576) : sat n x = n + x := by
  unfold sat at h ⊢
  split
  · rfl
  · rename_i hh; rw [if_neg hh] at h; omega

/-- what zzAdd and zzAddWords say of their answer -/
def SatSays (n x : Int) (w : World) (e : Ending) (w' : World) : Prop := ∃ r : Int, e = .returned (.int .i64 r) ∧ Hid (r = sat n x) ∧ n ≤ r ∧ r ≤ 1048577 ∧ w' = w

theorem satSays {n x r : Int} (w : World) (hx : 0 ≤ x) (h : n ≤ 1048577) (hr : r = sat n x) : SatSays n x w (.returned (.int .i64 r)) w := by
  have := sat_bd hx h
  exact ⟨r, rfl, hr, by omega, by omega, rfl⟩

theorem add_any (n x : Int) (w : World) (h0 : 0 ≤ n) (h1 : n ≤ 1048577) (hx : 0 ≤ x) : Calls Try.prog 30 #[.int .i64 n, .int .i64 x] w (SatSays n x w) := by
  by_cases c1 : 1048576 < n
  · go_enter Try.func30, Try.ntmps30
    go_wp2
    go_ret
    exact satSays w hx h1 (by unfold sat; rw [if_neg (by omega)])
  · by_cases c2 : 1048576 - n < x
    · go_enter Try.func30, Try.ntmps30
      go_wp2
      go_ret
      exact satSays w hx h1 (by unfold sat; rw [if_neg (by omega)])
    · go_enter Try.func30, Try.ntmps30
      go_wp2
      go_ret
      exact satSays w hx h1 (by unfold sat; rw [if_pos (by omega)])

theorem addWords_any (n x : Int) (w : World) (h0 : 0 ≤ n) (h1 : n ≤ 1048577) (hx : 0 ≤ x) : Calls Try.prog 31 #[.int .i64 n, .int .i64 x] w (SatSays n (8 * x) w) := by
  by_cases c1 : 1048576 < n
  · go_enter Try.func31, Try.ntmps31
    go_wp2
    go_ret
    exact satSays w (by omega) h1 (by unfold sat; rw [if_neg (by omega)])
  · by_cases c2 : (1048576 - n) / 8 < x
    · go_enter Try.func31, Try.ntmps31
      go_wp2
      go_ret
      exact satSays w (by omega) h1 (by unfold sat; rw [if_neg (by omega)])
    · have c3 : 8 * x ≤ 1048576 := by omega
      go_enter Try.func31, Try.ntmps31
      go_wp2
      go_ret
      exact satSays w (by omega) h1 (by unfold sat; rw [if_pos (by omega)])

/-- how many imports and names the declarations hold -/
def load (S : List Spec) : Nat := (S.map fun s => s.imps.length + s.names.length).sum
/-- no import's path is longer than the limit -/
def Short (S : List Spec) : Prop := ∀ s ∈ S, ∀ m ∈ s.imps, m.path.size ≤ 1048576

/-- what zzSize's running sum says of the first k declarations -/
def Within (S : List Spec) (N : List ByteArray) (k : Nat) (x : Int) : Prop := x ≤ 1048576 → 8 * ((S.length + N.length + load (S.take k) : Nat) : Int) ≤ x ∧ Short (S.take k)

def SizeSays (S : List Spec) (N : List ByteArray) (e : Ending) : Prop := ∃ r : Int, e = .returned (.int .i64 r) ∧ (r ≤ 1048576 → 8 * (S.length + N.length + load S) ≤ 1048576 ∧ Short S)

theorem sizeBig {S : List Spec} {N : List ByteArray} {r : Int} (h : 1048576 < r) : SizeSays S N (.returned (.int .i64 r)) := ⟨r, rfl, fun h' => by omega⟩

theorem load_take_succ (S : List Spec) (k : Nat) (s : Spec) (h : S[k]? = some s) : load (S.take (k + 1)) = load (S.take k) + (s.imps.length + s.names.length) := by
  have hk : k < S.length := (List.getElem?_eq_some_iff.1 h).1
  have e : S.take (k + 1) = S.take k ++ [s] := by
    rw [List.take_add_one, h]; rfl
  rw [e]; simp [load]

theorem short_take_succ (S : List Spec) (k : Nat) (s : Spec) (h : S[k]? = some s) (h1 : Short (S.take k)) (h2 : ∀ m ∈ s.imps, m.path.size ≤ 1048576) : Short (S.take (k + 1)) := by
  have e : S.take (k + 1) = S.take k ++ [s] := by rw [List.take_add_one, h]; rfl
  rw [e]
  intro t ht
  rcases List.mem_append.1 ht with ht | ht
  · exact h1 t ht
  · obtain rfl : t = s := by simpa using ht
    exact h2

/-- the inner loop's word: the first j paths are short -/
def PathsTo (d : Spec) (j : Nat) (y : Int) : Prop := y ≤ 1048576 → ∀ m ∈ d.imps.take j, m.path.size ≤ 1048576

theorem pathsTo_succ {d : Spec} {j : Nat} {m : Imp} {y r r2 : Int} (hm : d.imps[j]? = some m) (h : PathsTo d j y) (h0 : 0 ≤ y) (e1 : r = sat y m.path.size) (h1 : y ≤ r) (h2 : r ≤ r2) : PathsTo d (j + 1) r2 := by
  intro hr
  have e : d.imps.take (j + 1) = d.imps.take j ++ [m] := by rw [List.take_add_one, hm]; rfl
  rw [e]
  intro t ht
  rcases List.mem_append.1 ht with ht | ht
  · exact h (by omega) t ht
  · obtain rfl : t = m := by simpa using ht
    have := sat_le (n := y) (x := t.path.size) (by omega)
    omega

theorem within_start (S : List Spec) (N : List ByteArray) (r1 r2 r3 : Int) (h2 : r2 = sat r1 (8 * (S.length : Int))) (h3 : r3 = sat r2 (8 * (N.length : Int))) (g1 : 0 ≤ r1) (g3 : r2 ≤ r3) : Within S N 0 r3 := by
  intro h
  have e3 := sat_le (n := r2) (x := 8 * (N.length : Int)) (by omega)
  have e2 := sat_le (n := r1) (x := 8 * (S.length : Int)) (by omega)
  refine ⟨?_, fun s hs => by simp at hs⟩
  simp [load]
  omega

theorem within_step (S : List Spec) (N : List ByteArray) (k : Nat) (d : Spec) (x r1 r2 y : Int) (hd : S[k]? = some d) (hx : Within S N k x) (h1 : r1 = sat x (8 * (d.imps.length : Int))) (h2 : r2 = sat r1 (8 * (d.names.length : Int))) (g1 : x ≤ r1) (g2 : r1 ≤ r2) (g3 : r2 ≤ y) (hp : PathsTo d d.imps.length y) : Within S N (k + 1) y := by
  intro h
  have e2 := sat_le (n := r1) (x := 8 * (d.names.length : Int)) (by omega)
  have e1 := sat_le (n := x) (x := 8 * (d.imps.length : Int)) (by omega)
  obtain ⟨ha, hb⟩ := hx (by omega)
  refine ⟨?_, short_take_succ S k d hd hb (by simpa using hp h)⟩
  rw [load_take_succ S k d hd]
  omega

theorem sizeDone {S : List Spec} {N : List ByteArray} {k : Nat} {r x : Int} (hk : k = S.length) (h : Within S N k x) (hr : x ≤ r) : SizeSays S N (.returned (.int .i64 r)) := by
  refine ⟨r, rfl, fun h' => ?_⟩
  obtain ⟨ha, hb⟩ := h (by omega)
  subst hk
  rw [List.take_length] at ha hb
  exact ⟨by omega, hb⟩

set_option maxRecDepth 100000 in
set_option maxHeartbeats 2000000 in
theorem size_any (s : ByteArray) (sa : Option Addr) (cap : Nat) (S : List Spec) (ta : Option Addr) (tc : Nat) (N : List ByteArray) (w : World) (hS : SpecsIn w sa S) (hT : NamesIn w ta N) (hTl : N.length ≤ maxLen) :
    Calls Try.prog 14 #[.string s, .slice sa S.length cap, .slice ta N.length tc] w fun e w' => SizeSays S N e ∧ w' = w := by
  have hSl := hS.2.2
  unfold maxLen at hSl hTl
  have HS : Hid (SpecsIn w sa S) := hS
  have HT : Hid (NamesIn w ta N) := hT
  clear hS hT
  have wstart := within_start S N
  obtain ⟨n, hn⟩ : ∃ n, n = S.length := ⟨_, rfl⟩
  obtain ⟨m, hm⟩ : ∃ m, m = N.length := ⟨_, rfl⟩
  rw [← hn] at hSl wstart ⊢
  rw [← hm] at hTl wstart ⊢
  have HN : Hid (n = S.length) := hn
  have HM : Hid (m = N.length) := hm
  have WS := hide wstart
  clear hn hm wstart
  go_enter Try.func14, Try.ntmps14
  go_wp2_with fail
  refine (add_any _ _ _ (by omega) (by omega) (by omega)).mono ?_
  rintro e w1 ⟨r1, rfl, hr1, g1, g1', rfl⟩
  go_wp2_with fail
  refine (addWords_any _ _ _ (by omega) (by omega) (by omega)).mono ?_
  rintro e w1 ⟨r2, rfl, hr2, g2, g2', rfl⟩
  go_wp2_with fail
  refine (addWords_any _ _ _ (by omega) (by omega) (by omega)).mono ?_
  rintro e w1 ⟨r3, rfl, hr3, g3, g3', rfl⟩
  have W0 : Hid (Within S N 0 r3) := unhide WS r1 r2 r3 hr2.out hr3.out (by omega) (by omega)
  clear WS hr1 hr2 hr3
  go_wp2_with fail
  · go_ret
    exact ⟨sizeBig (by assumption), rfl⟩
  go_loop [7, 8, 9, 10] (fun z i _ _ => ∃ (k : Nat) (x : Int), k ≤ n ∧ z = .int .i64 x ∧ i = .int .i64 k ∧ 0 ≤ x ∧ x ≤ 1048576 ∧ Hid (Within S N k x)) (fun _ i _ _ => n - (intOf i).toNat)
  case atStart => exact ⟨0, _, Nat.zero_le _, rfl, rfl, by omega, by omega, W0⟩
  case round =>
    obtain ⟨k, x, hk, rfl, rfl, hx0, hx1, hW⟩ := hrel
    by_cases hlt : k < n
    · obtain ⟨b, o, d, rfl, hd, ⟨hI, hT, hIl, hTl, _, _⟩, hc0, hc1, hc2⟩ := HS.out.at (i := k) (by rw [← HN.out]; exact hlt)
      unfold maxLen at hIl hTl
      have HD : Hid (S[k]? = some d) := hd
      have HI : Hid (ImpsIn w1 d.ia d.imps) := hI
      have HT2 : Hid (NamesIn w1 d.ta d.names) := hT
      clear hI hT hc0 hd
      clear W0
      go_wp2_with fail
      refine (addWords_any _ _ _ (by omega) (by omega) (by omega)).mono ?_
      rintro e w2 ⟨q1, rfl, hq1, f1, f1', rfl⟩
      go_wp2_with fail
      refine (addWords_any _ _ _ (by omega) (by omega) (by omega)).mono ?_
      rintro e w3 ⟨q2, rfl, hq2, f2, f2', rfl⟩
      go_wp2_with fail
      · go_ret
        exact ⟨sizeBig (by assumption), rfl⟩
      go_loop [7, 9] (fun z i => ∃ (j : Nat) (y : Int), j ≤ d.imps.length ∧ z = .int .i64 y ∧ i = .int .i64 j ∧ q2 ≤ y ∧ y ≤ 1048576 ∧ Hid (PathsTo d j y)) (fun _ i => d.imps.length - (intOf i).toNat)
      case atStart => exact ⟨0, _, Nat.zero_le _, rfl, rfl, by omega, by omega, fun _ m hm => by simp at hm⟩
      case round =>
        obtain ⟨j, y, hj, rfl, rfl, hy0, hy1, hP⟩ := hrel
        by_cases hjl : j < d.imps.length
        · obtain ⟨b1, o1, im, hia, hm, hm0, hm1, hm2, hm3⟩ := HI.out.at hjl
          rw [hia] at hc1
          have HIM : Hid (d.imps[j]? = some im) := hm
          clear hia hm2 hm3 hm
          go_wp2_with fail
          refine (add_any _ _ _ (by omega) (by omega) (by omega)).mono ?_
          rintro e w4 ⟨y1, rfl, hy1e, k1, k1', rfl⟩
          go_wp2_with fail
          refine (add_any _ _ _ (by omega) (by omega) (by omega)).mono ?_
          rintro e w5 ⟨y2, rfl, hy2e, k2, k2', rfl⟩
          have HP2 : Hid (PathsTo d (j + 1) y2) := pathsTo_succ HIM.out hP.out (by omega) hy1e.out k1 k2
          go_wp2_with fail
          · go_ret
            exact ⟨sizeBig (by assumption), rfl⟩
          go_round
          case rel => exact ⟨j + 1, _, by omega, rfl, by go_num, by omega, by omega, HP2⟩
          case measure => simp [intOf]; omega
        · have HP2 : Hid (PathsTo d d.imps.length y) := by
            have : j = d.imps.length := by omega
            rw [← this]; exact hP
          clear hP
          go_wp2_with fail
          go_loop [7, 10] (fun z i => ∃ (j : Nat) (y' : Int), j ≤ d.names.length ∧ z = .int .i64 y' ∧ i = .int .i64 j ∧ y ≤ y' ∧ y' ≤ 1048576) (fun _ i => d.names.length - (intOf i).toNat)
          case atStart => exact ⟨0, _, Nat.zero_le _, rfl, rfl, by omega, by omega⟩
          case round =>
            obtain ⟨j', y', hj', rfl, rfl, hz0, hz1⟩ := hrel
            by_cases hjl' : j' < d.names.length
            · obtain ⟨b2, o2, im, hta, _, hm0⟩ := HT2.out.at hjl'
              rw [hta] at hc2
              clear hta
              go_wp2_with fail
              refine (add_any _ _ _ (by omega) (by omega) (by omega)).mono ?_
              rintro e w4 ⟨y1, rfl, hy1e, k1, k1', rfl⟩
              go_wp2_with fail
              · go_ret
                exact ⟨sizeBig (by assumption), rfl⟩
              go_round
              case rel => exact ⟨j' + 1, _, by omega, rfl, by go_num, by omega, by omega⟩
              case measure => simp [intOf]; omega
            · have HP3 : Hid (PathsTo d d.imps.length y') := fun h => HP2.out (by omega)
              have HW2 : Hid (Within S N (k + 1) y') := within_step S N k d x q1 q2 y' HD.out hW.out hq1.out hq2.out f1 f2 (by omega) HP3.out
              go_wp2_with fail
              go_round
              case rel => exact ⟨k + 1, _, by omega, rfl, by go_num, by omega, by omega, HW2⟩
              case measure => simp [intOf]; omega
    · have HK : Hid (k = S.length) := by rw [← HN.out]; show k = n; omega
      go_wp2_with fail
      go_loop [7, 11] (fun z i => ∃ (j : Nat) (y : Int), j ≤ m ∧ z = .int .i64 y ∧ i = .int .i64 j ∧ x ≤ y ∧ y ≤ 1048576) (fun _ i => m - (intOf i).toNat)
      case atStart => exact ⟨0, _, Nat.zero_le _, rfl, rfl, by omega, by omega⟩
      case round =>
        obtain ⟨j, y, hj, rfl, rfl, hz0, hz1⟩ := hrel
        by_cases hjl : j < m
        · obtain ⟨b2, o2, im, rfl, _, hm0⟩ := HT.out.at (j := j) (by rw [← HM.out]; exact hjl)
          go_wp2_with fail
          refine (add_any _ _ _ (by omega) (by omega) (by omega)).mono ?_
          rintro e w4 ⟨y1, rfl, hy1e, k1, k1', rfl⟩
          go_wp2_with fail
          · go_ret
            exact ⟨sizeBig (by assumption), rfl⟩
          go_round
          case rel => exact ⟨j + 1, _, by omega, rfl, by go_num, by omega, by omega⟩
          case measure => simp [intOf]; omega
        · go_wp2_with fail
          go_ret
          exact ⟨sizeDone HK.out hW.out (by omega), rfl⟩
end Go.Proofs.Qxb6613588a
