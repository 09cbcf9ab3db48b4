/-
  zzEqImports and zzEqTypes: two slices that read alike are told equal. They turn nothing (the tape is drawn from).
-/
import Derived.Test.Qxb6613588aRows
import Derived.Test.Qxb6613588aDecls
import Derived.BigQuiet
import Derived.Deep.QuietTactic
namespace Go.Proofs.Qxb6613588a
open Go.RowKit

theorem run_equalIn_same (d : Nat) {t E : Nat} (hu : Try.prog.underlying t = some (.pointer E)) {z : Option Value} {sz by_ : Nat} (hE : (Try.prog.info? E).map (fun i => (i.zero, i.size, i.bytes)) = some (z, sz, by_)) (m : Nat) (w : World) :
    (Op.equalIn (d + 1) t (.pointer (some ⟨m, 0, none⟩)) (.pointer (some ⟨m, 0, none⟩))).run Try.prog w = .ok true w := by
  obtain ⟨i, hi, hzz⟩ := Option.map_eq_some_iff.1 hE
  simp [Op.equalIn, run_underlying hu, sizeOf, typeInfo, hi, sameAddr]

theorem run_equal_same {t E : Nat} (hu : Try.prog.underlying t = some (.pointer E)) {z : Option Value} {sz by_ : Nat} (hE : (Try.prog.info? E).map (fun i => (i.zero, i.size, i.bytes)) = some (z, sz, by_)) (m : Nat) (w : World) :
    (Op.equal t (.pointer (some ⟨m, 0, none⟩)) (.pointer (some ⟨m, 0, none⟩))).run Try.prog w = .ok true w := run_equalIn_same 9999 hu hE m w

theorem run_neq_same {t E : Nat} (hu : Try.prog.underlying t = some (.pointer E)) {z : Option Value} {sz by_ : Nat} (hE : (Try.prog.info? E).map (fun i => (i.zero, i.size, i.bytes)) = some (z, sz, by_)) (m : Nat) (w : World) :
    (binOp .neq t (.pointer (some ⟨m, 0, none⟩)) (.pointer (some ⟨m, 0, none⟩))).run Try.prog w = .ok (.bool false) w := by
  simp only [binOp]
  simp [run_equal_same hu hE]

theorem run_eql_same {t E : Nat} (hu : Try.prog.underlying t = some (.pointer E)) {z : Option Value} {sz by_ : Nat} (hE : (Try.prog.info? E).map (fun i => (i.zero, i.size, i.bytes)) = some (z, sz, by_)) (m : Nat) (w : World) :
    (binOp .eql t (.pointer (some ⟨m, 0, none⟩)) (.pointer (some ⟨m, 0, none⟩))).run Try.prog w = .ok (.bool true) w := by
  simp only [binOp]
  simp [run_equal_same hu hE]

theorem info65 : (Try.prog.info? 65).map (fun i => (i.zero, i.size, i.bytes)) = some (some (.agg #[.string ⟨#[]⟩, .string ⟨#[]⟩, .int .i64 0, .int .i64 0, .slice none 0 0, .string ⟨#[]⟩, .int .i64 0, .int .i64 0, .string ⟨#[]⟩, .int .i64 0, .int .i64 0]), 11, 136) := by kernel_rfl

def TrueSays (w : World) (e : Ending) (w' : World) : Prop := e = .returned (.bool true) ∧ ∃ q, w' = w.drewN q

set_option maxRecDepth 100000 in
set_option maxHeartbeats 1000000 in
theorem eqImports_any {w : World} {x y : Value} {L : List Imp} (hx : Reads w 4 x L.length (impCells L)) (hy : Reads w 4 y L.length (impCells L)) (hl : L.length ≤ 1048576) :
    Calls Try.prog 17 #[x, y] w (TrueSays w) := by
  obtain ⟨xa, xc, rfl, _, hxa⟩ := hx.form
  obtain ⟨ya, yc, rfl, _, hya⟩ := hy.form
  have HX := hide hxa
  have HY := hide hya
  clear hx hy hxa hya
  obtain ⟨n, hn⟩ : ∃ n, n = L.length := ⟨_, rfl⟩
  rw [← hn] at hl HX HY ⊢
  have HL : Hid (n = L.length) := hn
  clear hn
  go_enter Try.func17, Try.ntmps17
  go_wp2
  go_loopw [5] (fun i wr => ∃ k q : Nat, k ≤ n ∧ i = .int .i64 k ∧ wr = w.drewN q) (fun i _ => n - (intOf i).toNat)
  case atStart => exact ⟨0, 0, Nat.zero_le _, rfl, rfl⟩
  case round =>
    obtain ⟨k, q, hk, rfl, rfl⟩ := hrel
    by_cases hlt : k < n
    · obtain ⟨xb, xo, rfl, hxc⟩ := unhide HX (by omega)
      obtain ⟨yb, yo, rfl, hyc⟩ := unhide HY (by omega)
      obtain ⟨m, hm⟩ : ∃ m, L[k]? = some m := ⟨L[k]'(by rw [← HL.out]; exact hlt), by simp⟩
      obtain ⟨c0, c1, c2, c3⟩ := impCells_at L k m hm
      have x0 := hxc _ _ c0
      have x1 : w.cell? ⟨xb, xo + k * 4 + 1, none⟩ = some (.string m.file) := by rw [Nat.add_assoc]; exact hxc _ _ c1
      have x2 : w.cell? ⟨xb, xo + k * 4 + 2, none⟩ = some (.int .i64 m.line) := by rw [Nat.add_assoc]; exact hxc _ _ c2
      have x3 : w.cell? ⟨xb, xo + k * 4 + 3, none⟩ = some (.int .i64 m.col) := by rw [Nat.add_assoc]; exact hxc _ _ c3
      have y0 := hyc _ _ c0
      have y1 : w.cell? ⟨yb, yo + k * 4 + 1, none⟩ = some (.string m.file) := by rw [Nat.add_assoc]; exact hyc _ _ c1
      have y2 : w.cell? ⟨yb, yo + k * 4 + 2, none⟩ = some (.int .i64 m.line) := by rw [Nat.add_assoc]; exact hyc _ _ c2
      have y3 : w.cell? ⟨yb, yo + k * 4 + 3, none⟩ = some (.int .i64 m.col) := by rw [Nat.add_assoc]; exact hyc _ _ c3
      clear hxc hyc c0 c1 c2 c3 hm
      go_wp2
      go_quiet (fail)
      go_wp2
      go_roundw
      case rel => exact ⟨k + 1, q + nq, by omega, by go_num, rfl⟩
      case measure => simp [intOf]; omega
    · go_wp2
      go_ret
      exact ⟨rfl, q, rfl⟩
set_option maxRecDepth 100000 in
set_option maxHeartbeats 1000000 in
theorem eqTypes_any {w : World} {x y : Value} {L : List Nat} (hx : Reads w 1 x L.length (ptrCells L)) (hy : Reads w 1 y L.length (ptrCells L)) (hl : L.length ≤ 1048576) :
    Calls Try.prog 24 #[x, y] w (TrueSays w) := by
  obtain ⟨xa, xc, rfl, _, hxa⟩ := hx.form
  obtain ⟨ya, yc, rfl, _, hya⟩ := hy.form
  have HX := hide hxa
  have HY := hide hya
  clear hx hy hxa hya
  obtain ⟨n, hn⟩ : ∃ n, n = L.length := ⟨_, rfl⟩
  rw [← hn] at hl HX HY ⊢
  have HL : Hid (n = L.length) := hn
  clear hn
  go_enter Try.func24, Try.ntmps24
  go_wp2
  go_loopw [5] (fun i wr => ∃ k q : Nat, k ≤ n ∧ i = .int .i64 k ∧ wr = w.drewN q) (fun i _ => n - (intOf i).toNat)
  case atStart => exact ⟨0, 0, Nat.zero_le _, rfl, rfl⟩
  case round =>
    obtain ⟨k, q, hk, rfl, rfl⟩ := hrel
    by_cases hlt : k < n
    · obtain ⟨xb, xo, rfl, hxc⟩ := unhide HX (by omega)
      obtain ⟨yb, yo, rfl, hyc⟩ := unhide HY (by omega)
      obtain ⟨m, hm⟩ : ∃ m, L[k]? = some m := ⟨L[k]'(by rw [← HL.out]; exact hlt), by simp⟩
      have c0 : (ptrCells L)[k]? = some (.pointer (some ⟨m, 0, none⟩)) := by simp [ptrCells, hm]
      have x0 := hxc _ _ c0
      have y0 := hyc _ _ c0
      have hneq := run_neq_same Try.underlying62 info65
      clear hxc hyc c0 hm
      go_wp2
      go_quiet (fail)
      go_wp2
      go_roundw
      case rel => exact ⟨k + 1, q + nq, by omega, by go_num, rfl⟩
      case measure => simp [intOf]; omega
    · go_wp2
      go_ret
      exact ⟨rfl, q, rfl⟩
end Go.Proofs.Qxb6613588a
