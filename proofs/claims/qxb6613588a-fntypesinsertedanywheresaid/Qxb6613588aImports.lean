/-
  (*File).Imports, (*File).Types, (*File).Info: what they answer of a file that holds given declarations.
-/
import Derived.Test.Qxb6613588aRows
import Derived.Test.Qxb6613588aDecls
namespace Go.Proofs.Qxb6613588a
open Go.RowKit

theorem info45 : (Try.prog.info? 45).map (fun i => (i.zero, i.size, i.bytes)) = some (some (.agg #[.string ⟨#[]⟩, .string ⟨#[]⟩, .int .i64 0, .int .i64 0]), 4, 48) := by kernel_rfl
theorem info62 : (Try.prog.info? 62).map (fun i => (i.zero, i.size, i.bytes)) = some (some (.pointer none), 1, 8) := by kernel_rfl
theorem info46 : (Try.prog.info? 46).map (fun i => (i.zero, i.size, i.bytes)) = some (some (.pointer none), 1, 8) := by kernel_rfl
theorem info77 : (Try.prog.info? 77).map (fun i => (i.zero, i.size, i.bytes)) = some (some .nilIface, 1, 16) := by kernel_rfl

theorem elem28 : ElemOk Try.prog 28 45 4 48 := by
  obtain ⟨i, hi, hz, hs, hb⟩ := info_parts info45
  exact ⟨Try.underlying28, ⟨i, _, hi, hz, hs, hb, rfl⟩, by decide⟩
theorem elem29 : ElemOk Try.prog 29 62 1 8 := by
  obtain ⟨i, hi, hz, hs, hb⟩ := info_parts info62
  exact ⟨Try.underlying29, ⟨i, _, hi, hz, hs, hb, rfl⟩, by decide⟩
theorem elem30 : ElemOk Try.prog 30 46 1 8 := by
  obtain ⟨i, hi, hz, hs, hb⟩ := info_parts info46
  exact ⟨Try.underlying30, ⟨i, _, hi, hz, hs, hb, rfl⟩, by decide⟩
theorem elem35 : ElemOk Try.prog 35 77 1 16 := by
  obtain ⟨i, hi, hz, hs, hb⟩ := info_parts info77
  exact ⟨Try.underlying35, ⟨i, _, hi, hz, hs, hb, rfl⟩, by decide⟩

/-- 'd.(*T)' where d holds a *T -/
theorem run_assert_yes (T E : Nat) (hu : Try.prog.underlying T = some (.pointer E)) (p : Value) (w : World) : (Instr.typeAssert (.iface T p) 77 T true).run Try.prog w = .ok (.tuple #[p, .bool true]) w := by
  simp [Instr.typeAssert, run_underlying hu]
/-- 'd.(*T)' where d holds another type -/
theorem run_assert_no (T E t : Nat) (hu : Try.prog.underlying T = some (.pointer E)) (hz : ∀ w, (zeroValue T).run Try.prog w = .ok (.pointer none) w) (ht : t ≠ T) (p : Value) (w : World) :
    (Instr.typeAssert (.iface t p) 77 T true).run Try.prog w = .ok (.tuple #[.pointer none, .bool false]) w := by
  simp [Instr.typeAssert, run_underlying hu, ht, hz]

theorem info72 : (Try.prog.info? 72).map (fun i => (i.zero, i.size, i.bytes)) = some (some (.pointer none), 1, 8) := by kernel_rfl
theorem info59 : (Try.prog.info? 59).map (fun i => (i.zero, i.size, i.bytes)) = some (some (.pointer none), 1, 8) := by kernel_rfl
theorem info52 : (Try.prog.info? 52).map (fun i => (i.zero, i.size, i.bytes)) = some (some (.pointer none), 1, 8) := by kernel_rfl
theorem zero_of {T : Nat} (h : (Try.prog.info? T).map (fun i => (i.zero, i.size, i.bytes)) = some (some (.pointer none), 1, 8)) (w : World) : (zeroValue T).run Try.prog w = .ok (.pointer none) w := by
  obtain ⟨i, hi, hz, _⟩ := info_parts h
  simp [zeroValue, typeInfo, hi, hz]

/-- what Imports (t = 72, elements of type 45, four cells each) and Types (t = 59; 62; one) say -/
def ListSays (t e size : Nat) (w : World) (D : List DV) (en : Ending) (w' : World) : Prop :=
  ∃ v, en = .returned v ∧ w'.ownsRow w.heap.size e size v (numOf t D) (cellsOf t D) ∧ Below w.heap.size w w'

set_option maxRecDepth 100000 in
set_option maxHeartbeats 1000000 in
theorem imports_any {w : World} {B fb : Nat} {D : List DV} (h : FileAt w B fb D) (hB : B ≤ w.heap.size) :
    Calls Try.prog 18 #[.pointer (some ⟨fb, 0, none⟩)] w (ListSays 72 45 4 w D) := by
  obtain ⟨dv, hf, hR, hfb, hdv, hD, hl, hn72, _⟩ := h
  obtain ⟨da, dc, rfl, _, hda⟩ := hR.form
  have HR : Hid (Reads w 1 (.slice da D.length dc) D.length (D.map DV.val)) := hR
  have HD : Hid (∀ d ∈ D, DOk w d ∧ ∀ k, d.uses k → k < B) := hD
  have HDA := hide hda
  have HN := hide hn72
  clear hR hD hda hn72 hdv
  obtain ⟨n, hn⟩ : ∃ n, n = D.length := ⟨_, rfl⟩
  rw [← hn] at hl HR hf HDA
  have HL : Hid (n = D.length) := hn
  clear hn
  go_enter Try.func18, Try.ntmps18
  go_wp2
  go_loopw [3, 5, 6, 7, 13] (fun v _ _ _ i wr => ∃ k : Nat, k ≤ n ∧ i = .int .i64 k ∧ wr.ownsRow w.heap.size 45 4 v (numOf 72 (D.take k)) (cellsOf 72 (D.take k)) ∧ Below w.heap.size w wr) (fun _ _ _ _ i _ => n - (intOf i).toNat)
  case atStart => exact ⟨0, Nat.zero_le _, rfl, World.ownsRow_nil _ _ _ _, Below.refl _ _⟩
  case round =>
    obtain ⟨k, hk, rfl, hown, hbel⟩ := hrel
    by_cases hlt : k < n
    · obtain ⟨b, o, rfl, hc⟩ := unhide HDA (by omega)
      obtain ⟨d, hd⟩ : ∃ d, D[k]? = some d := ⟨D[k]'(by rw [← HL.out]; exact hlt), by simp⟩
      have hcell := hc k d.val (by simp [hd])
      have hcw : wr.cell? ⟨b, o + k, none⟩ = some (.iface d.ty (.pointer (some ⟨d.b, 0, none⟩))) := by
        rw [hbel.cell (World.block_lt_of_cell? w _ hcell)]; exact hcell
      obtain ⟨hok, huse⟩ := HD.out d (List.mem_of_getElem? hd)
      by_cases ht : d.ty = 72
      · have hok2 : w.cell? ⟨d.b, 3, none⟩ = some d.v ∧ Reads w 4 d.v d.n d.xs ∧ ∀ u ∈ d.xs, u.oneCell' = true := by
          rcases hok with h | h | h
          · exact ⟨h.2.1, h.2.2.1, fun u hu => by obtain ⟨L, hL, _⟩ := h.2.2.2; rw [hL] at hu; exact impCells_one L u hu⟩
          · omega
          · omega
        obtain ⟨hdv, hdr, hd1⟩ := hok2
        rw [ht] at hcw
        have hdw : wr.cell? ⟨d.b, 3, none⟩ = some d.v := by rw [hbel.cell (World.block_lt_of_cell? w _ hdv)]; exact hdv
        have hsw : Reads wr 4 d.v d.n d.xs := hdr.kept (frOfBelow hbel) (fun k hk => by have := huse k (.inr hk); omega)
        have hnum := numOf_take_le 72 D (k + 1)
        have e1 : numOf 72 (D.take (k + 1)) = numOf 72 (D.take k) + d.n := by rw [take_succ_snoc hd, numOf_append, numOf_one_eq 72 d ht]
        have e2 : cellsOf 72 (D.take (k + 1)) = cellsOf 72 (D.take k) ++ d.xs := by rw [take_succ_snoc hd, cellsOf_append, cellsOf_one_eq 72 d ht]
        have hN := HN.out
        have hb1 : (numOf 72 (D.take k) + d.n) * 48 ≤ 140737488355328 := by omega
        have hb2 : numOf 72 (D.take k) + d.n ≤ maxLen := by unfold maxLen; omega
        have hbs : w.heap.size ≤ wr.heap.size := hbel.size
        have E1 := hide e1
        have E2 := hide e2
        have hta := run_assert_yes 72 _ Try.underlying72
        clear hc hcell hok hdv e1 e2 hnum hN hd ht
        go_wp2_with (at_builtin; refine wpList_append_reads _ rfl (.tmp 23) (.tmp 27) rfl w.heap.size elem28 rfl hown rfl hsw hd1 hb1 hb2 hbs ?_)
        intro v' w1 hown' hfr hlie
        have hbel' : Below w.heap.size w w1 := hbel.trans (hfr.below hbs (fun k hk he => by have := (ownsBlk hown he).1; omega))
        rw [← E1.out, ← E2.out] at hown'
        clear hown hfr hlie hb1 hb2 hsw hdr hd1 hcw hdw huse hbel
        go_wp2
        go_roundw
        case rel => exact ⟨k + 1, by omega, by go_num, hown', hbel'⟩
        case measure => simp [intOf]; omega
      · have e1 : numOf 72 (D.take (k + 1)) = numOf 72 (D.take k) := by rw [take_succ_snoc hd, numOf_append, numOf_one_ne 72 d ht, Nat.add_zero]
        have e2 : cellsOf 72 (D.take (k + 1)) = cellsOf 72 (D.take k) := by rw [take_succ_snoc hd, cellsOf_append, cellsOf_one_ne 72 d ht, List.append_nil]
        have hown' := hown
        rw [← e1, ← e2] at hown'
        have hta := run_assert_no 72 _ d.ty Try.underlying72 (zero_of info72) ht
        clear hc hcell hok e1 e2 hd hown
        go_wp2
        go_roundw
        case rel => exact ⟨k + 1, by omega, by go_num, hown', hbel⟩
        case measure => simp [intOf]; omega
    · have hkn : D.take k = D := by rw [List.take_of_length_le]; have := HL.out; omega
      rw [hkn] at hown
      clear hkn
      go_wp2
      go_ret
      exact ⟨_, rfl, hown, hbel⟩
set_option maxRecDepth 100000 in
set_option maxHeartbeats 1000000 in
theorem types_any {w : World} {B fb : Nat} {D : List DV} (h : FileAt w B fb D) (hB : B ≤ w.heap.size) :
    Calls Try.prog 25 #[.pointer (some ⟨fb, 0, none⟩)] w (ListSays 59 62 1 w D) := by
  obtain ⟨dv, hf, hR, hfb, hdv, hD, hl, _, hn72⟩ := h
  obtain ⟨da, dc, rfl, _, hda⟩ := hR.form
  have HR : Hid (Reads w 1 (.slice da D.length dc) D.length (D.map DV.val)) := hR
  have HD : Hid (∀ d ∈ D, DOk w d ∧ ∀ k, d.uses k → k < B) := hD
  have HDA := hide hda
  have HN := hide hn72
  clear hR hD hda hn72 hdv
  obtain ⟨n, hn⟩ : ∃ n, n = D.length := ⟨_, rfl⟩
  rw [← hn] at hl HR hf HDA
  have HL : Hid (n = D.length) := hn
  clear hn
  go_enter Try.func25, Try.ntmps25
  go_wp2
  go_loopw [3, 5, 6, 7, 13] (fun v _ _ _ i wr => ∃ k : Nat, k ≤ n ∧ i = .int .i64 k ∧ wr.ownsRow w.heap.size 62 1 v (numOf 59 (D.take k)) (cellsOf 59 (D.take k)) ∧ Below w.heap.size w wr) (fun _ _ _ _ i _ => n - (intOf i).toNat)
  case atStart => exact ⟨0, Nat.zero_le _, rfl, World.ownsRow_nil _ _ _ _, Below.refl _ _⟩
  case round =>
    obtain ⟨k, hk, rfl, hown, hbel⟩ := hrel
    by_cases hlt : k < n
    · obtain ⟨b, o, rfl, hc⟩ := unhide HDA (by omega)
      obtain ⟨d, hd⟩ : ∃ d, D[k]? = some d := ⟨D[k]'(by rw [← HL.out]; exact hlt), by simp⟩
      have hcell := hc k d.val (by simp [hd])
      have hcw : wr.cell? ⟨b, o + k, none⟩ = some (.iface d.ty (.pointer (some ⟨d.b, 0, none⟩))) := by
        rw [hbel.cell (World.block_lt_of_cell? w _ hcell)]; exact hcell
      obtain ⟨hok, huse⟩ := HD.out d (List.mem_of_getElem? hd)
      by_cases ht : d.ty = 59
      · have hok2 : w.cell? ⟨d.b, 3, none⟩ = some d.v ∧ Reads w 1 d.v d.n d.xs ∧ ∀ u ∈ d.xs, u.oneCell' = true := by
          rcases hok with h | h | h
          · omega
          · exact ⟨h.2.1, h.2.2.1, fun u hu => by obtain ⟨L, hL, _⟩ := h.2.2.2; rw [hL] at hu; exact ptrCells_one L u hu⟩
          · omega
        obtain ⟨hdv, hdr, hd1⟩ := hok2
        rw [ht] at hcw
        have hdw : wr.cell? ⟨d.b, 3, none⟩ = some d.v := by rw [hbel.cell (World.block_lt_of_cell? w _ hdv)]; exact hdv
        have hsw : Reads wr 1 d.v d.n d.xs := hdr.kept (frOfBelow hbel) (fun k hk => by have := huse k (.inr hk); omega)
        have hnum := numOf_take_le 59 D (k + 1)
        have e1 : numOf 59 (D.take (k + 1)) = numOf 59 (D.take k) + d.n := by rw [take_succ_snoc hd, numOf_append, numOf_one_eq 59 d ht]
        have e2 : cellsOf 59 (D.take (k + 1)) = cellsOf 59 (D.take k) ++ d.xs := by rw [take_succ_snoc hd, cellsOf_append, cellsOf_one_eq 59 d ht]
        have hN := HN.out
        have hb1 : (numOf 59 (D.take k) + d.n) * 8 ≤ 140737488355328 := by omega
        have hb2 : numOf 59 (D.take k) + d.n ≤ maxLen := by unfold maxLen; omega
        have hbs : w.heap.size ≤ wr.heap.size := hbel.size
        have E1 := hide e1
        have E2 := hide e2
        have hta := run_assert_yes 59 _ Try.underlying59
        clear hc hcell hok hdv e1 e2 hnum hN hd ht
        go_wp2_with (at_builtin; refine wpList_append_reads _ rfl (.tmp 23) (.tmp 27) rfl w.heap.size elem29 rfl hown rfl hsw hd1 hb1 hb2 hbs ?_)
        intro v' w1 hown' hfr hlie
        have hbel' : Below w.heap.size w w1 := hbel.trans (hfr.below hbs (fun k hk he => by have := (ownsBlk hown he).1; omega))
        rw [← E1.out, ← E2.out] at hown'
        clear hown hfr hlie hb1 hb2 hsw hdr hd1 hcw hdw huse hbel
        go_wp2
        go_roundw
        case rel => exact ⟨k + 1, by omega, by go_num, hown', hbel'⟩
        case measure => simp [intOf]; omega
      · have e1 : numOf 59 (D.take (k + 1)) = numOf 59 (D.take k) := by rw [take_succ_snoc hd, numOf_append, numOf_one_ne 59 d ht, Nat.add_zero]
        have e2 : cellsOf 59 (D.take (k + 1)) = cellsOf 59 (D.take k) := by rw [take_succ_snoc hd, cellsOf_append, cellsOf_one_ne 59 d ht, List.append_nil]
        have hown' := hown
        rw [← e1, ← e2] at hown'
        have hta := run_assert_no 59 _ d.ty Try.underlying59 (zero_of info59) ht
        clear hc hcell hok e1 e2 hd hown
        go_wp2
        go_roundw
        case rel => exact ⟨k + 1, by omega, by go_num, hown', hbel⟩
        case measure => simp [intOf]; omega
    · have hkn : D.take k = D := by rw [List.take_of_length_le]; have := HL.out; omega
      rw [hkn] at hown
      clear hkn
      go_wp2
      go_ret
      exact ⟨_, rfl, hown, hbel⟩

/-- the first info declaration's block; nil where there is none -/
def infoOf : List DV → Value
  | [] => .pointer none
  | d :: D => if d.ty = 52 then d.v else infoOf D

theorem infoOf_drop {D : List DV} {k : Nat} {d : DV} (h : D[k]? = some d) : infoOf (D.drop k) = if d.ty = 52 then d.v else infoOf (D.drop (k + 1)) := by
  have hk := (List.getElem?_eq_some_iff.1 h).1
  have e : D[k] = d := by have := List.getElem?_eq_getElem hk; rw [h] at this; simpa using this.symm
  rw [List.drop_eq_getElem_cons hk, e]
  rfl

def InfoSays (w : World) (D : List DV) (en : Ending) (w' : World) : Prop := en = .returned (infoOf D) ∧ w' = w
theorem infoSays {w : World} {D : List DV} {p : Value} (h : infoOf D = p) : InfoSays w D (.returned p) w := ⟨by rw [h], rfl⟩

set_option maxRecDepth 100000 in
set_option maxHeartbeats 1000000 in
theorem info_any {w : World} {B fb : Nat} {D : List DV} (h : FileAt w B fb D) :
    Calls Try.prog 21 #[.pointer (some ⟨fb, 0, none⟩)] w (InfoSays w D) := by
  obtain ⟨dv, hf, hR, hfb, hdv, hD, hl, _, _⟩ := h
  obtain ⟨da, dc, rfl, _, hda⟩ := hR.form
  have HD : Hid (∀ d ∈ D, DOk w d ∧ ∀ k, d.uses k → k < B) := hD
  have HDA := hide hda
  clear hR hD hda hdv
  obtain ⟨n, hn⟩ : ∃ n, n = D.length := ⟨_, rfl⟩
  rw [← hn] at hl hf HDA
  have HL : Hid (n = D.length) := hn
  clear hn
  go_enter Try.func21, Try.ntmps21
  go_wp2
  go_loop [4, 5, 6, 12] (fun _ _ _ i => ∃ k : Nat, k ≤ n ∧ i = .int .i64 k ∧ Hid (infoOf D = infoOf (D.drop k))) (fun _ _ _ i => n - (intOf i).toNat)
  case atStart => exact ⟨0, Nat.zero_le _, rfl, rfl⟩
  case round =>
    obtain ⟨k, hk, rfl, hI⟩ := hrel
    by_cases hlt : k < n
    · obtain ⟨b, o, rfl, hc⟩ := unhide HDA (by omega)
      obtain ⟨d, hd⟩ : ∃ d, D[k]? = some d := ⟨D[k]'(by rw [← HL.out]; exact hlt), by simp⟩
      have hcw : w.cell? ⟨b, o + k, none⟩ = some (.iface d.ty (.pointer (some ⟨d.b, 0, none⟩))) := hc k d.val (by simp [hd])
      obtain ⟨hok, huse⟩ := HD.out d (List.mem_of_getElem? hd)
      have hstep := infoOf_drop hd
      by_cases ht : d.ty = 52
      · obtain ⟨p, hv, _, _, hp⟩ : ∃ p, d.v = .pointer (some ⟨p, 0, none⟩) ∧ d.xs = ptrCells [p] ∧ d.n = 1 ∧ w.cell? ⟨d.b, 0, none⟩ = some (.pointer (some ⟨p, 0, none⟩)) := by
          rcases hok with h | h | h
          · omega
          · omega
          · exact h.2
        have HF : Hid (infoOf D = .pointer (some ⟨p, 0, none⟩)) := by show _ = _; rw [hI.out, hstep, if_pos ht, hv]
        rw [ht] at hcw
        have hta := run_assert_yes 52 _ Try.underlying52
        clear hc hok hd ht hstep hv
        go_wp2
        go_ret
        exact infoSays HF.out
      · have HI2 : Hid (infoOf D = infoOf (D.drop (k + 1))) := by show _ = _; rw [hI.out, hstep, if_neg ht]
        have hta := run_assert_no 52 _ d.ty Try.underlying52 (zero_of info52) ht
        clear hc hok hd hstep
        go_wp2
        go_round
        case rel => exact ⟨k + 1, by omega, by go_num, HI2⟩
        case measure => simp [intOf]; omega
    · have HF : Hid (infoOf D = .pointer none) := by
        show _ = _
        rw [hI.out, List.drop_eq_nil_of_le (by have := HL.out; omega)]; rfl
      go_wp2
      go_ret
      exact infoSays HF.out
end Go.Proofs.Qxb6613588a
