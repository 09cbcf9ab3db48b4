/-
  zzBuild, walked.
-/
import Derived.Test.Qxb6613588aBuild1
import Derived.Deep.RegionHeld3
import Derived.Deep.RegionLaw
namespace Go.Proofs.Qxb6613588a
open Go.RowKit

def BuildSays (s : ByteArray) (S : List Spec) (w : World) (e : Ending) (w' : World) : Prop :=
  ∃ fb dv vi vt vb D, e = .returned (.tuple #[.pointer (some ⟨fb, 0, none⟩), vi, vt, vb]) ∧ Built w w' s fb dv vi vt vb S D

theorem built_start (w : World) (s : ByteArray) : Built w (w.alloc (.cells #[.string s, .slice none 0 0, .slice none 0 0] 38)) s w.heap.size (.slice none 0 0) (.slice none 0 0) (.slice none 0 0) (.slice none 0 0) [] [] :=
  ⟨(Below.refl _ _).alloc (Nat.le_refl _) _, Nat.le_refl _, heap_alloc_new w _, World.ownsRow_nil _ _ _ _, World.ownsRow_nil _ _ _ _, World.ownsRow_nil _ _ _ _, World.ownsRow_nil _ _ _ _, fun d hd => by simp at hd, rfl, fun i s d h => by simp at h⟩

/-- the import's own block, behind the append onto the group's own slice -/
theorem Inner.imp {N : Nat} {W w : World} {db de e size : Nat} {p : ByteArray} {line : Int} {x v0 v : Value} {n0 : Nat} {xs0 : List Value} {j : Nat} {ys : List Value} (h : Inner N W w db de e size p line x v0 v n0 xs0 j ys)
    {Wb w1 : World} {m : Imp} {e' : TypeId} {fr : Nat × Nat} (hb : Wb.heap[w.heap.size]? = some (.cells #[.string m.path, .string m.file, .int .i64 m.line, .int .i64 m.col] e' fr)) (F2 : Fr Wb w1 (fun k => x.ownBlock = some k)) :
    w1.cell? ⟨w.heap.size, 0, none⟩ = some (.string m.path) ∧ w1.cell? ⟨w.heap.size, 1, none⟩ = some (.string m.file) ∧ w1.cell? ⟨w.heap.size, 2, none⟩ = some (.int .i64 m.line) ∧ w1.cell? ⟨w.heap.size, 3, none⟩ = some (.int .i64 m.col) := by
  have h1 := F2.heapAt hb (fun hx => by have := (ownsBlk h.own hx).2.1; omega)
  exact ⟨by rw [cell_of_row w1 _ 0 _ _ _ h1]; rfl, by rw [cell_of_row w1 _ 1 _ _ _ h1]; rfl, by rw [cell_of_row w1 _ 2 _ _ _ h1]; rfl, by rw [cell_of_row w1 _ 3 _ _ _ h1]; rfl⟩

theorem bounds48 {a b c : Nat} (h : a + c ≤ 1048576) (hb : b < c) : (b + 1) * 48 ≤ 140737488355328 ∧ b + 1 ≤ maxLen ∧ (a + b + 1) * 48 ≤ 140737488355328 ∧ a + b + 1 ≤ maxLen := by
  unfold maxLen; omega
theorem heap_at (w : World) (o : Obj) {k : Nat} (h : k = w.heap.size) : (w.alloc o).heap[k]? = some o := by subst h; exact heap_alloc_new w o
theorem reads_ptr {w : World} {b m : Nat} {e : TypeId} {fr : Nat × Nat} (h : w.heap[b]? = some (.cells #[.pointer (some ⟨m, 0, none⟩)] e fr)) : Reads w 1 (.slice (some ⟨b, 0, none⟩) 1 1) 1 (ptrCells [m]) := reads_block h 1 (by decide)
theorem reads_imp {w : World} {b : Nat} {m : Imp} {e : TypeId} {fr : Nat × Nat} (h : w.heap[b]? = some (.cells #[.string m.path, .string m.file, .int .i64 m.line, .int .i64 m.col] e fr)) : Reads w 4 (.slice (some ⟨b, 0, none⟩) 1 1) 1 (impCells [m]) := reads_block h 1 (by decide)

/-- the slice of blocks, behind ZZaddInfoDecl -/
theorem Built.blocks_at {w0 w : World} {p : ByteArray} {fb : Nat} {dv vi vt vb : Value} {S : List Spec} {D : List DV} (h : Built w0 w p fb dv vi vt vb S D) {W3 w4 : World} (F3 : New w W3) (F4 : Fr W3 w4 (fun k => k = fb ∨ dv.ownBlock = some k)) : w4.ownsRow w0.heap.size 46 1 vb (numOf 52 D) (cellsOf 52 D) := by
  obtain ⟨⟨a1, a2, a3, a4⟩, b1, b2, b3, b4⟩ := h.apart
  exact ownsKept (F3.own h.blocks) F4 (fun k hk hx => by rcases hx with rfl | hx; exact a4 hk; exact (b4 k hk).1 hx)

theorem Built.small {w0 w : World} {p : ByteArray} {fb : Nat} {dv vi vt vb : Value} {S : List Spec} {D : List DV} (h : Built w0 w p fb dv vi vt vb S D) : numOf 72 D = cI S ∧ numOf 59 D = cT S ∧ numOf 52 D = cB S := by
  have key : ∀ (S : List Spec) (D : List DV), D.length = S.length → (∀ (i : Nat) (s : Spec) (d : DV), S[i]? = some s → D[i]? = some d → Fits s d) → numOf 72 D = cI S ∧ numOf 59 D = cT S ∧ numOf 52 D = cB S := by
    intro S
    induction S with
    | nil => intro D hl _; obtain rfl : D = [] := List.eq_nil_of_length_eq_zero (by simpa using hl); exact ⟨rfl, rfl, rfl⟩
    | cons s S ih =>
      intro D hl hf
      cases D with
      | nil => simp at hl
      | cons d D =>
        obtain ⟨h1, h2, h3⟩ := ih D (by simpa using hl) (fun i t e ht he => hf (i + 1) t e (by simpa using ht) (by simpa using he))
        have f := hf 0 s d rfl rfl
        have e1 : numOf 72 (d :: D) = numOf 72 [d] + numOf 72 D := numOf_append 72 [d] D
        have e2 : numOf 59 (d :: D) = numOf 59 [d] + numOf 59 D := numOf_append 59 [d] D
        have e3 : numOf 52 (d :: D) = numOf 52 [d] + numOf 52 D := numOf_append 52 [d] D
        have g1 : cI (s :: S) = s.nI + cI S := by simp [cI]
        have g2 : cT (s :: S) = s.nT + cT S := by simp [cT]
        have g3 : cB (s :: S) = s.nB + cB S := by simp [cB]
        rw [e1, e2, e3, g1, g2, g3, h1, h2, h3]
        rcases f with ⟨k1, ht, hn⟩ | ⟨k1, k2, ht, hn⟩ | ⟨k1, k2, ht, hn, _⟩
        · rw [numOf_one_ne 72 d (by omega), numOf_one_ne 59 d (by omega), numOf_one_eq 52 d ht, hn]
          simp [Spec.nI, Spec.nT, Spec.nB, k1]
        · rw [numOf_one_ne 72 d (by omega), numOf_one_ne 52 d (by omega), numOf_one_eq 59 d ht, hn]
          simp [Spec.nI, Spec.nT, Spec.nB, k2]
        · rw [numOf_one_ne 59 d (by omega), numOf_one_ne 52 d (by omega), numOf_one_eq 72 d ht, hn]
          simp [Spec.nI, Spec.nT, Spec.nB, k1, k2]
  exact key S D h.len h.fits

set_option maxRecDepth 100000 in
set_option maxHeartbeats 4000000 in
theorem build_any (s : ByteArray) (sa : Option Addr) (cap : Nat) (S : List Spec) (w : World) (hS : SpecsIn w sa S) (hl : load S ≤ 1048576) (hn : S.length ≤ 1048576) :
    Calls Try.prog 15 #[.string s, .slice sa S.length cap] w (BuildSays s S w) := by
  have HS : Hid (SpecsIn w sa S) := hS
  have HLoad := hide hl
  clear hS hl
  obtain ⟨n, hn'⟩ : ∃ n, n = S.length := ⟨_, rfl⟩
  rw [← hn'] at hn ⊢
  have HN : Hid (n = S.length) := hn'
  clear hn'
  go_enter Try.func15, Try.ntmps15
  go_wp2
  go_loopw [9, 10, 11, 12, 13, 14, 15, 16, 17, 18, 19, 20] (fun vi vt vb i _ _ _ _ _ _ _ _ wr => ∃ (k : Nat) (dv : Value) (D : List DV), k ≤ n ∧ i = .int .i64 k ∧ Built w wr s w.heap.size dv vi vt vb (S.take k) D) (fun _ _ _ i _ _ _ _ _ _ _ _ _ => n - (intOf i).toNat)
  case atStart => exact ⟨0, _, [], Nat.zero_le _, rfl, built_start w s⟩
  case round =>
    obtain ⟨k, dv, D, hk, rfl, HBlt⟩ := hrel
    obtain ⟨vi, rfl⟩ : ∃ x, x = u9 := ⟨_, rfl⟩
    obtain ⟨vt, rfl⟩ : ∃ x, x = u10 := ⟨_, rfl⟩
    obtain ⟨vb, rfl⟩ : ∃ x, x = u11 := ⟨_, rfl⟩
    by_cases hlt : k < n
    · obtain ⟨b, o, d, rfl, hd, ⟨hI, hT, hIl, hTl, _, _⟩, hc0, hc1, hc2⟩ := HS.out.at (i := k) (by rw [← HN.out]; exact hlt)
      unfold maxLen at hIl hTl
      have HI : Hid (ImpsIn w d.ia d.imps) := hI
      have HT : Hid (NamesIn w d.ta d.names) := hT
      have HD := hide hd
      clear hI hT hd
      have c0 : wr.cell? ⟨b, o + k * 3, none⟩ = some (.int .i64 d.kind) := (HBlt.below.cell (World.block_lt_of_cell? w _ hc0)).trans hc0
      have c1 : wr.cell? ⟨b, o + k * 3 + 1, none⟩ = some (.slice d.ia d.imps.length d.ic) := (HBlt.below.cell (World.block_lt_of_cell? w _ hc1)).trans hc1
      have c2 : wr.cell? ⟨b, o + k * 3 + 2, none⟩ = some (.slice d.ta d.names.length d.tc) := (HBlt.below.cell (World.block_lt_of_cell? w _ hc2)).trans hc2
      clear hc0 hc1 hc2
      have hDl : D.length ≤ k := by rw [HBlt.len]; exact List.length_take_le _ _
      have hsm := HBlt.small
      have hcl := counts_le (S.take k)
      have hcl2 := load_take_le S k
      have hcl3 := HLoad.out
      have hcl4 : (S.take k).length ≤ k := List.length_take_le _ _
      have htk := take_succ_snoc HD.out
      have hbs := HBlt.below.size
      by_cases h1 : d.kind = 1
      · have hb1 : (d.kind == 1) = true := by simp [h1]
        have hnb : numOf 52 D + 1 ≤ 1048577 := by omega
        have H1 := hide h1
        have HTK := hide htk
        clear h1 hsm hcl hcl2 hcl3 htk hcl4
        go_wp2_with fail
        refine (addInfo_any w.heap.size w.heap.size _ s dv D.length (D.map DV.val) _ ?f1 ?f2 ?f3 ?f4).mono ?f5
        case f1 => exact ((((New.refl wr).alloc _).alloc _).alloc _).heapAt HBlt.file
        case f2 => exact ((((New.refl wr).alloc _).alloc _).alloc _).own HBlt.decls
        case f3 => omega
        case f4 => simp; omega
        rintro e w4 ⟨rfl, dv', hf4, ho4, F4, L4⟩
        have vb4 := HBlt.blocks_at ((((New.refl wr).alloc _).alloc _).alloc _) F4
        have b4 : (numOf 52 D + 1) * 8 ≤ 140737488355328 := by omega
        have b5 : numOf 52 D + 1 ≤ maxLen := by unfold maxLen; omega
        have b6 : w.heap.size ≤ w4.heap.size := by have := F4.size; simp at this; omega
        have HF4 := hide hf4
        have HO4 := hide ho4
        have HFr := hide F4
        have HL4 := hide L4
        clear hf4 ho4 F4 L4
        go_wp2_with (at_builtin; refine wpList_append_reads _ rfl (.tmp 48) (.tmp 50) rfl w.heap.size elem30 rfl (vb4.alloc _) rfl (reads_ptr (heap_alloc_new w4 _)) (ptrCells_one _) b4 b5 (by simp; omega) ?_)
        intro vb' w6 ho6 F6 L6
        have R := hide (info_done HBlt H1.out ((((New.refl wr).alloc _).alloc _).alloc _) (by omega) (heap_at _ _ (by simp)) HF4.out HO4.out HFr.out HL4.out ho6 F6 (by simpa using L6))
        rw [← HTK.out] at R
        clear ho6 F6 L6 vb4 HF4 HO4 HFr HL4 c0 c1 c2 HBlt
        go_wp2_with fail
        go_roundw
        case rel => exact ⟨k + 1, dv', _, by omega, by go_num, R.out⟩
        case measure => simp [intOf]; omega
      · by_cases h2 : d.kind = 2
        · have hb1 : (d.kind == 1) = false := by simp [h1]
          have hb2 : (d.kind == 2) = true := by simp [h2]
          have hN := hide (cT_take_succ S k d HD.out)
          have hN2 := hide (counts_le (S.take (k + 1)))
          have hN3 := hide (load_take_le S (k + 1))
          have hnT : numOf 59 D + d.names.length ≤ 1048576 := by
            have q1 := hN.out; have q2 := hN2.out; have q3 := hN3.out
            have q4 : d.nT = d.names.length := by simp [Spec.nT, h2]
            omega
          have H1 := hide h1
          have H2 := hide h2
          have HTK := hide htk
          clear h1 h2 hsm hcl hcl2 hcl3 htk hcl4 hN hN2 hN3
          obtain ⟨wo, rfl⟩ : ∃ x, x = wr := ⟨_, rfl⟩
          go_wp2_with fail
          go_loopw [10, 16, 17] (fun v i _ wi => ∃ (x : Value) (L : List Nat), L.length ≤ d.names.length ∧ i = .int .i64 L.length ∧ Inner w.heap.size (groupW wo 61 s ((k : Int) + 1) d) wi (wo.heap.size + 1) 61 62 1 s ((k : Int) + 1) x vt v (numOf 59 D) (cellsOf 59 D) L.length (ptrCells L)) (fun _ i _ _ => d.names.length - (intOf i).toNat)
          case atStart => exact ⟨_, [], Nat.zero_le _, rfl, Inner.start (groupW_grp wo 61 s _ d) ((groupW_new wo 61 s _ d).own HBlt.types)⟩
          case round =>
            obtain ⟨x, L, hj, rfl, hi⟩ := hrel
            obtain ⟨v, rfl⟩ : ∃ x, x = u10 := ⟨_, rfl⟩
            obtain ⟨wi, rfl⟩ : ∃ x, x = wr := ⟨_, rfl⟩
            have hsp := (hi.spec rfl (fun k hk => (ownsBlk HBlt.types hk).2.1)).2
            have hwi : wo.heap.size + 2 ≤ wi.heap.size := by have := hi.fr.size; rw [groupW_size] at this; exact this
            have hwi2 : wo.heap.size + 1 < wi.heap.size := by omega
            by_cases hjl : L.length < d.names.length
            · obtain ⟨b2, o2, nm, hta, _, hm0⟩ := HT.out.at hjl
              have hbel := hi.belowN HBlt.below (groupW_new wo 61 s _ d) (by omega) (fun k hk => (ownsBlk HBlt.types hk).1)
              have hm : wi.cell? ⟨b2, o2 + L.length, none⟩ = some (.string nm) := (hbel.cell (World.block_lt_of_cell? w _ hm0)).trans hm0
              rw [hta] at hsp
              have hx3 := hi.blk.cell
              have q1 : (L.length + 1) * 8 ≤ 140737488355328 := by omega
              have q2 : L.length + 1 ≤ maxLen := by unfold maxLen; omega
              have q3 : (numOf 59 D + L.length + 1) * 8 ≤ 140737488355328 := by omega
              have q4 : numOf 59 D + L.length + 1 ≤ maxLen := by unfold maxLen; omega
              have HI2 := hide hi
              clear hbel hm0 hta c0 c1 c2 hi
              go_wp2_with (at_builtin; refine wpList_append_reads _ rfl (.tmp 79) (.tmp 81) rfl (groupW wo 61 s ((k : Int) + 1) d).heap.size elem29 rfl ((((New.refl wi).alloc _).alloc _).own HI2.out.own) rfl (reads_ptr (heap_at _ _ (by simp))) (ptrCells_one _) q1 q2 (by rw [groupW_size]; simp; omega) ?_)
              intro x' w1 o1 F2 l1
              obtain ⟨xa, xc, rfl, _, _⟩ := (ownsReads o1).form
              have g1 := HI2.out.mid (((New.refl wi).alloc _).alloc _) F2
              have hgc := g1.cell
              have hgf := g1.free
              have hw1 : wi.heap.size + 2 ≤ w1.heap.size := by have := F2.size; simp at this; omega
              have HO1 := hide o1
              have HF2 := hide F2
              have Hl1 := hide l1
              clear o1 F2 l1 g1 hm hsp hx3
              go_wp2_with (at_builtin; refine wpList_append_reads _ rfl (.tmp 85) (.tmp 87) rfl w.heap.size elem29 rfl (HI2.out.mid2 (by decide) (((New.refl wi).alloc _).alloc _) HF2.out ((New.refl _).alloc _)) rfl (reads_ptr (heap_at _ _ (by simp [World.setCell]))) (ptrCells_one _) q3 q4 (by simp [World.setCell]; omega) ?_)
              intro v' w3 o3 F4 l3
              have R := hide (HI2.out.step (by decide) (((New.refl wi).alloc _).alloc _) HO1.out HF2.out (by simpa using Hl1.out) ((New.refl _).alloc _) (by rw [List.append_assoc]; exact o3) F4 (by simpa [World.setCell] using l3))
              clear HO1 HF2 Hl1 o3 F4 l3 HI2 hgc hgf
              rw [← ptrCells_append, show L.length + 1 = (L ++ [wi.heap.size]).length from by simp] at R
              go_wp2_with fail
              go_roundw
              case rel => exact ⟨_, L ++ [wi.heap.size], by simp; omega, by simp, R.out⟩
              case measure => simp [intOf]; omega
            · have fo := Inner.file HBlt (groupW_new wo 61 s _ d) hi (by omega) (.inl rfl)
              have hLn : Hid (L.length = d.names.length) := by show _ = _; omega
              have HI2 := hide hi
              clear hi c0 c1 c2
              go_wp2_with fail
              refine (addType_any w.heap.size w.heap.size _ s dv D.length (D.map DV.val) _ fo.1 fo.2 (by omega) (by omega)).mono ?_
              rintro e w4 ⟨rfl, dv', hf4, ho4, F4, L4⟩
              have R := hide (types_done HBlt H1.out H2.out (groupW_new wo 61 s _ d) (by omega) HI2.out hLn.out hf4 ho4 F4 L4)
              rw [← HTK.out] at R
              clear hf4 ho4 F4 L4 fo HI2 HBlt
              go_wp2_with fail
              go_roundw
              case rel => exact ⟨k + 1, dv', _, by omega, by go_num, R.out⟩
              case measure => simp [intOf]; omega
        · have hb1 : (d.kind == 1) = false := by simp [h1]
          have hb2 : (d.kind == 2) = false := by simp [h2]
          have hN := hide (cI_take_succ S k d HD.out)
          have hN2 := hide (counts_le (S.take (k + 1)))
          have hN3 := hide (load_take_le S (k + 1))
          have hnI : numOf 72 D + d.imps.length ≤ 1048576 := by
            have q1 := hN.out; have q2 := hN2.out; have q3 := hN3.out
            have q4 : d.nI = d.imps.length := by simp [Spec.nI, h1, h2]
            omega
          have H1 := hide h1
          have H2 := hide h2
          have HTK := hide htk
          clear h1 h2 hsm hcl hcl2 hcl3 htk hcl4 hN hN2 hN3
          obtain ⟨wo, rfl⟩ : ∃ x, x = wr := ⟨_, rfl⟩
          go_wp2_with fail
          go_loopw [9, 19, 20] (fun v i _ wi => ∃ (x : Value) (L : List Imp), L.length ≤ d.imps.length ∧ i = .int .i64 L.length ∧ Hid (L = d.imps.take L.length) ∧ Inner w.heap.size (groupW wo 74 s ((k : Int) + 1) d) wi (wo.heap.size + 1) 74 45 4 s ((k : Int) + 1) x vi v (numOf 72 D) (cellsOf 72 D) L.length (impCells L)) (fun _ i _ _ => d.imps.length - (intOf i).toNat)
          case atStart => exact ⟨_, [], Nat.zero_le _, rfl, rfl, Inner.start (groupW_grp wo 74 s _ d) ((groupW_new wo 74 s _ d).own HBlt.imps)⟩
          case round =>
            obtain ⟨x, L, hj, rfl, hLt, hi⟩ := hrel
            obtain ⟨v, rfl⟩ : ∃ x, x = u9 := ⟨_, rfl⟩
            obtain ⟨wi, rfl⟩ : ∃ x, x = wr := ⟨_, rfl⟩
            have hsp := (hi.spec rfl (fun k hk => (ownsBlk HBlt.imps hk).2.1)).1
            have hwi : wo.heap.size + 2 ≤ wi.heap.size := by have := hi.fr.size; rw [groupW_size] at this; exact this
            have hwi2 : wo.heap.size + 1 < wi.heap.size := by omega
            have hwi3 : wo.heap.size < wi.heap.size := by omega
            by_cases hjl : L.length < d.imps.length
            · obtain ⟨b2, o2, im, hta, him, hm0, hm1, hm2, hm3⟩ := HI.out.at hjl
              have HIM := hide him
              have hbel := hi.belowN HBlt.below (groupW_new wo 74 s _ d) (by omega) (fun k hk => (ownsBlk HBlt.imps hk).1)
              have hp0 : wi.cell? ⟨b2, o2 + L.length * 4, none⟩ = some (.string im.path) := (hbel.cell (World.block_lt_of_cell? w _ hm0)).trans hm0
              have hp1 : wi.cell? ⟨b2, o2 + L.length * 4 + 1, none⟩ = some (.string im.file) := (hbel.cell (World.block_lt_of_cell? w _ hm1)).trans hm1
              have hp2 : wi.cell? ⟨b2, o2 + L.length * 4 + 2, none⟩ = some (.int .i64 im.line) := (hbel.cell (World.block_lt_of_cell? w _ hm2)).trans hm2
              have hp3 : wi.cell? ⟨b2, o2 + L.length * 4 + 3, none⟩ = some (.int .i64 im.col) := (hbel.cell (World.block_lt_of_cell? w _ hm3)).trans hm3
              rw [hta] at hsp
              have hx3 := hi.blk.cell
              obtain ⟨q1, q2, q3, q4⟩ := bounds48 hnI hjl
              have HI2 := hide hi
              have hjz : ((L.length : Nat) : Int) < ((d.imps.length : Nat) : Int) := by omega
              have n1 := World.new_ne wi _ hsp
              have n2 := World.new_ne wi _ hp0
              have n3 : wi.heap.size ≠ wo.heap.size + 1 := by omega
              have n4 : wo.heap.size + 1 ≠ wi.heap.size := by omega
              clear hbel hm0 hm1 hm2 hm3 hta c0 c1 c2 hi him
              go_wp2_with fail
              go_region_held3 (fun w' => w'.cell? ⟨wo.heap.size, 1, none⟩ = some (.slice (some ⟨b2, o2, none⟩) d.imps.length d.ic) ∧ w'.cell? ⟨b2, o2 + L.length * 4, none⟩ = some (.string im.path) ∧ w'.cell? ⟨b2, o2 + L.length * 4 + 1, none⟩ = some (.string im.file) ∧ w'.cell? ⟨b2, o2 + L.length * 4 + 2, none⟩ = some (.int .i64 im.line) ∧ w'.cell? ⟨b2, o2 + L.length * 4 + 3, none⟩ = some (.int .i64 im.col)) (go_keep) (fail)
              go_wp2_with fail
              go_region_law (refine step_append_reads _ rfl (.tmp 135) (.tmp 137) rfl (groupW wo 74 s ((k : Int) + 1) d).heap.size elem28 (by simp [Act.eval]) (New.own (by repeat (first | exact New.refl _ | apply New.drew | apply New.alloc)) HI2.out.own) (by simp [Act.eval]) (reads_imp (b := wi.heap.size + 1) (m := im) (heap_at _ _ (by simp))) (impCells_one _) q1 q2 (by rw [groupW_size]; simp; omega) ?_; intro x' w1 o1 F2 l1; obtain ⟨xa, xc, rfl, _, _⟩ := (ownsReads o1).form; have g1 := HI2.out.mid (by repeat (first | exact New.refl _ | apply New.drew | apply New.alloc)) F2; have hgc := g1.cell; have hgf := g1.free; obtain ⟨i0, i1, i2, i3⟩ := HI2.out.imp (m := im) (by show (World.alloc (World.alloc wi _) _).heap[_]? = _; rw [Below.heap_alloc _ _ _ (by simp)]; exact heap_alloc_new wi _) F2; have hw1 : wi.heap.size + 2 ≤ w1.heap.size := (by simpa using F2.size); have HO1 := hide o1; have HF2 := hide F2; have Hl1 := hide l1; clear o1 F2 l1 g1)
              all_goals go_wp2_with (at_builtin; refine wpList_append_reads _ rfl (.tmp 141) (.tmp 143) rfl w.heap.size elem28 rfl (HI2.out.mid2 (by decide) (by repeat (first | exact New.refl _ | apply New.drew | apply New.alloc)) HF2.out (by repeat (first | exact New.refl _ | apply New.drew | apply New.alloc))) rfl (reads_imp (b := w1.heap.size) (m := im) (heap_at _ _ (by simp [World.setCell]))) (impCells_one _) q3 q4 (by simp [World.setCell]; omega) ?_)
              all_goals
                intro v' w3 o3 F4 l3
                have R := hide (HI2.out.step (by decide) (by repeat (first | exact New.refl _ | apply New.drew | apply New.alloc)) HO1.out HF2.out (by simpa using Hl1.out) ((New.refl _).alloc _) (by rw [List.append_assoc]; exact o3) F4 (by simpa [World.setCell] using l3))
                rw [← impCells_append, show L.length + 1 = (L ++ [im]).length from by simp] at R
                have hLt2 : Hid (L ++ [im] = d.imps.take (L ++ [im]).length) := by
                  show _ = _
                  have e := hLt.out
                  rw [show (L ++ [im]).length = L.length + 1 from by simp, take_succ_snoc HIM.out, ← e]
                clear HO1 HF2 Hl1 o3 F4 l3 HI2 hgc hgf i0 i1 i2 i3
                go_wp2_with fail
                go_roundw
                case rel => exact ⟨_, L ++ [im], by simp; omega, by simp, hLt2, R.out⟩
                case measure => simp [intOf]; omega
            · have fo := Inner.file HBlt (groupW_new wo 74 s _ d) hi (by omega) (.inr rfl)
              have hLn : Hid (L = d.imps) := by
                show _ = _
                have e := hLt.out
                rw [List.take_of_length_le (by omega)] at e
                exact e
              have HI2 := hide hi
              clear hi c0 c1 c2
              go_wp2_with fail
              refine (addImport_any w.heap.size w.heap.size _ s dv D.length (D.map DV.val) _ fo.1 fo.2 (by omega) (by omega)).mono ?_
              rintro e w4 ⟨rfl, dv', hf4, ho4, F4, L4⟩
              have R := hide (imports_done HBlt H1.out H2.out (groupW_new wo 74 s _ d) (by omega) HI2.out hLn.out hf4 ho4 F4 L4)
              rw [← HTK.out] at R
              clear hf4 ho4 F4 L4 fo HI2 HBlt
              go_wp2_with fail
              go_roundw
              case rel => exact ⟨k + 1, dv', _, by omega, by go_num, R.out⟩
              case measure => simp [intOf]; omega
    · have hkn : k = S.length := by rw [← HN.out]; omega
      rw [hkn, List.take_length] at HBlt
      clear hkn
      have HB := hide HBlt
      clear HBlt
      go_wp2_with fail
      exact bodyPost_ret (by simp [results, Try.results15, go_sem]) rfl ⟨_, dv, _, _, _, D, rfl, HB.out⟩
end Go.Proofs.Qxb6613588a
