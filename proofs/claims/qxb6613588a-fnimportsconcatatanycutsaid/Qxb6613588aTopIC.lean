/-
  FnImportsConcatAtAnyCut, walked.
-/
import Derived.Test.Qxb6613588aTops0
import Derived.Test.Qxb6613588aBytes13
import Derived.Deep.RegionWith
import Derived.Deep.Cut
import Derived.Deep.CutRange
namespace Go.Proofs.Qxb6613588a
open Go.RowKit

set_option maxRecDepth 100000 in
set_option maxHeartbeats 4000000 in
theorem importsConcat (s : ByteArray) (sa : Option Addr) (cap : Nat) (S : List Spec) (kk : Int) (w : World) (hS : SpecsIn w sa S) :
    Calls Try.prog 5 #[.string s, .slice sa S.length cap, .int .i64 kk] w (LawSays w) := by
  have HS : Hid (SpecsIn w sa S) := hS
  clear hS
  go_enter Try.func5, Try.ntmps5
  go_wp2_with fail
  refine (bytes13 s sa cap S kk w HS.out).mono ?_
  rintro e w' ⟨⟨r, rfl⟩, rfl⟩
  cases r
  · go_wp2_with fail
    go_ret
    exact ⟨rfl, Below.refl _ _⟩
  go_wp2_with fail
  refine (size_any s sa cap S none 0 [] w' HS.out (fun h => by simp at h) (by simp)).mono ?_
  rintro e w'' ⟨⟨r, rfl, hr⟩, rfl⟩
  by_cases hbig : 1048576 < r
  · go_wp2_with fail
    go_ret
    exact ⟨rfl, Below.refl _ _⟩
  obtain ⟨hb, hsh⟩ := hr (by omega)
  have hl : load S ≤ 131072 := by simp at hb; omega
  have hn : S.length ≤ 131072 := by simp at hb; omega
  clear hb hr hsh
  by_cases hk0 : kk < 0
  · go_wp2_with fail
    go_ret
    exact ⟨rfl, Below.refl _ _⟩
  by_cases hk1 : (S.length : Int) < kk
  · go_wp2_with fail
    go_ret
    exact ⟨rfl, Below.refl _ _⟩
  obtain ⟨k, rfl⟩ := Int.eq_ofNat_of_zero_le (show 0 ≤ kk by omega)
  have hkS : k ≤ S.length := by omega
  obtain ⟨wz, rfl⟩ : ∃ x, x = w'' := ⟨_, rfl⟩
  go_wp2_with fail
  refine (build_any s sa cap S _ HS.out (by omega) (by omega)).mono ?_
  rintro e w1 ⟨fb, dv, vi, vt, vb, D, rfl, hB⟩
  have hS1 := hide (HS.out.kept hB.below)
  have hkD : k ≤ D.length := by rw [hB.len]; exact hkS
  have hcell := hB.file.cell
  have hfb : fb < w1.heap.size := lt_of_block hB.file
  obtain ⟨L1, L2, a1, a2, b1, b2, c1, c2⟩ := cut72 (fun d hd => (hB.each d hd).1) k
  have hRi := ownsReads hB.imps
  rw [c1, c2] at hRi
  obtain ⟨da, dc, rfl, hdc, _⟩ := (ownsReads hB.decls).form
  obtain ⟨ia, ic, rfl, hic, _⟩ := hRi.form
  have hm : cI (S.take k) = L1.length := by rw [← (hB.take k).1, a2]
  have hLl : (L1 ++ L2).length ≤ 131072 := by have h1 := hB.small.1; have h2 := (counts_le S).1; omega
  have hib : ∀ j, (Value.slice ia (L1 ++ L2).length ic).ownBlock = some j → j < w1.heap.size := fun j hj => (ownsBlk hB.imps hj).2.1
  obtain ⟨f1, f2, f3, f4, f5⟩ := cut_files (q := s) hB hl hn hkD
  have hz := hB.below
  have q1 : L1.length ≤ (L1 ++ L2).length := by simp
  have q2 : ((L1.length : Nat) : Int) ≤ (((L1 ++ L2).length : Nat) : Int) := by omega
  have q3 : ((L1.length : Nat) : Int) ≤ ((ic : Nat) : Int) := by omega
  have q4 : ((k : Nat) : Int) ≤ ((dc : Nat) : Int) := by omega
  have q5 : ((k : Nat) : Int) ≤ ((D.length : Nat) : Int) := by omega
  have X := hide (show _ ∧ _ ∧ _ ∧ _ ∧ _ ∧ _ ∧ _ ∧ _ ∧ _ ∧ _ ∧ _ from ⟨f1, f2, f3, f4, f5, a1, a2, b1, b2, c1, c2⟩)
  have Y := hide (show _ ∧ _ ∧ _ ∧ _ from ⟨hRi, hib, hz, hLl⟩)
  have HM := hide hm
  clear hB hRi a1 a2 b1 b2 c1 c2 f1 f2 f3 f4 f5 hib hz hm hLl
  generalize hnl : (L1 ++ L2).length = n at *
  have HNL := hide hnl
  clear hnl
  go_wp2_with fail
  refine (count_before sa cap S k w1 hS1.out hkS (by omega) (by omega)).mono ?_
  rintro e w2 ⟨he, rfl⟩
  rw [HM.out] at he
  subst he
  go_upto_region 11 with fail
  change Code.wp _ _ _ _ (cutW w2 s da D.length dc k)
  obtain ⟨f1, f2, f3, f4, f5, a1, a2, b1, b2, c1, c2⟩ := X.out
  obtain ⟨hRi, hib, hz, hLl⟩ := Y.out
  rw [← HNL.out] at c2 hRi hib hLl
  have hRi4 : Reads (cutW w2 s da D.length dc k) 4 (.slice ia (L1 ++ L2).length ic) (L1 ++ L2).length (impCells (L1 ++ L2)) := hRi.kept (frOfBelow f4) (fun j hj hx => by have := hib j hj; omega)
  have Z := hide (hz.trans (f4.mono hz.size))
  have hzs : wz.heap.size ≤ w2.heap.size + 2 := by have := hz.size; omega
  generalize cutW w2 s da D.length dc k = w4 at *
  have hL1 : L1.length ≤ 1048576 := by rw [List.length_append] at hLl; omega
  have hL2 : L2.length ≤ 1048576 := by rw [List.length_append] at hLl; omega
  have ob1 : ∀ j, (Value.slice ia L1.length ic).ownBlock = some j → j < w2.heap.size + 2 := fun j hj => by have := hib j (by rw [← hj]; cases ia <;> rfl); omega
  have ob2 : ∀ j, (Value.slice (if ic = L1.length then ia else ia.map (·.add (L1.length * 4))) L2.length (ic - L1.length)).ownBlock = some j → j < w2.heap.size + 2 := fun j hj => by have := hib j (by rw [← hj]; exact (ownBlock_drop ..)); omega
  have K1 := hide (fun W hb => imports_list (w := W) f1 c1 c2 hb (by omega))
  have K2 := hide (fun W hb => imports_list (w := W) f2 a1 a2 hb (by omega))
  have K3 := hide (fun W hb => imports_list (w := W) f3 b1 b2 hb (by omega))
  have E1 := hide (fun W x hx hb => eqImports_below (B := w2.heap.size + 2) (w := W) (x := x) hx hRi4 (fun j hj => by have := hib j hj; omega) hb (by omega))
  have E2 := hide (fun W x hx hb => eqImports_below (w := W) (x := x) hx hRi4.takeImps ob1 hb hL1)
  have E3 := hide (fun W x hx hb => eqImports_below (B := w2.heap.size + 2) (w := W) (x := x) hx hRi4.dropImps ob2 hb hL2)
  rw [show (Value.slice (if ic = L1.length then ia else ia.map (fun x => x.add (L1.length * 4))) L2.length (ic - L1.length)) = Value.slice (if ic = L1.length then ia else ia.map (fun x => x.add (L1.length * 4))) (n - L1.length) (ic - L1.length) from by rw [← HNL.out, List.length_append, Nat.add_sub_cancel_left]] at E3
  rw [HNL.out] at E1 K1
  have b0 : Below (w2.heap.size + 2) w4 w4.drew := (Below.refl _ _).drew
  clear X Y f1 f2 f3 f4 f5 a1 a2 b1 b2 c1 c2 hRi hib hz hLl hRi4 ob1 ob2 hL1 hL2 hcell hfb
  generalize (if dc = k then da else da.map (fun x => x.add k)) = su
  by_cases hce : ic = L1.length
  · subst hce
    rw [show n - L1.length = 0 from by omega] at E3
    simp only [if_true, Nat.sub_self] at E3
    go_region_with (first
      | (go_at_call_of 18 (some (Addr.mk fb 0 none)); refine (unhide K1 _ b0).mono ?_; rintro e W1 ⟨v1, rfl, r1, s1, _⟩; clear b0)
      | (go_at_call_of 17 (Value.slice ia n L1.length); refine (unhide E1 _ _ r1 s1).mono ?_; rintro e W2 ⟨rfl, s2⟩; clear r1 s1)
      | (go_at_call_of 18 (some (Addr.mk w2.heap.size 0 none)); refine (unhide K2 _ s2).mono ?_; rintro e W3 ⟨v3, rfl, r3, s3, _⟩; clear s2)
      | (go_at_call_of 17 (Value.slice ia L1.length L1.length); refine (unhide E2 _ _ r3 s3).mono ?_; rintro e W4 ⟨rfl, s4⟩; clear r3 s3)
      | (go_at_call 18; refine (unhide K3 _ s4).mono ?_; rintro e W5 ⟨v5, rfl, r5, s5, _⟩; clear s4)
      | (go_at_call 17; refine (unhide E3 _ _ r5 s5).mono ?_; rintro e W6 ⟨rfl, s6⟩; clear r5 s5))
    go_wp2_with fail
    go_ret
    exact ⟨rfl, Z.out.trans (s6.mono hzs)⟩
  · rw [if_neg hce] at E3
    go_region_with (first
      | (go_at_call_of 18 (some (Addr.mk fb 0 none)); refine (unhide K1 _ b0).mono ?_; rintro e W1 ⟨v1, rfl, r1, s1, _⟩; clear b0)
      | (go_at_call_of 17 (Value.slice ia n ic); refine (unhide E1 _ _ r1 s1).mono ?_; rintro e W2 ⟨rfl, s2⟩; clear r1 s1)
      | (go_at_call_of 18 (some (Addr.mk w2.heap.size 0 none)); refine (unhide K2 _ s2).mono ?_; rintro e W3 ⟨v3, rfl, r3, s3, _⟩; clear s2)
      | (go_at_call_of 17 (Value.slice ia L1.length ic); refine (unhide E2 _ _ r3 s3).mono ?_; rintro e W4 ⟨rfl, s4⟩; clear r3 s3)
      | (go_at_call 18; refine (unhide K3 _ s4).mono ?_; rintro e W5 ⟨v5, rfl, r5, s5, _⟩; clear s4)
      | (go_at_call 17; refine (unhide E3 _ _ r5 s5).mono ?_; rintro e W6 ⟨rfl, s6⟩; clear r5 s5))
    go_wp2_with fail
    go_ret
    exact ⟨rfl, Z.out.trans (s6.mono hzs)⟩
end Go.Proofs.Qxb6613588a
