/-
  MEMORY THAT THE CALLS MAKE: which blocks a step may turn ('Fr'), what a slice reads as ('Reads'), and append in one law for both arms and every source. No walk here.
-/
import Derived.Test.Qxb6613588aMem
import Derived.Deep.AppendLies
namespace Go.Proofs.Qxb6613588a
open Go.RowKit

/-- w' is w but for the blocks X and for new ones -/
structure Fr (w w' : World) (X : Nat → Prop) : Prop where
  os : w'.os = w.os
  tape : w'.tape = w.tape
  output : w'.output = w.output
  size : w.heap.size ≤ w'.heap.size
  block : ∀ k, k < w.heap.size → ¬ X k → w'.heap[k]? = w.heap[k]?

theorem Fr.refl (w : World) (X : Nat → Prop) : Fr w w X := ⟨rfl, rfl, rfl, Nat.le_refl _, fun _ _ _ => rfl⟩
theorem Fr.trans {a b c : World} {X : Nat → Prop} (h : Fr a b X) (k : Fr b c X) : Fr a c X :=
  ⟨k.os.trans h.os, k.tape.trans h.tape, k.output.trans h.output, Nat.le_trans h.size k.size, fun i hi hx => (k.block i (Nat.lt_of_lt_of_le hi h.size) hx).trans (h.block i hi hx)⟩
theorem Fr.mono {a b : World} {X Y : Nat → Prop} (h : Fr a b X) (hX : ∀ k, k < a.heap.size → X k → Y k) : Fr a b Y :=
  ⟨h.os, h.tape, h.output, h.size, fun k hk hy => h.block k hk (fun hx => hy (hX k hk hx))⟩
/-- two steps, the second allowed to turn what the first has made -/
theorem Fr.step {a b c : World} {X Y : Nat → Prop} (h : Fr a b X) (k : Fr b c Y) (hY : ∀ i, i < a.heap.size → Y i → X i) : Fr a c X :=
  ⟨k.os.trans h.os, k.tape.trans h.tape, k.output.trans h.output, Nat.le_trans h.size k.size, fun i hi hx => (k.block i (Nat.lt_of_lt_of_le hi h.size) (fun hy => hx (hY i hi hy))).trans (h.block i hi hx)⟩
theorem Fr.drew {a b : World} {X : Nat → Prop} (h : Fr a b X) : Fr a b.drew X := ⟨h.os, h.tape, h.output, h.size, h.block⟩
theorem Fr.ofAlloc (b : World) (o : Obj) (X : Nat → Prop) : Fr b (b.alloc o) X := ⟨rfl, rfl, rfl, by simp, fun k hk _ => Below.heap_alloc b o k hk⟩
theorem Fr.alloc {a b : World} {X : Nat → Prop} (h : Fr a b X) (o : Obj) : Fr a (b.alloc o) X := h.trans (Fr.ofAlloc b o X)
theorem Fr.setCell {a b : World} {X : Nat → Prop} (h : Fr a b X) (p : Addr) (u : Value) (hp : p.block < a.heap.size → X p.block) : Fr a (b.setCell p u) X :=
  ⟨h.os, h.tape, h.output, by simpa [World.setCell] using h.size, fun k hk hx => by
    have hne : k ≠ p.block := fun e => hx (by rw [e]; exact hp (by rw [← e]; exact hk))
    rw [Below.heap_setCell _ _ _ _ hne]; exact h.block k hk hx⟩
theorem Fr.grown {a b c : World} {X : Nat → Prop} {row : Option Nat} (h : Fr a b X) (hg : b.grownBy c row) (hr : ∀ k, row = some k → k < a.heap.size → X k) : Fr a c X :=
  ⟨hg.os.trans h.os, hg.tape.trans h.tape, hg.output.trans h.output, Nat.le_trans h.size hg.size, fun k hk hx =>
    (hg.block k (Nat.lt_of_lt_of_le hk h.size) (fun e => hx (hr k e.symm hk))).trans (h.block k hk hx)⟩
theorem Fr.below {a b : World} {X : Nat → Prop} {B : Nat} (h : Fr a b X) (hB : B ≤ a.heap.size) (hX : ∀ k, k < B → ¬ X k) : Below B a b :=
  ⟨h.os, h.tape, h.output, h.size, fun k hk => h.block k (by omega) (hX k hk)⟩
theorem frOfBelow {a b : World} {B : Nat} (h : Below B a b) : Fr a b (fun k => B ≤ k) := ⟨h.os, h.tape, h.output, h.size, fun k _ hx => h.block k (by omega)⟩
theorem Fr.cell {a b : World} {X : Nat → Prop} (h : Fr a b X) {p : Addr} {v : Value} (hc : a.cell? p = some v) (hp : ¬ X p.block) : b.cell? p = some v :=
  (World.cell?_of_block (h.block p.block (World.block_lt_of_cell? a p hc) hp)).trans hc
theorem Fr.heapAt {a b : World} {X : Nat → Prop} (h : Fr a b X) {k : Nat} {o : Obj} (hc : a.heap[k]? = some o) (hp : ¬ X k) : b.heap[k]? = some o :=
  (h.block k (lt_of_block hc) hp).trans hc

/-- the slice x, of m elements of 'size' cells each, reads as the cells xs -/
def Reads (w : World) (size : Nat) (x : Value) (m : Nat) (xs : List Value) : Prop :=
  xs.length = m * size ∧ ((x = .slice none 0 0 ∧ m = 0) ∨ ∃ b o c, x = .slice (some ⟨b, o, none⟩) m c ∧ m ≤ c ∧ ∀ j u, xs[j]? = some u → w.cell? ⟨b, o + j, none⟩ = some u)

theorem Reads.kept {w w' : World} {X : Nat → Prop} {size : Nat} {x : Value} {m : Nat} {xs : List Value} (h : Reads w size x m xs) (hf : Fr w w' X) (hX : ∀ k, x.ownBlock = some k → ¬ X k) : Reads w' size x m xs := by
  refine ⟨h.1, ?_⟩
  rcases h.2 with h2 | ⟨b, o, c, rfl, hm, hc⟩
  · exact .inl h2
  · exact .inr ⟨b, o, c, rfl, hm, fun j u hj => hf.cell (hc j u hj) (hX b rfl)⟩

theorem Reads.nil (w : World) (size : Nat) : Reads w size (.slice none 0 0) 0 [] := ⟨by simp, .inl ⟨rfl, rfl⟩⟩

/-- how such a slice looks, nil or not -/
theorem Reads.form {w : World} {size : Nat} {x : Value} {m : Nat} {xs : List Value} (h : Reads w size x m xs) :
    ∃ ao c, x = .slice ao m c ∧ m ≤ c ∧ (0 < m → ∃ b o, ao = some ⟨b, o, none⟩ ∧ ∀ j u, xs[j]? = some u → w.cell? ⟨b, o + j, none⟩ = some u) := by
  rcases h.2 with ⟨rfl, rfl⟩ | ⟨b, o, c, rfl, hm, hc⟩
  · exact ⟨none, 0, rfl, Nat.le_refl _, fun h => by omega⟩
  · exact ⟨_, c, rfl, hm, fun _ => ⟨b, o, rfl, hc⟩⟩

theorem ownsReads {w : World} {base : Nat} {e : TypeId} {size : Nat} {v : Value} {n : Nat} {xs : List Value} (h : w.ownsRow base e size v n xs) : Reads w size v n xs := by
  refine ⟨h.1, ?_⟩
  rcases h.2 with h2 | ⟨g, cap, cur, rfl, hb, hg, hn, hm, hs, ht⟩
  · exact .inl h2
  · refine .inr ⟨g, 0, cap, rfl, hn, fun j u hj => ?_⟩
    rw [Nat.zero_add, cell_of_row w g j cur e (0, 0) hg]
    rw [← ht, List.getElem?_take] at hj
    split at hj
    · simpa using hj
    · cases hj

theorem ownsKept {w w' : World} {X : Nat → Prop} {base : Nat} {e : TypeId} {size : Nat} {v : Value} {n : Nat} {xs : List Value} (h : w.ownsRow base e size v n xs) (hf : Fr w w' X) (hX : ∀ k, v.ownBlock = some k → ¬ X k) : w'.ownsRow base e size v n xs := by
  refine ⟨h.1, ?_⟩
  rcases h.2 with h2 | ⟨g, cap, cur, rfl, hb, hg, rest⟩
  · exact .inl h2
  · exact .inr ⟨g, cap, cur, rfl, hb, hf.heapAt hg (hX g rfl), rest⟩

theorem ownsRebase {w : World} {base base' : Nat} {e : TypeId} {size : Nat} {v : Value} {n : Nat} {xs : List Value} (h : w.ownsRow base e size v n xs) (hb : ∀ k, v.ownBlock = some k → base' ≤ k) : w.ownsRow base' e size v n xs := by
  refine ⟨h.1, ?_⟩
  rcases h.2 with h2 | ⟨g, cap, cur, rfl, hb', hg, rest⟩
  · exact .inl h2
  · exact .inr ⟨g, cap, cur, rfl, hb g rfl, hg, rest⟩

/-- the block that an owned row lies in bears the row's element type -/
theorem ownsBlk {w : World} {base : Nat} {e : TypeId} {size : Nat} {v : Value} {n : Nat} {xs : List Value} (h : w.ownsRow base e size v n xs) {k : Nat} (hk : v.ownBlock = some k) :
    base ≤ k ∧ k < w.heap.size ∧ ∃ cur, w.heap[k]? = some (.cells cur e (0, 0)) := by
  rcases h.2 with ⟨rfl, _⟩ | ⟨g, cap, cur, rfl, hb, hg, rest⟩
  · simp [Value.ownBlock] at hk
  · obtain rfl : g = k := by simpa [Value.ownBlock] using hk
    exact ⟨hb, lt_of_block hg, cur, hg⟩

/-- a block of another element type is not the row's -/
theorem ownsNe {w : World} {base : Nat} {e e' : TypeId} {size : Nat} {v : Value} {n : Nat} {xs : List Value} (h : w.ownsRow base e size v n xs) {k : Nat} {cs : Array Value} {fr : Nat × Nat} (hk : w.heap[k]? = some (.cells cs e' fr)) (he : e ≠ e') : v.ownBlock ≠ some k := by
  intro hv
  obtain ⟨_, _, cur, hc⟩ := ownsBlk h hv
  rw [hc] at hk
  simp only [Option.some.injEq, Obj.cells.injEq] at hk
  exact he hk.2.1

/-- two rows of different element types lie in different blocks -/
theorem ownsNe2 {w : World} {base base' : Nat} {e e' : TypeId} {size size' : Nat} {v v' : Value} {n n' : Nat} {xs xs' : List Value} (h : w.ownsRow base e size v n xs) (h' : w.ownsRow base' e' size' v' n' xs') (he : e ≠ e') {k : Nat} (hk : v.ownBlock = some k) : v'.ownBlock ≠ some k := by
  obtain ⟨_, _, cur, hc⟩ := ownsBlk h hk
  exact ownsNe h' hc (fun x => he x.symm)

/-- what a program says of a slice type: its element, the element's cells and bytes -/
structure ElemOk (P : Program) (t e size bytes : Nat) : Prop where
  under : P.underlying t = some (.slice e)
  info : ∃ i z, P.info? e = some i ∧ i.zero = some z ∧ i.size = size ∧ i.bytes = bytes ∧ z.cells.size = size
  pos : 0 < size

/-- APPEND, one law: onto nil or a row of the call's own, from whatever slice that can be read; it may grow. -/
theorem run_append_reads {P : Program} (w : World) {t e size bytes : Nat} (ty base : Nat) (hE : ElemOk P t e size bytes) {v : Value} {n : Nat} {xs : List Value} (hown : w.ownsRow base e size v n xs)
    {x : Value} {m : Nat} {news : List Value} (hsrc : Reads w size x m news) (h1 : ∀ u ∈ news, u.oneCell' = true) (hb : (n + m) * bytes ≤ 140737488355328) (h63 : n + m ≤ maxLen) (hbase : base ≤ w.heap.size) :
    ∃ v' w', (Builtin.append_ #[t, t] ty #[v, x]).run P w = .ok v' w' ∧ w'.ownsRow base e size v' (n + m) (xs ++ news) ∧ Fr w w' (fun k => v.ownBlock = some k) ∧ (v'.ownBlock = v.ownBlock ∨ v'.ownBlock = some w.heap.size) := by
  obtain ⟨ht, ⟨i, z, hi, hz, hs, hby, hzs⟩, hpos⟩ := hE
  rcases hsrc.2 with ⟨rfl, rfl⟩ | ⟨b, o, c, rfl, hmc, hc⟩
  · have hr := run_append_owned_none (P := P) (w := w) base t ty e i size ht hi v n xs hown
    have hnil : news = [] := List.eq_nil_of_length_eq_zero (by simpa using hsrc.1)
    subst hnil
    refine ⟨v, w, hr, ?_, Fr.refl _ _, .inl rfl⟩
    simpa using hown
  · have hnews : ∀ j u, news[j]? = some u → w.cell? ((⟨b, o, none⟩ : Addr).add j) = some u := by
      intro j u hj
      have hadd : (⟨b, o, none⟩ : Addr).add j = ⟨b, o + j, none⟩ := by unfold Addr.add; split <;> simp_all
      rw [hadd]
      exact hc j u hj
    obtain ⟨v', w', hr, h2, h3, _, h5⟩ := run_append_own_at (P := P) w base t ty e i z size bytes ht hi hz hs hby hzs hpos v n xs hown ⟨b, o, none⟩ m c news hsrc.1 hnews h1 h63 hb hbase
    exact ⟨v', w', hr, h2, ⟨h3.os, h3.tape, h3.output, h3.size, fun k hk hx => h3.block k hk (fun e => hx e.symm)⟩, h5⟩

theorem wp_append_reads {P : Program} (w : World) {o : Oper} {a : Act} {K : Act → World → Prop} {Q : Exit → Act → World → Prop} (s x : Operand) {t e size bytes : Nat}
    (ho : o.op = .call { callee := .builtin .append, args := #[s, x], argTypes := #[t, t] }) (base : Nat) (hE : ElemOk P t e size bytes)
    {v : Value} {n : Nat} {xs : List Value} (hs : a.eval s = v) (hown : w.ownsRow base e size v n xs) {y : Value} {m : Nat} {news : List Value} (hx : a.eval x = y) (hsrc : Reads w size y m news)
    (h1 : ∀ u ∈ news, u.oneCell' = true) (hb : (n + m) * bytes ≤ 140737488355328) (h63 : n + m ≤ maxLen) (hbase : base ≤ w.heap.size)
    (h : ∀ v' w', w'.ownsRow base e size v' (n + m) (xs ++ news) → Fr w w' (fun k => v.ownBlock = some k) → (v'.ownBlock = v.ownBlock ∨ v'.ownBlock = some w.heap.size) → K (a.put o.dst v') w') : o.wp P a w K Q := by
  obtain ⟨v', w', hr, h2, h3, h4⟩ := run_append_reads (P := P) w o.type base hE hown hsrc h1 hb h63 hbase
  unfold Oper.wp execOp
  simp only [ho, resolve, invoke, builtin, Sem.run_bind, Sem.run_pure, Result.andThen_ok, List.map_toArray, List.map_cons, List.map_nil, hs, hx, hr]
  exact h v' w' h2 h3 h4

/-- in a plain region -/
theorem wpList_append_reads {P : Program} (w : World) {ops : Array Oper} {rest : List Oper} {o : Oper} {a : Act} {Q : Exit → Act → World → Prop} (hgd : o.guard = none) (s x : Operand) {t e size bytes : Nat}
    (ho : o.op = .call { callee := .builtin .append, args := #[s, x], argTypes := #[t, t] }) (base : Nat) (hE : ElemOk P t e size bytes)
    {v : Value} {n : Nat} {xs : List Value} (hs : a.eval s = v) (hown : w.ownsRow base e size v n xs) {y : Value} {m : Nat} {news : List Value} (hx : a.eval x = y) (hsrc : Reads w size y m news)
    (h1 : ∀ u ∈ news, u.oneCell' = true) (hb : (n + m) * bytes ≤ 140737488355328) (h63 : n + m ≤ maxLen) (hbase : base ≤ w.heap.size)
    (h : ∀ v' w', w'.ownsRow base e size v' (n + m) (xs ++ news) → Fr w w' (fun k => v.ownBlock = some k) → (v'.ownBlock = v.ownBlock ∨ v'.ownBlock = some w.heap.size) → wpList P ops Q rest (a.put o.dst v') w') : wpList P ops Q (o :: rest) a w :=
  wpList_plain hgd fun _ hK => wp_append_reads w s x ho base hE hs hown hx hsrc h1 hb h63 hbase fun v' w' h2 h3 h4 => hK _ _ (h v' w' h2 h3 h4)

/-- at a step of a region that draws its order -/
theorem step_append_reads {P : Program} (w : World) {ops : Array Oper} {o : Oper} {a : Act} {K : Act → World → Prop} {Q : Exit → Act → World → Prop} {E : Prop} (hgd : o.guard = none) (s x : Operand) {t e size bytes : Nat}
    (ho : o.op = .call { callee := .builtin .append, args := #[s, x], argTypes := #[t, t] }) (base : Nat) (hE : ElemOk P t e size bytes)
    {v : Value} {n : Nat} {xs : List Value} (hs : a.eval s = v) (hown : w.ownsRow base e size v n xs) {y : Value} {m : Nat} {news : List Value} (hx : a.eval x = y) (hsrc : Reads w size y m news)
    (h1 : ∀ u ∈ news, u.oneCell' = true) (hb : (n + m) * bytes ≤ 140737488355328) (h63 : n + m ≤ maxLen) (hbase : base ≤ w.heap.size)
    (h : ∀ v' w', w'.ownsRow base e size v' (n + m) (xs ++ news) → Fr w w' (fun k => v.ownBlock = some k) → (v'.ownBlock = v.ownBlock ∨ v'.ownBlock = some w.heap.size) → K (a.put o.dst v') w') :
    if Region.wanted o (yielded ops a.tmps) = true then Oper.wp P o a w K Q else E := by
  have hw : Region.wanted o (yielded ops a.tmps) = true := by simp [Region.wanted, hgd]
  rw [if_pos hw]
  exact wp_append_reads w s x ho base hE hs hown hx hsrc h1 hb h63 hbase h

/-- a new block of cells, read as a slice of one element -/
theorem reads_block {w : World} {b : Nat} {cs : Array Value} {e : TypeId} {fr : Nat × Nat} (h : w.heap[b]? = some (.cells cs e fr)) (c : Nat) (hc : 1 ≤ c) : Reads w cs.size (.slice (some ⟨b, 0, none⟩) 1 c) 1 cs.toList := by
  refine ⟨by simp, .inr ⟨b, 0, c, rfl, hc, fun j u hj => ?_⟩⟩
  rw [Nat.zero_add, cell_of_row w b j cs e fr h]
  simpa using hj

/-- 's[:k]' -/
theorem Reads.take {w : World} {size : Nat} {ao : Option Addr} {m c : Nat} {xs : List Value} (h : Reads w size (.slice ao m c) m xs) {k : Nat} (hk : k ≤ m) : Reads w size (.slice ao k c) k (xs.take (k * size)) := by
  have hle : k * size ≤ m * size := Nat.mul_le_mul_right _ hk
  refine ⟨by rw [List.length_take, h.1]; omega, ?_⟩
  rcases h.2 with ⟨hv, rfl⟩ | ⟨b, o, c', hv, hm, hc⟩
  · obtain rfl : k = 0 := by omega
    simp only [Value.slice.injEq] at hv
    exact .inl ⟨by simp [hv.1, hv.2.2], rfl⟩
  · simp only [Value.slice.injEq] at hv
    refine .inr ⟨b, o, c', by simp [hv.1, hv.2.2], by omega, fun j u hj => hc j u ?_⟩
    rw [List.getElem?_take] at hj
    split at hj
    · exact hj
    · cases hj

/-- 's[k:]' -/
theorem Reads.drop {w : World} {size : Nat} {ao : Option Addr} {m c : Nat} {xs : List Value} (h : Reads w size (.slice ao m c) m xs) {k : Nat} (hk : k ≤ m) : Reads w size (.slice (if c = k then ao else ao.map (·.add (k * size))) (m - k) (c - k)) (m - k) (xs.drop (k * size)) := by
  refine ⟨by rw [List.length_drop, h.1, Nat.sub_mul], ?_⟩
  rcases h.2 with ⟨hv, rfl⟩ | ⟨b, o, c', hv, hm, hc⟩
  · obtain rfl : k = 0 := by omega
    simp only [Value.slice.injEq] at hv
    obtain ⟨rfl, _, rfl⟩ := hv
    exact .inl ⟨by simp, by omega⟩
  · simp only [Value.slice.injEq] at hv
    obtain ⟨rfl, _, rfl⟩ := hv
    by_cases hck : c = k
    · obtain rfl : m = k := by omega
      have hx : xs.drop (m * size) = [] := by rw [← h.1]; simp
      refine .inr ⟨b, o, c - m, by simp [hck], by omega, fun j u hj => ?_⟩
      rw [hx] at hj; simp at hj
    · have hadd : (⟨b, o, none⟩ : Addr).add (k * size) = ⟨b, o + k * size, none⟩ := by unfold Addr.add; split <;> simp_all
      refine .inr ⟨b, o + k * size, c - k, by simp [hck, hadd], by omega, fun j u hj => ?_⟩
      rw [List.getElem?_drop] at hj
      rw [Nat.add_assoc]
      exact hc _ u hj

end Go.Proofs.Qxb6613588a
