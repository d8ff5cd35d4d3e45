import Derived.Test.YbulkcxjeDel
namespace Go.Proofs.Ybulkcxje
open Go.RowKit
set_option linter.unusedSimpArgs false

/-- w' is w but for block bt, the row 'row' and new blocks. -/
structure Upto (w w' : World) (bt : Nat) (row : Option Nat) : Prop where
  os : w'.os = w.os
  tape : w'.tape = w.tape
  output : w'.output = w.output
  size : w.heap.size ≤ w'.heap.size
  block : ∀ k, k < w.heap.size → k ≠ bt → some k ≠ row → w'.heap[k]? = w.heap[k]?

theorem Upto.refl (w : World) (bt : Nat) (row : Option Nat) : Upto w w bt row := ⟨rfl, rfl, rfl, Nat.le_refl _, fun _ _ _ _ => rfl⟩
theorem Upto.below {w w1 w2 : World} {bt : Nat} {row : Option Nat} (h : Upto w w1 bt row) {B : Nat} (hb : Below B w1 w2) (hB : w.heap.size ≤ B) : Upto w w2 bt row :=
  ⟨hb.os.trans h.os, hb.tape.trans h.tape, hb.output.trans h.output, Nat.le_trans h.size hb.size, fun k hk h1 h2 => (hb.block k (by omega)).trans (h.block k hk h1 h2)⟩
theorem Upto.grown {w w1 w2 : World} {bt : Nat} {row row2 : Option Nat} (h : Upto w w1 bt row) (hg : w1.grownBy w2 row2) (hr : row2 = row ∨ ∃ g, row2 = some g ∧ w.heap.size ≤ g) : Upto w w2 bt row :=
  ⟨hg.os.trans h.os, hg.tape.trans h.tape, hg.output.trans h.output, Nat.le_trans h.size hg.size, fun k hk h1 h2 => (hg.block k (Nat.lt_of_lt_of_le hk h.size) (by
    rcases hr with rfl | ⟨g, rfl, hg⟩
    · exact h2
    · intro e; have := Option.some.inj e; omega)).trans (h.block k hk h1 h2)⟩
theorem Upto.set {w w1 : World} {bt : Nat} {row : Option Nat} (h : Upto w w1 bt row) (a : Addr) (u : Value) (ha : a.block = bt ∨ w.heap.size ≤ a.block) : Upto w (w1.setCell a u) bt row :=
  ⟨h.os, h.tape, h.output, by simpa [World.setCell] using h.size, fun k hk h1 h2 => (Below.heap_setCell _ _ _ _ (by rcases ha with e | e <;> omega)).trans (h.block k hk h1 h2)⟩
theorem Upto.drew {w w1 : World} {bt : Nat} {row : Option Nat} (h : Upto w w1 bt row) : Upto w w1.drew bt row := ⟨h.os, h.tape, h.output, h.size, h.block⟩

/-- The link's block. -/
def InB (w : World) (bi : Nat) (m0 m1 : Int) (v : Value) : Prop := w.heap[bi]? = some (.cells #[.int .i32 m0, .int .u32 m1, v] 35 (0, 0))
theorem InB.c0 {w : World} {bi : Nat} {m0 m1 : Int} {v : Value} (h : InB w bi m0 m1 v) : w.cell? ⟨bi, 0, none⟩ = some (.int .i32 m0) := by rw [cell_of_row w bi 0 _ 35 (0, 0) h]; rfl
theorem InB.c2 {w : World} {bi : Nat} {m0 m1 : Int} {v : Value} (h : InB w bi m0 m1 v) : w.cell? ⟨bi, 2, none⟩ = some v := by rw [cell_of_row w bi 2 _ 35 (0, 0) h]; rfl
theorem InB.fz {w : World} {bi : Nat} {m0 m1 : Int} {v : Value} (h : InB w bi m0 m1 v) (j : Nat) : w.frozen? ⟨bi, j, none⟩ = false := frozen_of_row w bi j _ 35 h
theorem InB.lt {w : World} {bi : Nat} {m0 m1 : Int} {v : Value} (h : InB w bi m0 m1 v) : bi < w.heap.size := lt_of_block h
theorem InB.put {w : World} {bi : Nat} {m0 m1 : Int} {v : Value} (h : InB w bi m0 m1 v) (u : Value) : InB (w.setCell ⟨bi, 2, none⟩ u) bi m0 m1 u := by
  have := heap_setCell_same w bi 2 _ 35 u h
  simpa [InB] using this
theorem InB.put0 {w : World} {bi : Nat} {m0 m1 : Int} {v : Value} (h : InB w bi m0 m1 v) (x : Int) : InB (w.setCell ⟨bi, 0, none⟩ (.int .i32 x)) bi x m1 v := by
  have := heap_setCell_same w bi 0 _ 35 (.int .i32 x) h
  simpa [InB] using this
theorem InB.keep {w w' : World} {bi : Nat} {m0 m1 : Int} {v : Value} (h : InB w bi m0 m1 v) (hk : w'.heap[bi]? = w.heap[bi]?) : InB w' bi m0 m1 v := by unfold InB; rw [hk]; exact h

theorem Own.ne {w : World} {base bi : Nat} {v u : Value} {m0 m1 : Int} {cs : List (Int × Int)} (hown : Own w base v cs) (h : InB w bi m0 m1 u) : v.ownBlock ≠ some bi := by
  rcases hown with ⟨rfl, _⟩ | ⟨g, off, cap, cur, rfl, _, hg, _⟩
  · simp [Value.ownBlock]
  · simp only [Value.ownBlock]
    intro e
    have e := Option.some.inj e
    subst e
    unfold InB at h
    rw [h] at hg
    simp at hg

/-- Ahead of the last append of inLink.open. -/
structure Mid (w w5 : World) (bi base : Nat) (m0 m1 : Int) (v v5 : Value) (cs5 : List (Int × Int)) (b7 : Nat) (x : Int × Int) : Prop where
  inb : InB w5 bi m0 m1 v5
  own : Own w5 base v5 cs5
  cb : w5.heap[b7]? = some (.cells #[.int .u64 x.1, .int .u64 x.2] 82 (0, 0))
  up : Upto w w5 bi v.ownBlock
  at5 : v5.ownBlock = v.ownBlock
  hb7 : w.heap.size ≤ b7
  hv : ∀ k, v.ownBlock = some k → k < w.heap.size
  hbs : base ≤ w.heap.size
  hbi : bi < w.heap.size

/-- What inLink.open leaves. -/
def Opened (w w' : World) (bi base : Nat) (m0 m1 : Int) (v : Value) (cs : List (Int × Int)) : Prop :=
  ∃ v', InB w' bi m0 m1 v' ∧ Own w' base v' cs ∧ Upto w w' bi v.ownBlock ∧ (v'.ownBlock = v.ownBlock ∨ ∃ g, v'.ownBlock = some g ∧ w.heap.size ≤ g)

theorem opened_of {w w5 w6 : World} {bi base b7 : Nat} {m0 m1 : Int} {v v5 : Value} {cs5 : List (Int × Int)} {x : Int × Int} {o : Obj} {ao : Option Addr} {n cap : Nat} (hM : Mid w w5 bi base m0 m1 v v5 cs5 b7 x)
    (hown : Own w6 base (.slice ao n cap) (cs5 ++ [x])) (hgrow : (w5.alloc o).drew.grownBy w6 v5.ownBlock) (hat : (Value.slice ao n cap).ownBlock = v5.ownBlock ∨ ∃ g, (Value.slice ao n cap).ownBlock = some g ∧ (w5.alloc o).drew.heap.size ≤ g) :
    InB w6 bi m0 m1 v5 ∧ Opened w (w6.setCell ⟨bi, 2, none⟩ (.slice ao n cap)) bi base m0 m1 v (cs5 ++ [x]) := by
  have hs5 := hM.up.size
  have hs6 := hgrow.size
  have hal : (w5.alloc o).drew.heap.size = w5.heap.size + 1 := by show (w5.alloc o).heap.size = _; simp
  have hlt := hM.inb.lt
  have hi6 : InB w6 bi m0 m1 v5 := hM.inb.keep ((hgrow.block bi (by omega) (fun e => hM.own.ne hM.inb e.symm)).trans (Below.heap_alloc w5 o bi hlt))
  refine ⟨hi6, .slice ao n cap, hi6.put _, hown.keep fun k hk => Below.heap_setCell _ _ _ _ (fun e => ?_), ?_, ?_⟩
  · have e' : k = bi := e
    subst e'
    exact hown.ne hi6 hk
  · refine Upto.set (Upto.grown (w1 := (w5.alloc o).drew) ?_ hgrow (.inl hM.at5)) _ _ (.inl rfl)
    exact ⟨hM.up.os, hM.up.tape, hM.up.output, by omega, fun k hk h1 h2 => (Below.heap_alloc w5 o k (by omega)).trans (hM.up.block k hk h1 h2)⟩
  · rcases hat with h | ⟨g, h, hg⟩
    · exact .inl (h.trans hM.at5)
    · exact .inr ⟨g, h, by omega⟩

theorem step_append_one {w : World} {ops : Array Oper} {o : Oper} {a : Act} {K : Act → World → Prop} {Q : Exit → Act → World → Prop} {E : Prop}
    (hg : o.guard = none) (s x : Operand) (hop : o.op = Op.call { callee := Callee.builtin Builtin.append, args := #[s, x], argTypes := #[26, 26] })
    (base : Nat) (v : Value) (cs : List (Int × Int)) (N : Nat) (hN : cs.length = N) (hs : a.eval s = v) (hown : Own w base v cs) (ad : Addr) (c : Nat) (hx : a.eval x = .slice (some ad) 1 c) (e : Int × Int)
    (h0 : w.cell? (ad.add 0) = some (.int .u64 e.1)) (h1 : w.cell? (ad.add 1) = some (.int .u64 e.2)) (hn : N ≤ 1000000) (hbase : base ≤ w.heap.size)
    (hK : ∀ ao cap w', Own w' base (.slice ao (N + 1) cap) (cs ++ [e]) → w.grownBy w' v.ownBlock →
      ((Value.slice ao (N + 1) cap).ownBlock = v.ownBlock ∨ ∃ g, (Value.slice ao (N + 1) cap).ownBlock = some g ∧ w.heap.size ≤ g) → K (a.put o.dst (.slice ao (N + 1) cap)) w') :
    if Region.wanted o (yielded ops a.tmps) = true then Oper.wp Yba.prog o a w K Q else E := by
  subst hN
  have hw : Region.wanted o (yielded ops a.tmps) = true := by simp [Region.wanted, hg]
  rw [if_pos hw]
  obtain ⟨ao, cap, w', hr, h2, h3, h4⟩ := run_append_one w base o.type v cs hown ad c e h0 h1 hn hbase
  unfold Oper.wp execOp
  simp only [hop, resolve, invoke, builtin, Sem.run_bind, Sem.run_pure, Result.andThen_ok, List.map_toArray, List.map_cons, List.map_nil, hs, hx, hr]
  exact hK ao cap w' h2 h3 h4

theorem Own.later {w : World} {base : Nat} {v : Value} {cs : List (Int × Int)} (h : Own w base v cs) (o : Obj) : Own (w.alloc o).drew base v cs :=
  h.keep fun k hk => Below.heap_alloc w o k (h.lt k hk).2

theorem index_n (ao : Option Addr) (cap i n : Nat) (cs : List (Int × Int)) (inc : Int) (bc : Nat) (w : World) (hl : cs.length = n) (hr : Reads2 w ao cs) (hc : w.cell? ⟨bc, 0, none⟩ = some (.int .u64 inc)) (hb : bc < w.heap.size) (hn : n ≤ 1000000)
    (hi : i ≤ n) (hbef : ∀ k, k < i → ((cs.getD k default).1 == inc) = false) (hat : i < n → ((cs.getD i default).1 == inc) = true) :
    Calls Yba.prog 16 #[.slice ao n cap, .func (.func 17) #[] #[.pointer (some ⟨bc, 0, none⟩)]] w fun e w' => e = .returned (.int .i64 (if i < n then (i : Int) else -1)) ∧ Below w.heap.size w w' := by
  subst hl
  exact index_any ao cap i cs inc bc w hr hc hb hn hi hbef hat

/-- The world behind the box and the local c. -/
def w1 (w : World) (inc seq : Int) : World := (w.alloc (.cells #[.int .u64 inc] 23)).alloc (.cells #[.int .u64 inc, .int .u64 seq] 82)
theorem w1_size (w : World) (inc seq : Int) : (w1 w inc seq).heap.size = w.heap.size + 2 := by simp [w1]
theorem w1_below (w : World) (inc seq : Int) : Below w.heap.size w (w1 w inc seq) := ((Below.refl _ w).alloc (Nat.le_refl _) _).alloc (by simp) _
theorem w1_c (w : World) (inc seq : Int) : (w1 w inc seq).cell? ⟨w.heap.size, 0, none⟩ = some (.int .u64 inc) := by
  have h : (w1 w inc seq).heap[w.heap.size]? = some (.cells #[.int .u64 inc] 23 (0, 0)) := by
    unfold w1
    rw [Below.heap_alloc _ _ _ (by simp)]
    exact heap_alloc_new w _
  rw [cell_of_row _ _ 0 _ 23 (0, 0) h]; rfl
theorem w1_b (w : World) (inc seq : Int) : (w1 w inc seq).heap[w.heap.size + 1]? = some (.cells #[.int .u64 inc, .int .u64 seq] 82 (0, 0)) := by
  have := heap_alloc_new (w.alloc (.cells #[.int .u64 inc] 23)) (.cells #[.int .u64 inc, .int .u64 seq] 82)
  unfold w1
  simpa only [World.size_alloc] using this

theorem mid_start {w w2 : World} {bi base : Nat} {m0 m1 inc seq : Int} {v : Value} {cs : List (Int × Int)} (hin : InB w bi m0 m1 v) (hown : Own w base v cs) (hbase : base ≤ w.heap.size) (hb : Below (w1 w inc seq).heap.size (w1 w inc seq) w2) :
    Mid w w2 bi base m0 m1 v v cs (w.heap.size + 1) (inc, seq) := by
  have hs := w1_size w inc seq
  have hB := (w1_below w inc seq).trans (hb.mono (by omega))
  have hbi := hin.lt
  exact ⟨hin.keep (hB.block bi hbi), hown.keep fun k hk => hB.block k (hown.lt k hk).2, (hb.block _ (by omega)).trans (w1_b w inc seq), (Upto.refl w bi _).below hB (Nat.le_refl _), rfl, by omega, fun k hk => (hown.lt k hk).2, hbase, hbi⟩

set_option maxHeartbeats 400000 in
set_option maxRecDepth 100000 in
/-- Not found, room in the table. -/
theorem open_new (bi base n cap : Nat) (m0 m1 inc seq : Int) (ao : Option Addr) (cs : List (Int × Int)) (w : World) (hin : InB w bi m0 m1 (.slice ao n cap)) (hown : Own w base (.slice ao n cap) cs) (hl : cs.length = n) (hn : n ≤ 100000) (hbase : base ≤ w.heap.size)
    (hnf : ∀ k, k < n → ((cs.getD k default).1 == inc) = false) (h8 : ((n : Int) == 8) = false) :
    Calls Yba.prog 12 #[.pointer (some ⟨bi, 0, none⟩), .int .u64 inc, .int .u64 seq] w fun e w' => e = .returned (.bool false) ∧ Opened w w' bi base m0 m1 (.slice ao n cap) (cs ++ [(inc, seq)]) := by
  have hc2 := hin.c2
  have hbi := hin.lt
  have HL : Hid (cs.length = n) := hl
  have HNF : Hid (∀ k, k < n → ((cs.getD k default).1 == inc) = false) := hnf
  clear hl hnf
  go_enter Yba.func12, Yba.ntmps12
  go_wp2_with fail
  refine (index_n ao cap n n cs inc w.heap.size (w1 w inc seq) HL.out (hown.keep fun k hk => (w1_below w inc seq).block k (hown.lt k hk).2).reads (w1_c w inc seq) (by rw [w1_size]; omega) (by omega) (Nat.le_refl _) HNF.out (fun h => absurd h (by omega))).mono ?_
  rintro e w2 ⟨rfl, hb2⟩
  rw [if_neg (by omega)]
  have hM := mid_start hin hown hbase hb2
  have hc2 := hM.inb.c2
  have hf2 := hM.inb.fz 2
  have hbi2 := hM.inb.lt
  have hx0 : w2.cell? ⟨w.heap.size + 1, 0, none⟩ = some (.int .u64 inc) := by rw [cell_of_row _ _ 0 _ 82 (0, 0) hM.cb]; rfl
  have hx1 : w2.cell? ⟨w.heap.size + 1, 1, none⟩ = some (.int .u64 seq) := by rw [cell_of_row _ _ 1 _ 82 (0, 0) hM.cb]; rfl
  have hs2 : w.heap.size + 2 ≤ w2.heap.size := by have := hb2.size; rw [w1_size] at this; exact this
  clear hb2 hin hown
  go_wp2_with fail
  go_region_law (refine step_append_one rfl (.tmp 62) (.tmp 64) rfl base (.slice ao n cap) cs n HL.out (by simp [Act.eval, Act.put]) (by exact hM.own.later _) ⟨w2.heap.size, 0, none⟩ 1 (by simp [Act.eval, Act.put]) (inc, seq) (by simp [Addr.add]) (by simp [Addr.add]) (by omega) (by simp; omega) ?_; intro ao6 cap6 w6 hown6 hgrow6 hat6; have hO := opened_of hM hown6 hgrow6 hat6; have hc6 := hO.1.c2; have hf6 := hO.1.fz 2)
  all_goals go_wp2
  all_goals go_ret
  all_goals exact ⟨rfl, hO.2⟩
end Go.Proofs.Ybulkcxje
