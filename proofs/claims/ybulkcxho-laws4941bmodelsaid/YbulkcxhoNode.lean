/-
  zzs4941bnode: the law's node.
-/
import Derived.Test.YbulkcxhoReport
import Derived.Test.YbulkcxhoKeys
import Derived.Maps.AppendAt
import Derived.Deep.Draws
import Derived.Deep.OwnRows
import Derived.Carry
import Derived.Laws.Tables
namespace Go.Proofs.Ybulkcxho
open Go.RowKit
set_option linter.unusedSimpArgs false
set_option linter.unusedVariables false

theorem Yba.info5 : (Yba.prog.info? 5).map (fun i => (i.zero, i.size, i.bytes)) = some (some (.int .u8 0), 1, 1) := by kernel_rfl
theorem Yba.info23 : (Yba.prog.info? 23).map (fun i => (i.zero, i.size, i.bytes)) = some (some (.int .u64 0), 1, 8) := by kernel_rfl

/-- The entries that came in. -/
def Ents (w : World) (sb so n : Nat) (S L : Nat → Nat) (R : Nat → Int) (T : Nat → ByteArray) : Prop :=
  ∀ i, i < n → S i < 65536 ∧ L i < 65536 ∧ w.cell? ⟨sb, so + i * 4, none⟩ = some (.int .u16 (S i)) ∧ w.cell? ⟨sb, so + i * 4 + 1, none⟩ = some (.int .u64 (R i)) ∧
    w.cell? ⟨sb, so + i * 4 + 2, none⟩ = some (.string (T i)) ∧ w.cell? ⟨sb, so + i * 4 + 3, none⟩ = some (.int .u16 (L i))

/-- What the loop carries behind i entries. -/
structure NodeInv (w : World) (i : Nat) (M : Nat → Option Value) (kv : Value) (ks : List Nat) (la : Nat) (wr : World) : Prop where
  below : Below w.heap.size w wr
  map : MapIs wr w.heap.size i M
  own : wr.ownsRow (w.heap.size + 1) 23 1 kv i (ks.map fun (k : Nat) => Value.int .u64 k)
  len : ks.length = i
  elem : ∀ k v, M k = some v → Elem wr v
  dom : ∀ k, (M k).isSome = true ↔ k ∈ ks
  top : ∀ k ∈ ks, k ≤ la
  la_le : la ≤ 65535

/-- The node's parts, as the literal has them. -/
def nodeParts (vsz la base : Int) (mb : Nat) : List (Nat × Value) :=
  [(0, .agg #[.string ⟨#[]⟩, .slice none 0 0, .bool false, .map none, .int .i64 0, .int .i64 0, .int .i64 0, .int .i64 0, .int .i64 vsz, .int .i64 0, .int .i64 0, .int .u64 0, .bool false, .nilFunc, .pointer none]), (3, .map (some mb)), (17, .int .u64 base), (13, .int .u64 la)]
theorem built_some (vsz la base : Int) (mb : Nat) : (Yba.prog.built 75 (nodeParts vsz la base mb)).isSome = true := by kernel_rfl
theorem built_size (vsz la base : Int) (mb : Nat) : (Yba.prog.built 75 (nodeParts vsz la base mb)).map (fun c => c.size) = some 75 := by kernel_rfl
theorem built_8 (vsz la base : Int) (mb : Nat) : (Yba.prog.built 75 (nodeParts vsz la base mb)).bind (fun c => c[8]?) = some (.int .i64 vsz) := by kernel_rfl
theorem built_18 (vsz la base : Int) (mb : Nat) : (Yba.prog.built 75 (nodeParts vsz la base mb)).bind (fun c => c[18]?) = some (.map (some mb)) := by kernel_rfl
theorem built_29 (vsz la base : Int) (mb : Nat) : (Yba.prog.built 75 (nodeParts vsz la base mb)).bind (fun c => c[29]?) = some (.int .u64 la) := by kernel_rfl
theorem built_33 (vsz la base : Int) (mb : Nat) : (Yba.prog.built 75 (nodeParts vsz la base mb)).bind (fun c => c[33]?) = some (.int .u64 base) := by kernel_rfl
theorem built75 (vsz la base : Int) (mb : Nat) : ∃ cells : Array Value, Yba.prog.built 75 (nodeParts vsz la base mb) = some cells ∧ cells.size = 75 ∧
    cells[8]? = some (.int .i64 vsz) ∧ cells[18]? = some (.map (some mb)) ∧ cells[29]? = some (.int .u64 la) ∧ cells[33]? = some (.int .u64 base) := by
  obtain ⟨cells, hc⟩ := Option.isSome_iff_exists.1 (built_some vsz la base mb)
  have h0 := built_size vsz la base mb
  have h1 := built_8 vsz la base mb
  have h2 := built_18 vsz la base mb
  have h3 := built_29 vsz la base mb
  have h4 := built_33 vsz la base mb
  rw [hc] at h0 h1 h2 h3 h4
  exact ⟨cells, hc, Option.some.inj h0, h1, h2, h3, h4⟩
theorem wp_build_cells {P : Program} {o : Oper} {a : Act} {w : World} {K : Act → World → Prop} {Q : Exit → Act → World → Prop} (t : TypeId) (parts : Array (Nat × Operand)) (ho : o.op = .build t parts) (ps : List (Nat × Value))
    (he : (parts.map fun (i, x) => (i, a.eval x)).toList = ps) {cells : Array Value} (hc : P.built t ps = some cells) (h : K (a.put o.dst (.agg cells)) w) : o.wp P a w K Q := by
  refine wp_build t parts ho ?_ ?_
  · rw [he, hc]; rfl
  · rw [he, hc]; exact h

/-- Blocks of bytes are left alone. -/
def Keep5 (w w' : World) : Prop := ∀ (g : Nat) cur, w.heap[g]? = some (.cells cur 5 (0, 0)) → w'.heap[g]? = w.heap[g]?
theorem Keep5.trans {a b c : World} (h : Keep5 a b) (k : Keep5 b c) : Keep5 a c := fun g cur hg => (k g cur ((h g cur hg).trans hg)).trans (h g cur hg)
theorem Keep5.below {a b : World} (h : Below a.heap.size a b) : Keep5 a b := fun g cur hg => h.block g (Array.getElem?_eq_some_iff.1 hg).1
theorem Keep5.map {a b : World} {mb n : Nat} {M : Nat → Option Value} (h : MapIs a mb n M) (hg : a.grownBy b (some mb)) : Keep5 a b := fun g cur hc => hg.block g (Array.getElem?_eq_some_iff.1 hc).1 fun e => by
  cases e
  obtain ⟨D, ⟨es, clock, hb, _⟩, _⟩ := h
  rw [hb] at hc
  cases hc
theorem Keep5.row {a b : World} {base n : Nat} {kv : Value} {xs : List Value} (h : a.ownsRow base 23 1 kv n xs) (hg : a.grownBy b kv.ownBlock) : Keep5 a b := fun g cur hc => hg.block g (Array.getElem?_eq_some_iff.1 hc).1 fun e => by
  rcases h.2 with ⟨rfl, _⟩ | ⟨g', cap, cur', rfl, _, hgg, _⟩
  · cases e
  · simp only [Value.ownBlock, Option.some.injEq] at e
    subst e
    rw [hgg] at hc
    cases hc

/-- The new value's bytes. -/
theorem elem_new (w : World) (r : Int) (t : ByteArray) (l : Nat) (hl : l < 65536) {s : Nat} (hs : w.heap.size = s) : Elem (w.alloc (.cells (madeCells #[.int .u8 0] l) 5)) (.agg #[.int .u64 r, .string t, .slice (some ⟨s, 0, none⟩) l l]) := by
  subst hs
  refine ⟨r, t, w.heap.size, l, rfl, by omega, _, heap_alloc_new w _, fun j hj => ⟨0, by omega, ?_⟩⟩
  rw [← Array.getElem?_toList, toList_madeCells_one, List.getElem?_replicate, if_pos hj]
  rfl
theorem elem_new1 (w : World) (r : Int) (t : ByteArray) (l : Nat) (hl : l < 65536) {s : Nat} (hs : w.heap.size = s) (x : Int) (hx : 0 ≤ x ∧ x < 256) :
    Elem ((w.alloc (.cells (madeCells #[.int .u8 0] l) 5)).setCell ⟨s, 0, none⟩ (.int .u8 x)) (.agg #[.int .u64 r, .string t, .slice (some ⟨s, 0, none⟩) l l]) := by
  subst hs
  refine ⟨r, t, w.heap.size, l, rfl, by omega, _, heap_setCell_same _ _ 0 _ 5 _ (heap_alloc_new w _), fun j hj => ?_⟩
  by_cases e : j = 0
  · subst e
    refine ⟨x.toNat, by omega, ?_⟩
    rw [Array.getElem?_setIfInBounds_self_of_lt (by rw [size_madeCells]; exact hj)]
    congr 2
    omega
  · refine ⟨0, by omega, ?_⟩
    rw [Array.getElem?_setIfInBounds_ne (by omega), ← Array.getElem?_toList, toList_madeCells_one, List.getElem?_replicate, if_pos hj]
    rfl

theorem _root_.Go.RowKit.Below.setNew {B : Nat} {w a : World} (h : Below B w a) {s : Nat} (hs : B ≤ s) (j : Nat) (v : Value) : Below B w (a.setCell ⟨s, j, none⟩ v) :=
  ⟨h.os, h.tape, h.output, by simpa [World.setCell] using h.size, fun k hk => (heap_setCell_other a ⟨s, j, none⟩ k v (by simp only; omega)).trans (h.block k hk)⟩

section
variable {w wr : World} {i : Nat} {M : Nat → Option Value} {kv : Value} {ks : List Nat} {la : Nat}
theorem NodeInv.step (h : NodeInv w i M kv ks la wr) {w3 w4 w5 w6 : World} {s : Nat} (hs : s < 65536) {v kv' : Value} (h3 : Below wr.heap.size wr w3) (he : Elem w3 v) (m4 : MapIs w4 w.heap.size (i + 1) (setAt M s v)) (g4 : w3.grownBy w4 (some w.heap.size))
    (h5 : Below w4.heap.size w4 w5) (own6 : w6.ownsRow (w.heap.size + 1) 23 1 kv' (i + 1) ((ks.map fun (k : Nat) => Value.int .u64 k) ++ [.int .u64 s])) (g6 : w5.grownBy w6 kv.ownBlock) : NodeInv w (i + 1) (setAt M s v) kv' (ks ++ [s]) (max la s) w6 := by
  have hB3 := h.below.more h.below.size h3
  have hB4 : Below w.heap.size w w4 := hB3.grown g4 hB3.size (fun k hk => by cases hk; exact Nat.le_refl _)
  have hB5 := hB4.more hB4.size h5
  have hB6 : Below w.heap.size w w6 := hB5.grown g6 hB5.size (fun k hk => by have := (h.own.lt k hk).1; omega)
  have m3 : MapIs w3 w.heap.size i M := h.map.kept (h3.block _ h.map.lt)
  have o3 := ownsRow_below h.own h3
  have hne : kv.ownBlock = none ∨ kv.ownBlock ≠ some w.heap.size := Or.inr fun e => by have := (h.own.lt _ e).1; omega
  have o4 := o3.kept g4 hne
  have o5 := ownsRow_below o4 h5
  have k34 : Keep5 w3 w4 := Keep5.map m3 g4
  have k36 : Keep5 w3 w6 := (k34.trans (Keep5.below h5)).trans (Keep5.row o5 g6)
  have m5 : MapIs w5 w.heap.size (i + 1) (setAt M s v) := m4.kept (h5.block _ m4.lt)
  have m6 : MapIs w6 w.heap.size (i + 1) (setAt M s v) := m5.kept (g6.block _ m5.lt fun e => by have := (h.own.lt _ e.symm).1; omega)
  refine ⟨hB6, m6, by simpa using own6, by simp [h.len], ?_, ?_, ?_, by have := h.la_le; omega⟩
  · intro k u hu
    unfold setAt at hu
    split at hu
    · cases hu; exact he.keep k36
    · exact ((h.elem k u hu).keep (Keep5.below h3)).keep k36
  · intro k
    rw [List.mem_append, List.mem_singleton, ← h.dom k]
    unfold setAt
    by_cases e : k = s <;> simp [e]
  · intro k hk
    rcases List.mem_append.1 hk with hk | hk
    · have := h.top k hk; omega
    · rw [List.mem_singleton] at hk; omega
end

theorem results_tmp4 {fn : Func} {r0 r1 r2 r3 : Nat} (h : fn.results = #[.tmp r0, .tmp r1, .tmp r2, .tmp r3]) (tmps : Array Value) (P : Program) (w : World) :
    (results fn tmps).run P w = .ok (.tuple #[tmps.getD r0 undef, tmps.getD r1 undef, tmps.getD r2 undef, tmps.getD r3 undef]) w := by
  simp [results, h]

theorem NodeInv.done {w wr w2 : World} {i : Nat} {M : Nat → Option Value} {kv kv' : Value} {ks ks' : List Nat} {la vsz base : Nat} {cells : Array Value} (h : NodeInv w i M kv ks la wr)
    (r1 : KeysAt w2 kv' ks') (r2 : ks'.Pairwise (· < ·)) (r3 : ∀ k, k ∈ ks' ↔ k ∈ ks) (r4 : ks'.length ≤ i) (r5 : wr.grownBy w2 kv.ownBlock)
    (hc : cells[8]? = some (.int .i64 vsz) ∧ cells[18]? = some (.map (some w.heap.size)) ∧ cells[29]? = some (.int .u64 la) ∧ cells[33]? = some (.int .u64 base)) :
    ∃ nb kv0 ks0 M0 la0, Ending.returned (.tuple #[.pointer (some ⟨w2.heap.size, 0, none⟩), kv', .map (some w.heap.size), .int .i64 (vsz : Nat)]) = .returned (.tuple #[.pointer (some ⟨nb, 0, none⟩), kv0, .map (some w.heap.size), .int .i64 (vsz : Nat)]) ∧
      Below w.heap.size w (w2.alloc (.cells cells 75)) ∧ Acc (w2.alloc (.cells cells 75)) w.heap.size i M0 ks0 la0 ∧ NodeAt (w2.alloc (.cells cells 75)) nb w.heap.size vsz la0 base ∧ KeysAt (w2.alloc (.cells cells 75)) kv0 ks0 ∧ ks0.length ≤ i := by
  have hB2 : Below w.heap.size w w2 := h.below.grown r5 h.below.size (fun k hk => by have := (h.own.lt k hk).1; omega)
  have hBa := Below.ofAlloc w2 (.cells cells 75)
  have hA : Acc w2 w.heap.size i M ks' la :=
    ⟨h.map.kept (r5.block _ h.map.lt fun e => by have := (h.own.lt _ e.symm).1; omega), fun k v hv => (h.elem k v hv).keep (Keep5.row h.own r5), r2, fun k => (h.dom k).trans (r3 k).symm, fun k hk => h.top k ((r3 k).1 hk), h.la_le⟩
  exact ⟨w2.heap.size, kv', ks', M, la, rfl, hB2.more hB2.size hBa, hA.below hBa, ⟨cells, heap_alloc_new w2 _, hc⟩, r1.below hBa, r4⟩

set_option maxHeartbeats 1000000 in
set_option maxRecDepth 100000 in
theorem node64 (sb so n cap : Nat) (S L : Nat → Nat) (R : Nat → Int) (T : Nat → ByteArray) (base vs : Nat) (ad : Option Addr) (w : World) (hn : n ≤ 1024) (had : 0 < n → ad = some ⟨sb, so, none⟩) (hsb : 0 < n → sb < w.heap.size)
    (hE : Ents w sb so n S L R T) (hb : base < 65536) (hvs : vs < 4294967296) :
    Calls Yba.prog 5 #[.int .u16 base, .int .u32 vs, .slice ad n cap] w fun e w' => ∃ nb kv ks M la, e = .returned (.tuple #[.pointer (some ⟨nb, 0, none⟩), kv, .map (some w.heap.size), .int .i64 ((vs % 1048577 : Nat))]) ∧
      Below w.heap.size w w' ∧ Acc w' w.heap.size n M ks la ∧ NodeAt w' nb w.heap.size (vs % 1048577) la base ∧ KeysAt w' kv ks ∧ ks.length ≤ n := by
  obtain ⟨i23, hi, hz0, hz1, hz2⟩ := info_parts Yba.info23
  have hmm := @run_makeMap Yba.prog
  have HE : Hid (Ents w sb so n S L R T) := hE
  clear hE
  go_enter Yba.func5, Yba.ntmps5
  go_wp2
  go_loopw [11, 12, 22] (fun kv v12 v22 wr => ∃ (i la : Nat) (ks : List Nat) (M : Nat → Option Value), v22 = .int .i64 i ∧ i ≤ n ∧ v12 = .int .u64 la ∧ Hid (NodeInv w i M kv ks la wr)) (fun _ _ v22 _ => n - (intOf v22).toNat)
  case atStart =>
    refine ⟨0, 0, [], fun _ => none, rfl, Nat.zero_le _, rfl, ?_⟩
    exact ⟨Below.ofAlloc _ _, MapIs.made w, World.ownsRow_nil _ _ _ _, rfl, (fun k v h => by cases h), (fun k => by simp), (fun k h => by cases h), by omega⟩
  case round =>
    obtain ⟨i, la, ks, M, rfl, hin, rfl, HI⟩ := hrel
    by_cases hi1 : i < n
    · have hiz : (i : Int) < n := by omega
      obtain ⟨hS, hL, c0, c1, c2, c3⟩ := HE.out i hi1
      have hsb1 := hsb (by omega)
      obtain rfl := had (by omega)
      have hbk := HI.out.below.block sb hsb1
      rw [← World.cell?_of_block (a := ⟨sb, _, none⟩) hbk] at c0 c1 c2 c3
      have hmk := run_make_row' (P := Yba.prog) 34 5 (.int .u8 0) 1 Yba.underlying34 Yba.info5 rfl .i64 .i64 (L i) (by omega) (by omega)
      obtain ⟨s, hs⟩ : ∃ s, S i = s := ⟨_, rfl⟩
      obtain ⟨l, hl⟩ : ∃ l, L i = l := ⟨_, rfl⟩
      obtain ⟨r, hr⟩ : ∃ r, R i = r := ⟨_, rfl⟩
      obtain ⟨t, ht⟩ : ∃ t, T i = t := ⟨_, rfl⟩
      rw [hs] at c0 hS
      rw [hl] at c3 hL hmk
      rw [hr] at c1
      rw [ht] at c2
      have hla := HI.out.la_le
      clear hbk hs hl hr ht
      have hB2 : Below wr.heap.size wr ((wr.alloc (.cells #[.int .u16 s, .int .u64 r, .string t, .int .u16 l] 85)).alloc (.cells (madeCells #[.int .u8 0] l) 5)) :=
        (Below.ofAlloc wr _).more (by simp) (Below.ofAlloc _ _)
      have hsw : w.heap.size ≤ wr.heap.size := HI.out.below.size
      by_cases hl0 : l = 0
      · have hl0z : ¬ (0 < l) := by omega
        have hm3 := HI.out.map.kept (hB2.block _ HI.out.map.lt)
        have ho3 := ownsRow_below HI.out.own hB2
        have he3 := elem_new (wr.alloc (.cells #[.int .u16 s, .int .u64 r, .string t, .int .u16 l] 85)) r t l hL (s := wr.heap.size + 1) (by simp)
        have HH : Hid (_ ∧ _) := And.intro hB2 he3
        have HO : Hid _ := ho3
        clear hB2 he3 hl0 ho3
        go_wp2_with (at_mapUpdate; refine wpList_put _ rfl _ _ _ rfl w.heap.size i M rfl hm3 (by unfold maxLen; omega) s (by omega) _ rfl rfl ?_)
        intro w4 m4 g4
        have o4 := World.ownsRow.kept HO.out g4 (Or.inr fun e => by have := (HI.out.own.lt _ e).1; omega)
        have hs4 : wr.heap.size ≤ w4.heap.size := Nat.le_trans HH.out.1.size g4.size
        have G4 : Hid (_ ∧ _) := And.intro m4 g4
        clear m4 g4 hm3 HO
        go_wp2_with (at_builtin; refine wpList_append_own _ rfl _ _ 27 rfl (w.heap.size + 1) 23 i23 _ 1 8 Yba.underlying27 hi hz0 hz1 hz2 rfl (by decide) _ _ _ rfl (o4.alloc _) ⟨w4.heap.size, 0, none⟩ 1 1 [.int .u64 s] rfl rfl (cell_one_new _ _ _) (by simp [Value.oneCell']) (by unfold maxLen; omega) (by omega) (by simp; omega) ?_)
        intro kv' w6 own6 g6 _
        have HN := HI.out.step hS HH.out.1 HH.out.2 G4.out.1 G4.out.2 (Below.ofAlloc w4 _) own6 g6
        have HN' : Hid _ := HN
        clear HN own6 g6 o4
        go_wp2
        go_roundw
        case rel => exact ⟨i + 1, max la s, ks ++ [s], _, by go_num, by omega, by congr 1; omega, HN'⟩
        case measure => simp [intOf]; omega
      · have hl0z : 0 < l := by omega
        have hB3 := fun x => hB2.setNew (s := wr.heap.size + 1) (by omega) 0 (.int .u8 x)
        have hm3 := fun x => HI.out.map.kept ((hB3 x).block _ HI.out.map.lt)
        have ho3 := fun x => ownsRow_below HI.out.own (hB3 x)
        have he3 := elem_new1 (wr.alloc (.cells #[.int .u16 s, .int .u64 r, .string t, .int .u16 l] 85)) r t l hL (s := wr.heap.size + 1) (by simp)
        have hbE : ((wr.alloc (.cells #[.int .u16 s, .int .u64 r, .string t, .int .u16 l] 85)).alloc (.cells (madeCells #[.int .u8 0] l) 5)).heap[wr.heap.size]? = some (.cells #[.int .u16 s, .int .u64 r, .string t, .int .u16 l] 85 (0, 0)) :=
          (heap_alloc_old _ _ (by simp)).trans (heap_alloc_new wr _)
        have hbV : ((wr.alloc (.cells #[.int .u16 s, .int .u64 r, .string t, .int .u16 l] 85)).alloc (.cells (madeCells #[.int .u8 0] l) 5)).heap[wr.heap.size + 1]? = some (.cells (madeCells #[.int .u8 0] l) 5 (0, 0)) := by
          have := heap_alloc_new (wr.alloc (.cells #[.int .u16 s, .int .u64 r, .string t, .int .u16 l] 85)) (.cells (madeCells #[.int .u8 0] l) 5)
          simpa using this
        generalize hW : (wr.alloc (.cells #[.int .u16 s, .int .u64 r, .string t, .int .u16 l] 85)).alloc (.cells (madeCells #[.int .u8 0] l) 5) = W2 at *
        have v0 : W2.cell? ⟨wr.heap.size + 1, 0, none⟩ = some (.int .u8 0) := by
          rw [cell_of_row _ _ 0 _ _ _ hbV, ← Array.getElem?_toList, toList_madeCells_one, List.getElem?_replicate, if_pos hl0z]
        have vf : W2.frozen? ⟨wr.heap.size + 1, 0, none⟩ = false := frozen_of_row _ _ 0 _ _ hbV
        have e3 : ∀ x j, (W2.setCell ⟨wr.heap.size + 1, 0, none⟩ (.int .u8 x)).cell? ⟨wr.heap.size, j, none⟩ = #[Value.int .u16 s, .int .u64 r, .string t, .int .u16 l][j]? := fun x j => by
          rw [World.cell?_of_block (w := W2) (heap_setCell_other W2 ⟨wr.heap.size + 1, 0, none⟩ wr.heap.size _ (by simp)), cell_of_row _ _ j _ _ _ hbE]
        have e30 := fun x => e3 x 0
        have e31 := fun x => e3 x 1
        have e32 := fun x => e3 x 2
        have HH : Hid (∀ x, Below wr.heap.size wr (W2.setCell ⟨wr.heap.size + 1, 0, none⟩ (.int .u8 x))) := hB3
        have HH2 : Hid (∀ x : Int, (0 ≤ x ∧ x < 256) → Elem (W2.setCell ⟨wr.heap.size + 1, 0, none⟩ (.int .u8 x)) (.agg #[.int .u64 r, .string t, .slice (some ⟨wr.heap.size + 1, 0, none⟩) l l])) := fun x hx => he3 x hx
        have HM : Hid (∀ x, MapIs (W2.setCell ⟨wr.heap.size + 1, 0, none⟩ (.int .u8 x)) w.heap.size i M) := hm3
        have HO : Hid (∀ x, (W2.setCell ⟨wr.heap.size + 1, 0, none⟩ (.int .u8 x)).ownsRow (w.heap.size + 1) 23 1 u11 i (ks.map fun (k : Nat) => Value.int .u64 k)) := ho3
        clear hB2 he3 hl0 ho3 hm3 hbE hbV hB3 e3
        simp only [List.getElem?_toArray, List.getElem?_cons_succ, List.getElem?_cons_zero] at e30 e31 e32
        go_wp2_with (at_mapUpdate; refine wpList_put _ rfl _ _ _ rfl w.heap.size i M rfl (HM.out _) (by unfold maxLen; omega) s (by omega) _ rfl rfl ?_)
        intro w4 m4 g4
        have o4 := World.ownsRow.kept (HO.out _) g4 (Or.inr fun e => by have := (HI.out.own.lt _ e).1; omega)
        have hs4 : wr.heap.size ≤ w4.heap.size := Nat.le_trans (HH.out _).size g4.size
        have G4 : Hid (_ ∧ _) := And.intro m4 g4
        clear m4 g4 HO HM e30 e31 e32 v0 vf
        go_wp2_with (at_builtin; refine wpList_append_own _ rfl _ _ 27 rfl (w.heap.size + 1) 23 i23 _ 1 8 Yba.underlying27 hi hz0 hz1 hz2 rfl (by decide) _ _ _ rfl (o4.alloc _) ⟨w4.heap.size, 0, none⟩ 1 1 [.int .u64 s] rfl rfl (cell_one_new _ _ _) (by simp [Value.oneCell']) (by unfold maxLen; omega) (by omega) (by simp; omega) ?_)
        intro kv' w6 own6 g6 _
        have HN := HI.out.step hS (HH.out _) (HH2.out _ (by omega)) G4.out.1 G4.out.2 (Below.ofAlloc w4 _) own6 g6
        have HN' : Hid _ := HN
        clear HN own6 g6 o4
        go_wp2
        go_roundw
        case rel => exact ⟨i + 1, max la s, ks ++ [s], _, by go_num, by omega, by congr 1; omega, HN'⟩
        case measure => simp [intOf]; omega
    · have hex : ¬ (i : Int) < n := by omega
      have hne : i = n := by omega
      subst hne
      obtain ⟨vsz, hvz⟩ : ∃ vsz : Nat, vs % 1048577 = vsz := ⟨_, rfl⟩
      have hvzz : (vs : Int) % 1048577 = (vsz : Int) := by omega
      obtain ⟨cells, hbd, hb0, hb1, hb2, hb3, hb4⟩ := built75 vsz la base w.heap.size
      have HB : Hid (Yba.prog.built 75 (nodeParts vsz la base w.heap.size) = some cells) := hbd
      clear hbd
      have HC : Hid (cells.size = 75 ∧ cells[8]? = some (.int .i64 vsz) ∧ cells[18]? = some (.map (some w.heap.size)) ∧ cells[29]? = some (.int .u64 la) ∧ cells[33]? = some (.int .u64 base)) := ⟨hb0, hb1, hb2, hb3, hb4⟩
      clear hb0 hb1 hb2 hb3 hb4
      have hcS := sortKeys HI.out.own HI.out.len hn
      have hcC := fun w' (h : MidRow wr (w.heap.size + 1) u11 i ks w') => compactKeys h HI.out.len hn
      go_wp2_with (first
        | (go_at_call 10; refine hcS.mono ?_; rintro e w1 ⟨rfl, hw1⟩)
        | (go_at_call 11; refine (hcC _ hw1).mono ?_; rintro e w2 ⟨kv', ks', rfl, r1, r2, r3, r4, r5⟩))
      refine wp_build_cells (cells := cells) 75 _ rfl (nodeParts vsz la base w.heap.size) ?he HB.out ?_
      case he =>
        simp only [Act.eval, List.map_toArray, List.map_cons, List.map_nil]
        rfl
      go_wp2
      (try simp only [Exit.inBlock, Exit.then]); refine bodyPost_ret (results_tmp4 rfl _ _ _) rfl ?_
      rw [hvz]
      exact NodeInv.done HI.out r1 r2 r3 r4 r5 HC.out.2
end Go.Proofs.Ybulkcxho
