/-
  Node.report: one batch.
-/
import Derived.Test.YbulkcxhoAcc
import Derived.OwnWalk
namespace Go.Proofs.Ybulkcxho
open Go.RowKit
set_option linter.unusedSimpArgs false
set_option linter.unusedVariables false

theorem Yba.info80 : (Yba.prog.info? 80).map (fun i => (i.zero, i.size, i.bytes)) = some (some (.agg #[.int .u64 0, .int .u64 0, .string ⟨#[]⟩, .slice none 0 0]), 4, 56) := by kernel_rfl

/-- What the loop of report carries. -/
structure RepInv (w : World) (mb nb n : Nat) (M : Nat → Option Value) (ks : List Nat) (la vsz base j0 j : Nat) (T : List Nat) (b : Nat) (rv : Value) (wr : World) : Prop where
  below : Below w.heap.size w wr
  bat : BatAt wr w.heap.size T.length b
  own : wr.ownsRow (w.heap.size + 1) 80 4 rv T.length (T.flatMap (rep M))
  run : chunk (cnt M vsz) (from_ ks j0) 0 0 = (T ++ (chunk (cnt M vsz) (from_ ks j) T.length b).1, (chunk (cnt M vsz) (from_ ks j) T.length b).2)
  len : T.length ≤ 64
  byt : b ≤ 2097152

theorem Acc.below {w wr : World} {mb n : Nat} {M : Nat → Option Value} {ks : List Nat} {la : Nat} (h : Acc w mb n M ks la) (hB : Below w.heap.size w wr) : Acc wr mb n M ks la := h.keep hB.block
theorem NodeAt.below {w wr : World} {nb mb vsz la base : Nat} (h : NodeAt w nb mb vsz la base) (hB : Below w.heap.size w wr) : NodeAt wr nb mb vsz la base := h.keep (hB.block _ h.lt)
theorem _root_.Go.RowKit.Below.more {B : Nat} {w a b : World} (h : Below B w a) (hB : B ≤ a.heap.size) (k : Below a.heap.size a b) : Below B w b :=
  ⟨k.os.trans h.os, k.tape.trans h.tape, k.output.trans h.output, Nat.le_trans h.size k.size, fun j hj => (k.block j (Nat.lt_of_lt_of_le hj hB)).trans (h.block j hj)⟩
theorem _root_.Go.RowKit.Below.ofAlloc (w : World) (o : Obj) : Below w.heap.size w (w.alloc o) := ⟨rfl, rfl, rfl, by simp, fun k hk => heap_alloc_old w o hk⟩
theorem ownsRow_below {w w' : World} {base e size : Nat} {v : Value} {n : Nat} {xs : List Value} (h : w.ownsRow base e size v n xs) (hB : Below w.heap.size w w') : w'.ownsRow base e size v n xs :=
  h.kept (row := none) ⟨hB.os, hB.tape, hB.output, hB.size, fun k hk _ => hB.block k hk⟩ (by cases hv : v.ownBlock <;> simp)
theorem BatAt.lt {w : World} {b s t : Nat} (h : BatAt w b s t) : b < w.heap.size := (Array.getElem?_eq_some_iff.1 h).1

section
variable {w wr : World} {mb nb n : Nat} {M : Nat → Option Value} {ks : List Nat} {la vsz base j0 j : Nat} {T : List Nat} {b : Nat} {rv : Value}

theorem RepInv.miss (h : RepInv w mb nb n M ks la vsz base j0 j T b rv wr) (hA : Acc w mb n M ks la) (hM : M j = none) (o : Obj) : RepInv w mb nb n M ks la vsz base j0 (j + 1) T b rv (wr.alloc o) := by
  have e : from_ ks j = from_ ks (j + 1) := from_miss fun hm => by have := (hA.dom j).2 hm; rw [hM] at this; cases this
  exact ⟨h.below.more h.below.size (Below.ofAlloc _ _), by unfold BatAt; rw [heap_alloc_old _ _ h.bat.lt]; exact h.bat, h.own.alloc o, by rw [h.run, e], h.len, h.byt⟩
theorem RepInv.over (h : RepInv w mb nb n M ks la vsz base j0 j T b rv wr) (hA : Acc w mb n M ks la) (hj : la < j) : chunk (cnt M vsz) (from_ ks j0) 0 0 = (T, []) := by
  rw [h.run, from_none fun k hk => Nat.lt_of_le_of_lt (hA.top k hk) hj]
  simp [chunk]
theorem RepInv.hit (h : RepInv w mb nb n M ks la vsz base j0 j T b rv wr) (hA : Acc w mb n M ks la) {v : Value} (hM : M j = some v) : from_ ks j = j :: from_ ks (j + 1) :=
  from_hit hA.asc ((hA.dom j).1 (by rw [hM]; rfl))
theorem RepInv.full (h : RepInv w mb nb n M ks la vsz base j0 j T b rv wr) (hA : Acc w mb n M ks la) {v : Value} (hM : M j = some v) (hf : 64 ≤ T.length ∨ 1048576 ≤ b) : chunk (cnt M vsz) (from_ ks j0) 0 0 = (T, j :: from_ ks (j + 1)) := by
  rw [h.run, h.hit hA hM, chunk_full _ _ _ hf]
  simp
theorem cnt_le {x : Nat} (hv : vsz ≤ 1048576) (hx : x ≤ 65535) : sz vsz x ≤ 1048576 := by unfold sz; split <;> omega

theorem RepInv.take (h : RepInv w mb nb n M ks la vsz base j0 j T b rv wr) (hA : Acc w mb n M ks la) (hv : vsz ≤ 1048576) {v : Value} (hM : M j = some v) (hl : lenOf v ≤ 65535) (hf : ¬ (64 ≤ T.length ∨ 1048576 ≤ b))
    {w1 w2 w3 : World} {rv' : Value} (h1 : Below wr.heap.size wr w1) (own2 : w2.ownsRow (w.heap.size + 1) 80 4 rv' (T.length + 1) (T.flatMap (rep M) ++ rep M j)) (g2 : w1.grownBy w2 rv.ownBlock)
    (b3 : BatAt w3 w.heap.size (T.length + 1) (b + sz vsz (lenOf v))) (g3 : w2.grownBy w3 (some w.heap.size)) : RepInv w mb nb n M ks la vsz base j0 (j + 1) (T ++ [j]) (b + sz vsz (lenOf v)) rv' w3 := by
  have ec : cnt M vsz j = sz vsz (lenOf v) := by simp [cnt, hM]
  have hz := cnt_le hv hl
  have hB1 := h.below.more h.below.size h1
  have hB2 : Below w.heap.size w w2 := hB1.grown g2 hB1.size (fun k hk => by have := (h.own.lt k hk).1; omega)
  have hB3 : Below w.heap.size w w3 := hB2.grown g3 hB2.size (fun k hk => by cases hk; exact Nat.le_refl _)
  refine ⟨hB3, by simpa using b3, ?_, ?_, by simp; omega, by omega⟩
  · have := own2.kept g3 (Or.inr fun e => by have := (own2.lt _ e).1; omega)
    simpa using this
  · rw [h.run, h.hit hA hM, chunk_take _ _ _ hf, ec]
    simp
end

theorem cells_new (w : World) (cs : List Value) (t : TypeId) {s : Nat} (hs : w.heap.size = s) : ∀ j u, cs[j]? = some u → (w.alloc (.cells cs.toArray t)).cell? ((⟨s, 0, none⟩ : Addr).add j) = some u := by
  intro j u hu
  subst hs
  rw [Addr.add_lit, Nat.zero_add, cell_of_row _ _ _ _ _ _ (heap_alloc_new w _)]
  simpa using hu

set_option maxHeartbeats 1000000 in
set_option maxRecDepth 100000 in
theorem report64 (nb mb n : Nat) (M : Nat → Option Value) (ks : List Nat) (la vsz base from0 : Nat) (w : World) (hA : Acc w mb n M ks la) (hN : NodeAt w nb mb vsz la base) (hv : vsz ≤ 1048576) (hb : base ≤ 65535) (hf : from0 < 18446744073709551616) :
    Calls Yba.prog 7 #[.pointer (some ⟨nb, 0, none⟩), .int .u64 from0] w fun e w' => ∃ rv rest, e = .returned (.tuple #[rv, .int .u64 (rest : Nat)]) ∧
      rest = (chunk (cnt M vsz) (from_ ks (max from0 (base + 1))) 0 0).2.headD 0 ∧
      w'.ownsRow (w.heap.size + 1) 80 4 rv (chunk (cnt M vsz) (from_ ks (max from0 (base + 1))) 0 0).1.length ((chunk (cnt M vsz) (from_ ks (max from0 (base + 1))) 0 0).1.flatMap (rep M)) ∧
      Below w.heap.size w w' := by
  have HA : Hid (Acc w mb n M ks la) := hA
  have HN : Hid (NodeAt w nb mb vsz la base) := hN
  have hla := hA.la_le
  have hlt := hN.lt
  have c33 : (w.alloc (.cells #[.int .i64 0, .int .i64 0] 89)).cell? ⟨nb, 33, none⟩ = some (.int .u64 base) := (hN.below (Below.ofAlloc _ _)).cells.2.2.2
  clear hA hN
  obtain ⟨j0, hj0⟩ : ∃ j0 : Nat, j0 = max from0 (base + 1) := ⟨_, rfl⟩
  rw [← hj0]
  obtain ⟨i0, hi, hz0, hz1, hz2⟩ := info_parts Yba.info80
  go_enter Yba.func7, Yba.ntmps7
  go_wp2
  go_loopw [4, 7] (fun rv v7 wr => ∃ (j b : Nat) (T : List Nat), v7 = .int .u64 j ∧ j0 ≤ j ∧ Hid (RepInv w mb nb n M ks la vsz base j0 j T b rv wr)) (fun _ v7 _ => 65536 - (intOf v7).toNat)
  case atStart =>
    refine ⟨j0, 0, [], by rw [hj0]; congr 1; omega, Nat.le_refl _, ?_⟩
    exact ⟨Below.ofAlloc _ _, heap_alloc_new w _, World.ownsRow_nil _ _ _ _, by simp, by simp, by omega⟩
  case round =>
    obtain ⟨j, b, T, rfl, hj, HI⟩ := hrel
    clear c33
    have hA := HA.out.below HI.out.below
    have hN := HN.out.below HI.out.below
    obtain ⟨_, c18, c29, _⟩ := hN.cells
    by_cases hjl : j ≤ la
    · have hjlz : (j : Int) ≤ la := by omega
      have hlk := hA.map.look2 (Yba.zeroValue36 _) (k := j) (by omega)
      cases hM : M j with
      | none =>
        rw [hM] at hlk
        dsimp only [Option.getD, Option.isSome] at hlk
        clear hA hN
        go_wp2
        go_roundw
        case rel => exact ⟨j + 1, b, T, by go_num, by omega, HI.out.miss HA.out hM _⟩
        case measure => simp [intOf]; omega
      | some v =>
        rw [hM] at hlk
        dsimp only [Option.getD, Option.isSome] at hlk
        obtain ⟨r, t, g, l, rfl, hl, _⟩ := hA.elem j v hM
        have hbl := HI.out.bat.lt
        have hbw : BatAt (wr.alloc (.cells #[.int .u64 r, .string t, .slice (some ⟨g, 0, none⟩) l l] 36)) w.heap.size T.length b := by unfold BatAt; rw [heap_alloc_old _ _ hbl]; exact HI.out.bat
        have b0 := hbw.c0
        have b1 := hbw.c1
        clear hbw hA hN
        have hfc := fun w => full64 T.length b w
        cases hfull : (decide (64 ≤ T.length) || decide (1048576 ≤ b)) with
        | true =>
          rw [hfull] at hfc
          have hfb : 64 ≤ T.length ∨ 1048576 ≤ b := by simpa using hfull
          go_wp2_with (go_at_call 12; refine (hfc _).mono ?_; rintro e w' ⟨rfl, rfl⟩)
          go_ret2
          have he := HI.out.full HA.out hM hfb
          rw [he]
          exact ⟨_, j, rfl, rfl, (HI.out.own.alloc _).alloc _, (HI.out.below.more HI.out.below.size (Below.ofAlloc _ _)).more (Nat.le_trans HI.out.below.size (by simp)) (Below.ofAlloc _ _)⟩
        | false =>
          rw [hfull] at hfc
          have hfb : ¬ (64 ≤ T.length ∨ 1048576 ≤ b) := by simpa using hfull
          have hTl := HI.out.len
          have hBy := HI.out.byt
          have hsz : w.heap.size ≤ wr.heap.size := HI.out.below.size
          go_wp2_with (first
            | (go_at_call 12; refine (hfc _).mono ?_; rintro e w' ⟨rfl, rfl⟩)
            | (at_builtin; refine wpList_append_own _ rfl _ _ 76 rfl (w.heap.size + 1) 80 i0 _ 4 56 Yba.underlying76 hi hz0 hz1 hz2 rfl (by decide) _ _ _ rfl (((HI.out.own.alloc _).alloc _).alloc _) ⟨wr.heap.size + 1 + 1, 0, none⟩ 1 1 [.int .u64 j, .int .u64 r, .string t, .slice (some ⟨g, 0, none⟩) l l] rfl rfl (cells_new _ [.int .u64 j, .int .u64 r, .string t, .slice (some ⟨g, 0, none⟩) l l] _ (by simp)) (by simp [Value.oneCell']) (by unfold maxLen; omega) (by omega) (by simp; omega) ?_))
          intro rv' w2 own2 g2 _
          have hB1 : Below wr.heap.size wr (((wr.alloc (.cells #[.int .u64 r, .string t, .slice (some ⟨g, 0, none⟩) l l] 36)).alloc (.cells #[.int .i64 T.length, .int .i64 b] 89)).alloc (.cells #[.int .u64 j, .int .u64 r, .string t, .slice (some ⟨g, 0, none⟩) l l] 80)) :=
            ((Below.ofAlloc wr _).more (by simp) (Below.ofAlloc _ _)).more (by simp; omega) (Below.ofAlloc _ _)
          have hown := HI.out.own
          have c2 : w2.cell? ⟨wr.heap.size, 2, none⟩ = some (.slice (some ⟨g, 0, none⟩) l l) := by
            refine g2.cell ?_ (fun e => ?_)
            · have h0 : ((wr.alloc (.cells #[.int .u64 r, .string t, .slice (some ⟨g, 0, none⟩) l l] 36)).alloc (.cells #[.int .i64 T.length, .int .i64 b] 89)).heap[wr.heap.size]? = _ := (heap_alloc_old _ _ (by simp)).trans (heap_alloc_new wr _)
              rw [cell_of_row _ _ 2 _ _ _ ((heap_alloc_old _ _ (by simp; omega)).trans h0)]
              rfl
            · exact absurd (hown.lt _ e.symm).2 (Nat.lt_irrefl _)
          have hB2 : Below w.heap.size w w2 := (HI.out.below.more HI.out.below.size hB1).grown g2 (Nat.le_trans HI.out.below.size hB1.size) (fun k hk => by have := (hown.lt k hk).1; omega)
          have hN2 := HN.out.below hB2
          have hBt2 : BatAt w2 w.heap.size T.length b := by
            unfold BatAt
            rw [g2.block _ (Nat.lt_of_lt_of_le hbl hB1.size) (fun e => by have := (hown.lt _ e.symm).1; omega), hB1.block _ hbl]
            exact HI.out.bat
          have G2 : Hid (_ ∧ _) := And.intro own2 g2
          have HB1 : Hid _ := hB1
          have hzl := cnt_le (x := l) hv hl
          clear own2 g2 hB1 hown hB2
          go_wp2_with (first
            | (go_at_call 14; refine (size64 nb mb vsz la base _ _ _ _ hN2).mono ?_; rintro e w' ⟨rfl, rfl⟩)
            | (go_at_call 13; refine (add64 w.heap.size T.length b (sz vsz l) (by omega) (by omega) (by omega) _ hBt2).mono ?_; rintro e w3 ⟨rfl, hb3, hg3⟩))
          go_roundw
          case rel =>
            refine ⟨j + 1, b + sz vsz l, T ++ [j], by go_num, by omega, ?_⟩
            refine HI.out.take HA.out hv hM hl hfb HB1.out ?_ G2.out.2 hb3 hg3
            have e : rep M j = [.int .u64 j, .int .u64 r, .string t, .slice (some ⟨g, 0, none⟩) l l] := by simp [rep, hM]
            rw [e]
            exact G2.out.1
          case measure => simp [intOf]; omega
    · have hjlz : decide ((j : Int) ≤ la) = false := decide_eq_false (by omega)
      clear hA hN
      go_wp2
      go_ret2
      have he := HI.out.over HA.out (by omega)
      rw [he]
      exact ⟨_, 0, rfl, rfl, HI.out.own, HI.out.below⟩
end Go.Proofs.Ybulkcxho
