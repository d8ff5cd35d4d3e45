import Derived.Test.YbulkcxjeOpen
namespace Go.Proofs.Ybulkcxje
open Go.RowKit
set_option linter.unusedSimpArgs false

theorem cellOf_tail (cs : List (Int × Int)) (j : Nat) : cellOf cs.tail j = cellOf cs (j + 2) := by
  simp only [cellOf, List.getElem?_tail]
  rw [show (j + 2) / 2 = j / 2 + 1 by omega, show (j + 2) % 2 = j % 2 by omega]

theorem Own.tail {w : World} {base g off n cap : Nat} {cs : List (Int × Int)} (h : Own w base (.slice (some ⟨g, off, none⟩) (n + 1) cap) cs) (hl : cs.length = n + 1) : Own w base (.slice (some ⟨g, off + 2, none⟩) n (cap - 1)) cs.tail := by
  have hlt : cs.tail.length = n := by simp [hl]
  rcases h with ⟨h, _⟩ | ⟨g', off', cap', cur, h, hb, hg, h3, h4, h5, hc⟩
  · simp at h
  · simp only [Value.slice.injEq, Option.some.injEq, Addr.mk.injEq, and_true] at h
    obtain ⟨⟨rfl, rfl⟩, _, rfl⟩ := h
    refine .inr ⟨g, off + 2, cap - 1, cur, by rw [hlt], hb, hg, by omega, by omega, by omega, fun j hj => ?_⟩
    rw [cellOf_tail, show off + 2 + j = off + (j + 2) by omega]
    exact hc (j + 2) (by omega)

theorem Own.addr {w : World} {base n cap : Nat} {ao : Option Addr} {cs : List (Int × Int)} (h : Own w base (.slice ao n cap) cs) (hn : 0 < n) : ∃ g off, ao = some ⟨g, off, none⟩ ∧ n ≤ cap ∧ cap ≤ maxLen ∧ g < w.heap.size := by
  rcases h with ⟨h, _⟩ | ⟨g', off', cap', cur, h, hb, hg, h3, h4, h5, hc⟩
  · simp at h; omega
  · obtain ⟨rfl, rfl, rfl⟩ : ao = some ⟨g', off', none⟩ ∧ n = cs.length ∧ cap = cap' := by simpa using h
    exact ⟨g', off', rfl, h3, h4, lt_of_block hg⟩

theorem Mid.store {w w5 : World} {bi base b7 : Nat} {m0 m1 : Int} {v v5 v6 : Value} {cs5 cs6 : List (Int × Int)} {x : Int × Int} (hM : Mid w w5 bi base m0 m1 v v5 cs5 b7 x) (hown : Own w5 base v6 cs6) (hat : v6.ownBlock = v5.ownBlock) :
    Mid w (w5.setCell ⟨bi, 2, none⟩ v6) bi base m0 m1 v v6 cs6 b7 x := by
  have hne : b7 ≠ bi := by have := hM.hb7; have := hM.hbi; omega
  refine ⟨hM.inb.put v6, hown.keep fun k hk => Below.heap_setCell _ _ _ _ (fun e => ?_), (Below.heap_setCell _ _ _ _ hne).trans hM.cb, hM.up.set _ _ (.inl rfl), hat.trans hM.at5, hM.hb7, hM.hv, hM.hbs, hM.hbi⟩
  have e' : k = bi := e
  subst e'
  exact hown.ne hM.inb hk

set_option maxHeartbeats 400000 in
set_option maxRecDepth 100000 in
/-- Not found, the table full: the first goes. -/
theorem open_full (bi base cap : Nat) (m0 m1 inc seq : Int) (ao : Option Addr) (cs : List (Int × Int)) (w : World) (hin : InB w bi m0 m1 (.slice ao 8 cap)) (hown : Own w base (.slice ao 8 cap) cs) (hl : cs.length = 8) (hbase : base ≤ w.heap.size)
    (hnf : ∀ k, k < 8 → ((cs.getD k default).1 == inc) = false) :
    Calls Yba.prog 12 #[.pointer (some ⟨bi, 0, none⟩), .int .u64 inc, .int .u64 seq] w fun e w' => e = .returned (.bool false) ∧ Opened w w' bi base m0 m1 (.slice ao 8 cap) (cs.tail ++ [(inc, seq)]) := by
  obtain ⟨g, off, rfl, hcap, hcapm, hgw⟩ := hown.addr (by omega)
  unfold maxLen at hcapm
  have hc2 := hin.c2
  have hbi := hin.lt
  have HL : Hid (cs.length = 8) := hl
  have HT : Hid (cs.tail.length = 7) := by show _ = _; rw [List.length_tail, hl]
  have HNF : Hid (∀ k, k < 8 → ((cs.getD k default).1 == inc) = false) := hnf
  clear hl hnf
  go_enter Yba.func12, Yba.ntmps12
  go_wp2_with fail
  refine (index_n (some ⟨g, off, none⟩) cap 8 8 cs inc w.heap.size (w1 w inc seq) HL.out (hown.keep fun k hk => (w1_below w inc seq).block k (hown.lt k hk).2).reads (w1_c w inc seq) (by rw [w1_size]; omega) (by omega) (Nat.le_refl _) HNF.out (fun h => absurd h (by omega))).mono ?_
  rintro e w2 ⟨rfl, hb2⟩
  rw [if_neg (by omega)]
  have hM0 := mid_start hin hown hbase hb2
  have hM := hM0.store (hM0.own.tail HL.out) rfl
  have hc2 := hM0.inb.c2
  have hf2 := hM0.inb.fz 2
  have hcap1 : ¬ cap = 1 := by omega
  have hs2 : w.heap.size + 2 ≤ w2.heap.size := by have := hb2.size; rw [w1_size] at this; exact this
  have hs3 : w.heap.size + 2 ≤ (w2.setCell ⟨bi, 2, none⟩ (.slice (some ⟨g, off + 2, none⟩) 7 (cap - 1))).heap.size := by simpa [World.setCell] using hs2
  clear hb2 hin hown
  go_wp2_with fail
  clear hc2 hf2 hM0 hs2
  generalize w2.setCell ⟨bi, 2, none⟩ (.slice (some ⟨g, off + 2, none⟩) 7 (cap - 1)) = w3 at *
  have hc2 := hM.inb.c2
  have hf2 := hM.inb.fz 2
  have hbi2 := hM.inb.lt
  have hx0 : w3.cell? ⟨w.heap.size + 1, 0, none⟩ = some (.int .u64 inc) := by rw [cell_of_row _ _ 0 _ 82 (0, 0) hM.cb]; rfl
  have hx1 : w3.cell? ⟨w.heap.size + 1, 1, none⟩ = some (.int .u64 seq) := by rw [cell_of_row _ _ 1 _ 82 (0, 0) hM.cb]; rfl
  go_region_law (refine step_append_one rfl (.tmp 62) (.tmp 64) rfl base (.slice (some ⟨g, off + 2, none⟩) 7 (cap - 1)) cs.tail 7 HT.out (by simp [Act.eval, Act.put]) (by exact hM.own.later _) ⟨w3.heap.size, 0, none⟩ 1 (by simp [Act.eval, Act.put]) (inc, seq) (by simp [Addr.add]) (by simp [Addr.add]) (by omega) (by simp; omega) ?_; intro ao6 cap6 w6 hown6 hgrow6 hat6; have hO := opened_of hM hown6 hgrow6 hat6; have hc6 := hO.1.c2; have hf6 := hO.1.fz 2)
  all_goals go_wp2
  all_goals go_ret
  all_goals exact ⟨rfl, hO.2⟩

/-- The local c written over. -/
theorem Mid.word {w w5 : World} {bi base b7 : Nat} {m0 m1 : Int} {v v5 : Value} {cs5 : List (Int × Int)} {x : Int × Int} (hM : Mid w w5 bi base m0 m1 v v5 cs5 b7 x) (c : Int × Int) :
    Mid w ((w5.setCell ⟨b7, 0, none⟩ (.int .u64 c.1)).setCell ⟨b7, 1, none⟩ (.int .u64 c.2)) bi base m0 m1 v v5 cs5 b7 c := by
  have hb7 := hM.hb7
  have hbi := hM.hbi
  have hk : ∀ k, k ≠ b7 → ((w5.setCell ⟨b7, 0, none⟩ (.int .u64 c.1)).setCell ⟨b7, 1, none⟩ (.int .u64 c.2)).heap[k]? = w5.heap[k]? := fun k hk => (Below.heap_setCell _ _ _ _ hk).trans (Below.heap_setCell _ _ _ _ hk)
  refine ⟨hM.inb.keep (hk bi (by omega)), hM.own.keep fun k h => hk k ?_, ?_, (hM.up.set _ _ (.inr hb7)).set _ _ (.inr hb7), hM.at5, hb7, hM.hv, hM.hbs, hbi⟩
  · rw [hM.at5] at h
    have := hM.hv k h
    omega
  · have h1 := heap_setCell_same _ b7 0 _ 82 (.int .u64 c.1) hM.cb
    have h2 := heap_setCell_same _ b7 1 _ 82 (.int .u64 c.2) h1
    rw [h2]
    simp

/-- Behind writes to the row. -/
theorem Mid.grown {w w5 w6 : World} {bi base b7 : Nat} {m0 m1 : Int} {v v5 v6 : Value} {cs5 cs6 : List (Int × Int)} {x : Int × Int} (hM : Mid w w5 bi base m0 m1 v v5 cs5 b7 x) (hown : Own w6 base v6 cs6) (hg : w5.grownBy w6 v5.ownBlock) (hat : v6.ownBlock = v5.ownBlock) :
    InB w6 bi m0 m1 v5 ∧ w6.heap[b7]? = some (.cells #[.int .u64 x.1, .int .u64 x.2] 82 (0, 0)) ∧ Mid w (w6.setCell ⟨bi, 2, none⟩ v6) bi base m0 m1 v v6 cs6 b7 x := by
  have hb7 := hM.hb7
  have hbi := hM.hbi
  have hi6 : InB w6 bi m0 m1 v5 := hM.inb.keep (hg.block bi hM.inb.lt (fun e => hM.own.ne hM.inb e.symm))
  have hc6 : w6.heap[b7]? = some (.cells #[.int .u64 x.1, .int .u64 x.2] 82 (0, 0)) := (hg.block b7 (lt_of_block hM.cb) (fun e => by
    rw [hM.at5] at e
    have := hM.hv b7 e.symm
    omega)).trans hM.cb
  refine ⟨hi6, hc6, hi6.put v6, hown.keep fun k hk => Below.heap_setCell _ _ _ _ (fun e => ?_), (Below.heap_setCell _ _ _ _ (by show b7 ≠ bi; omega)).trans hc6, (hM.up.grown hg (.inl hM.at5)).set _ _ (.inl rfl), hat.trans hM.at5, hb7, hM.hv, hM.hbs, hbi⟩
  have e' : k = bi := e
  subst e'
  exact hown.ne hi6 hk

theorem Mid.word1 {w w5 : World} {bi base b7 : Nat} {m0 m1 : Int} {v v5 : Value} {cs5 : List (Int × Int)} {x : Int × Int} (hM : Mid w w5 bi base m0 m1 v v5 cs5 b7 x) (y : Int) :
    Mid w (w5.setCell ⟨b7, 1, none⟩ (.int .u64 y)) bi base m0 m1 v v5 cs5 b7 (x.1, y) := by
  have hb7 := hM.hb7
  have hbi := hM.hbi
  refine ⟨hM.inb.keep (Below.heap_setCell _ _ _ _ (by show bi ≠ b7; omega)), hM.own.keep fun k h => Below.heap_setCell _ _ _ _ ?_, ?_, hM.up.set _ _ (.inr hb7), hM.at5, hb7, hM.hv, hM.hbs, hbi⟩
  · rw [hM.at5] at h
    have := hM.hv k h
    show k ≠ b7
    omega
  · rw [heap_setCell_same _ b7 1 _ 82 (.int .u64 y) hM.cb]
    simp

set_option maxHeartbeats 400000 in
set_option maxRecDepth 100000 in
/-- Found. -/
theorem open_found (bi base n cap i : Nat) (m0 m1 inc seq : Int) (ao : Option Addr) (cs : List (Int × Int)) (w : World) (hin : InB w bi m0 m1 (.slice ao (n + 1) cap)) (hown : Own w base (.slice ao (n + 1) cap) cs) (hl : cs.length = n + 1) (hn : n ≤ 100000) (hbase : base ≤ w.heap.size)
    (hi : i ≤ n) (hbef : ∀ k, k < i → ((cs.getD k default).1 == inc) = false) (hat : ((cs.getD i default).1 == inc) = true) (c : Int × Int) (hce : cs.getD i default = c) :
    Calls Yba.prog 12 #[.pointer (some ⟨bi, 0, none⟩), .int .u64 inc, .int .u64 seq] w fun e w' => e = .returned (.bool (decide (c.2 < seq))) ∧ Opened w w' bi base m0 m1 (.slice ao (n + 1) cap) (cs.eraseIdx i ++ [(c.1, if c.2 < seq then seq else c.2)]) := by
  obtain ⟨g, off, rfl, hcap, hcapm, hgw⟩ := hown.addr (by omega)
  unfold maxLen at hcapm
  have hc2 := hin.c2
  have hbi := hin.lt
  have HL : Hid (cs.length = n + 1) := hl
  have HB : Hid (∀ k, k < i → ((cs.getD k default).1 == inc) = false) := hbef
  have HA : Hid (((cs.getD i default).1 == inc) = true) := hat
  have HC : Hid (cs.getD i default = c) := hce
  clear hl hbef hat hce
  go_enter Yba.func12, Yba.ntmps12
  go_wp2_with fail
  refine (index_n (some ⟨g, off, none⟩) cap i (n + 1) cs inc w.heap.size (w1 w inc seq) HL.out (hown.keep fun k hk => (w1_below w inc seq).block k (hown.lt k hk).2).reads (w1_c w inc seq) (by rw [w1_size]; omega) (by omega) (by omega) HB.out (fun _ => HA.out)).mono ?_
  rintro e w2 ⟨rfl, hb2⟩
  rw [if_pos (by omega)]
  have hM := mid_start hin hown hbase hb2
  have hc2 := hM.inb.c2
  have hf2 := hM.inb.fz 2
  have hbi2 := hM.inb.lt
  have hs2 : w.heap.size + 2 ≤ w2.heap.size := by have := hb2.size; rw [w1_size] at this; exact this
  have hk1 : w2.cell? ⟨g, off + i * 2, none⟩ = some (.int .u64 c.1) := by rw [hM.own.cells (by omega), cellOf_even (by have := HL.out; omega), HC.out]
  have hk2 : w2.cell? ⟨g, off + i * 2 + 1, none⟩ = some (.int .u64 c.2) := by rw [Nat.add_assoc, hM.own.cells (by omega), cellOf_odd (by have := HL.out; omega), HC.out]
  have hx0 : w2.cell? ⟨w.heap.size + 1, 0, none⟩ = some (.int .u64 inc) := by rw [cell_of_row _ _ 0 _ 82 (0, 0) hM.cb]; rfl
  have hx1 : w2.cell? ⟨w.heap.size + 1, 1, none⟩ = some (.int .u64 seq) := by rw [cell_of_row _ _ 1 _ 82 (0, 0) hM.cb]; rfl
  have hz0 : w2.frozen? ⟨w.heap.size + 1, 0, none⟩ = false := frozen_of_row _ _ _ _ 82 hM.cb
  have hz1 : w2.frozen? ⟨w.heap.size + 1, 1, none⟩ = false := frozen_of_row _ _ _ _ 82 hM.cb
  clear hb2 hin hown
  have hbb : ¬ bi = w.heap.size + 1 := by omega
  go_wp2_with fail
  have hMw := hM.word c
  refine (delete_any g off n cap i base cs _ HL.out hi (by omega) hMw.own).mono ?_
  rintro e w4 ⟨rfl, hown4, hgrow4⟩
  obtain ⟨hi4, hb4, hM4⟩ := hMw.grown hown4 hgrow4 rfl
  have hd2 := hi4.c2
  have he2 := hi4.fz 2
  have hy0 : w4.cell? ⟨w.heap.size + 1, 0, none⟩ = some (.int .u64 c.1) := by rw [cell_of_row _ _ 0 _ 82 (0, 0) hb4]; rfl
  have hy1 : w4.cell? ⟨w.heap.size + 1, 1, none⟩ = some (.int .u64 c.2) := by rw [cell_of_row _ _ 1 _ 82 (0, 0) hb4]; rfl
  have hyz : w4.frozen? ⟨w.heap.size + 1, 1, none⟩ = false := frozen_of_row _ _ _ _ 82 hb4
  have hs4 : w.heap.size + 2 ≤ w4.heap.size := by have := lt_of_block hb4; omega
  have HE : Hid ((cs.eraseIdx i).length = n) := by show _ = _; rw [List.length_eraseIdx, if_pos (by have := HL.out; omega)]; have := HL.out; omega
  clear hown4 hgrow4 hMw hM hk1 hk2 hx0 hx1 hz0 hz1 hc2 hf2 hi4 hb4 hbi2 hs2
  by_cases hgap : c.2 < seq
  · have hM5 := hM4.word1 seq
    have hs5 : w.heap.size + 2 ≤ ((w4.setCell ⟨bi, 2, none⟩ (.slice (some ⟨g, off, none⟩) n cap)).setCell ⟨w.heap.size + 1, 1, none⟩ (.int .u64 seq)).heap.size := by simpa [World.setCell] using hs4
    go_wp2_with fail
    clear hd2 he2 hy0 hy1 hyz hs4 hM4
    generalize (w4.setCell ⟨bi, 2, none⟩ (.slice (some ⟨g, off, none⟩) n cap)).setCell ⟨w.heap.size + 1, 1, none⟩ (.int .u64 seq) = w5 at *
    have hc2 := hM5.inb.c2
    have hf2 := hM5.inb.fz 2
    have hbi2 := hM5.inb.lt
    have hx0 : w5.cell? ⟨w.heap.size + 1, 0, none⟩ = some (.int .u64 c.1) := by rw [cell_of_row _ _ 0 _ 82 (0, 0) hM5.cb]; rfl
    have hx1 : w5.cell? ⟨w.heap.size + 1, 1, none⟩ = some (.int .u64 seq) := by rw [cell_of_row _ _ 1 _ 82 (0, 0) hM5.cb]; rfl
    go_region_law (refine step_append_one rfl (.tmp 62) (.tmp 64) rfl base (.slice (some ⟨g, off, none⟩) n cap) (cs.eraseIdx i) n HE.out (by simp [Act.eval, Act.put]) (by exact hM5.own.later _) ⟨w5.heap.size, 0, none⟩ 1 (by simp [Act.eval, Act.put]) (c.1, seq) (by simp [Addr.add]) (by simp [Addr.add]) (by omega) (by simp; omega) ?_; intro ao6 cap6 w6 hown6 hgrow6 hat6; have hO := opened_of hM5 hown6 hgrow6 hat6; have hc6 := hO.1.c2; have hf6 := hO.1.fz 2)
    all_goals go_wp2
    all_goals go_ret
    all_goals exact ⟨rfl, hO.2⟩
  · have hs5 : w.heap.size + 2 ≤ (w4.setCell ⟨bi, 2, none⟩ (.slice (some ⟨g, off, none⟩) n cap)).heap.size := by simpa [World.setCell] using hs4
    go_wp2_with fail
    clear hd2 he2 hy0 hy1 hyz hs4
    generalize w4.setCell ⟨bi, 2, none⟩ (.slice (some ⟨g, off, none⟩) n cap) = w5 at *
    have hc2 := hM4.inb.c2
    have hf2 := hM4.inb.fz 2
    have hbi2 := hM4.inb.lt
    have hx0 : w5.cell? ⟨w.heap.size + 1, 0, none⟩ = some (.int .u64 c.1) := by rw [cell_of_row _ _ 0 _ 82 (0, 0) hM4.cb]; rfl
    have hx1 : w5.cell? ⟨w.heap.size + 1, 1, none⟩ = some (.int .u64 c.2) := by rw [cell_of_row _ _ 1 _ 82 (0, 0) hM4.cb]; rfl
    go_region_law (refine step_append_one rfl (.tmp 62) (.tmp 64) rfl base (.slice (some ⟨g, off, none⟩) n cap) (cs.eraseIdx i) n HE.out (by simp [Act.eval, Act.put]) (by exact hM4.own.later _) ⟨w5.heap.size, 0, none⟩ 1 (by simp [Act.eval, Act.put]) (c.1, c.2) (by simp [Addr.add]) (by simp [Addr.add]) (by omega) (by simp; omega) ?_; intro ao6 cap6 w6 hown6 hgrow6 hat6; have hO := opened_of hM4 hown6 hgrow6 hat6; have hc6 := hO.1.c2; have hf6 := hO.1.fz 2)
    all_goals go_wp2
    all_goals go_ret
    all_goals exact ⟨rfl, hO.2⟩
end Go.Proofs.Ybulkcxje
