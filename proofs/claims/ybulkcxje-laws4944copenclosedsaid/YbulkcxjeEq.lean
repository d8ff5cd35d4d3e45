import Derived.Test.YbulkcxjeModel
import Derived.Deep.QuietTactic
import Derived.BigQuiet
namespace Go.Proofs.Ybulkcxje
open Go.RowKit
set_option linter.unusedSimpArgs false

set_option maxHeartbeats 800000 in
set_option maxRecDepth 100000 in
theorem eq_any (ao bo : Option Addr) (n capa capb : Nat) (cs : List (Int × Int)) (w : World) (ha : Reads2 w ao cs) (hb : Reads2 w bo cs) (hl : cs.length = n) (hn : n ≤ 8) :
    Calls Yba.prog 9 #[.slice ao n capa, .slice bo n capb] w fun e w' => e = .returned (.bool true) ∧ Below w.heap.size w w' ∧ w'.heap = w.heap := by
  have HL : Hid (cs.length = n) := hl
  clear hl
  go_enter Yba.func9, Yba.ntmps9
  go_wp2_with fail
  go_loopw [5] (fun i wr => ∃ k : Nat, k ≤ n ∧ i = .int .i64 k ∧ ∃ q, wr = w.drewN q) (fun i _ => n - (intOf i).toNat)
  case atStart => exact ⟨0, Nat.zero_le _, rfl, 0, rfl⟩
  case round =>
    obtain ⟨k, hk, rfl, q, rfl⟩ := hrel
    by_cases hkn : k < n
    · rcases ha with hz | ⟨g, off, rfl, hg, hcell⟩
      · have := HL.out; omega
      rcases hb with hz | ⟨g2, off2, rfl, hg2, hcell2⟩
      · have := HL.out; omega
      have hc1 : w.cell? ⟨g, off + k * 2, none⟩ = some (.int .u64 (cs.getD k default).1) := by
        rw [hcell (k * 2) (by have := HL.out; omega), cellOf_even (by have := HL.out; omega)]
      have hc2 : w.cell? ⟨g, off + k * 2 + 1, none⟩ = some (.int .u64 (cs.getD k default).2) := by
        rw [Nat.add_assoc, hcell (k * 2 + 1) (by have := HL.out; omega), cellOf_odd (by have := HL.out; omega)]
      have hd1 : w.cell? ⟨g2, off2 + k * 2, none⟩ = some (.int .u64 (cs.getD k default).1) := by
        rw [hcell2 (k * 2) (by have := HL.out; omega), cellOf_even (by have := HL.out; omega)]
      have hd2 : w.cell? ⟨g2, off2 + k * 2 + 1, none⟩ = some (.int .u64 (cs.getD k default).2) := by
        rw [Nat.add_assoc, hcell2 (k * 2 + 1) (by have := HL.out; omega), cellOf_odd (by have := HL.out; omega)]
      clear hcell hcell2
      have hkn' : (k : Int) < (n : Int) := by omega
      generalize cs.getD k default = c at *
      have hg1 : (c.1 != c.1) = false := by simp
      have hg3 : (c.2 != c.2) = false := by simp
      go_wp2_with fail
      go_quiet (fail)
      go_wp2
      go_roundw
      case rel => exact ⟨k + 1, by omega, by go_num, _, rfl⟩
      case measure => simp [intOf]; omega
    · go_wp2
      go_ret
      exact ⟨rfl, (Below.refl _ w).trans ⟨rfl, rfl, rfl, Nat.le_refl _, fun _ _ => rfl⟩, rfl⟩

theorem Yba.info24 : (Yba.prog.info? 24).map (fun i => (i.zero, i.size, i.bytes)) = some (some (.pointer none), 1, 8) := by kernel_rfl

set_option maxHeartbeats 800000 in
set_option maxRecDepth 100000 in
/-- The mesh's links: a new row of three, the given one at its place. -/
theorem ins_any (f bi : Nat) (w : World) (hf : f < 3) :
    Calls Yba.prog 7 #[.int .i64 f, .pointer (some ⟨bi, 0, none⟩)] w fun e w' => ∃ g, e = .returned (.slice (some ⟨g, 0, none⟩) 3 3) ∧ (∃ gc, w'.heap[g]? = some (.cells gc 24 (0, 0)) ∧ gc[f]? = some (.pointer (some ⟨bi, 0, none⟩))) ∧ w.heap.size ≤ g ∧ Below w.heap.size w w' := by
  obtain ⟨i0, hi0, hz0, hz1, hz2⟩ := info_parts Yba.info24
  go_enter Yba.func7, Yba.ntmps7
  go_wp2_with (at_make; refine wpList_make_full _ rfl (.const (.int .i64 3)) (.const (.int .i64 3)) 39 rfl w.heap.size 24 i0 _ 1 Yba.underlying39 hi0 hz0 hz1 .i64 .i64 _ _ 3 rfl rfl rfl rfl (by rw [hz2]; omega) (by unfold maxLen; omega) (Nat.le_refl _) ?_; intro w1 hown1 hgrow1)
  obtain ⟨cur, hcur, hcs⟩ : ∃ cur, w1.heap[w.heap.size]? = some (.cells cur 24 (0, 0)) ∧ cur.size = 3 := by
    rcases hown1.2 with ⟨h, _⟩ | ⟨g, cap, cur, h, _, hg, _, _, hs, _⟩
    · simp at h
    · obtain ⟨rfl, rfl⟩ : w.heap.size = g ∧ 3 = cap := by simpa using h
      exact ⟨cur, hg, by omega⟩
  have hB1 : Below w.heap.size w w1 := ⟨hgrow1.os, hgrow1.tape, hgrow1.output, hgrow1.size, fun k hk => hgrow1.block k hk (by simp)⟩
  clear hown1 hgrow1
  go_loopw [6] (fun i wr => ∃ k : Nat, k ≤ 3 ∧ i = .int .i64 k ∧ ∃ cur, wr.heap[w.heap.size]? = some (.cells cur 24 (0, 0)) ∧ cur.size = 3 ∧ Below w.heap.size w wr) (fun i _ => 3 - (intOf i).toNat)
  case atStart => exact ⟨0, Nat.zero_le _, rfl, cur, hcur, hcs, hB1⟩
  case round =>
    clear hcur hcs hB1 cur
    obtain ⟨k, hk, rfl, cur, hcur, hcs, hB⟩ := hrel
    have hlt := lt_of_block hcur
    by_cases hk3 : k < 3
    · have hc : wr.cell? ⟨w.heap.size, k, none⟩ = some (cur[k]'(by omega)) := by rw [cell_of_row _ _ _ _ 24 (0, 0) hcur, Array.getElem?_eq_getElem (by omega)]
      have hfz : wr.frozen? ⟨w.heap.size, k, none⟩ = false := frozen_of_row _ _ _ _ 24 hcur
      have hsz : ∀ u, (wr.setCell ⟨w.heap.size, k, none⟩ u).heap.size = wr.heap.size := fun u => by simp [World.setCell]
      have HN : Hid (∀ u, ((wr.setCell ⟨w.heap.size, k, none⟩ u).alloc (.cells #[.int .i32 0, .int .u32 0, .slice none 0 0] 35)).heap[w.heap.size]? = some (.cells (cur.setIfInBounds k u) 24 (0, 0))) := fun u => (Below.heap_alloc _ _ _ (by rw [hsz]; exact hlt)).trans (heap_setCell_same _ _ k cur 24 u hcur)
      have HN2 : Hid (∀ u, Below w.heap.size w ((wr.setCell ⟨w.heap.size, k, none⟩ u).alloc (.cells #[.int .i32 0, .int .u32 0, .slice none 0 0] 35))) := fun u => (hB.setCell (Nat.le_refl _) u).alloc (by rw [hsz]; omega) _
      clear hsz
      have HS : Hid (cur.size = 3) := hcs
      have hki : (k : Int) < 3 := by omega
      generalize cur[k] = u0 at hc
      clear hcur hB hcs
      go_wp2
      go_roundw
      case rel => exact ⟨k + 1, by omega, by go_num, _, HN.out _, by simpa using HS.out, HN2.out _⟩
      case measure => simp [intOf]; omega
    · have hc : wr.cell? ⟨w.heap.size, f, none⟩ = some (cur[f]'(by omega)) := by rw [cell_of_row _ _ _ _ 24 (0, 0) hcur, Array.getElem?_eq_getElem (by omega)]
      have hfz : wr.frozen? ⟨w.heap.size, f, none⟩ = false := frozen_of_row _ _ _ _ 24 hcur
      have hff : (f : Int) < 3 := by omega
      generalize cur[f] = u0 at hc
      go_wp2
      go_ret
      refine ⟨w.heap.size, rfl, ⟨_, heap_setCell_same wr w.heap.size f cur 24 _ hcur, by simp [show f < cur.size by omega]⟩, Nat.le_refl _, hB.setCell (Nat.le_refl _) _⟩
end Go.Proofs.Ybulkcxje
