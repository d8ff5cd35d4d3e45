import Derived.Test.YbulkcxjeOpen2
import Derived.Deep.RegionWith
namespace Go.Proofs.Ybulkcxje
open Go.RowKit
set_option linter.unusedSimpArgs false

/-- What a connection of 'inc' whose first frame is 'seq' makes of the counts, and whether there is a gap. -/
def fidx (cs : List (Int × Int)) (inc : Int) : Nat := cs.findIdx fun c => c.1 == inc
def stepC (cs : List (Int × Int)) (inc seq : Int) : List (Int × Int) × Bool :=
  if fidx cs inc < cs.length then (cs.eraseIdx (fidx cs inc) ++ [((cs.getD (fidx cs inc) default).1, if (cs.getD (fidx cs inc) default).2 < seq then seq else (cs.getD (fidx cs inc) default).2)], decide ((cs.getD (fidx cs inc) default).2 < seq))
  else ((if cs.length = 8 then cs.tail else cs) ++ [(inc, seq)], false)

theorem fidx_le (cs : List (Int × Int)) (inc : Int) : fidx cs inc ≤ cs.length := List.findIdx_le_length
theorem fidx_bef (cs : List (Int × Int)) (inc : Int) : ∀ k, k < fidx cs inc → ((cs.getD k default).1 == inc) = false := by
  intro k hk
  have hl := fidx_le cs inc
  have h := List.not_of_lt_findIdx hk
  rw [List.getD, List.getElem?_eq_getElem (by omega)]
  simpa using h
theorem fidx_at (cs : List (Int × Int)) (inc : Int) (h : fidx cs inc < cs.length) : ((cs.getD (fidx cs inc) default).1 == inc) = true := by
  have h2 := List.findIdx_getElem (p := fun c : Int × Int => c.1 == inc) (w := h)
  rw [List.getD, List.getElem?_eq_getElem h]
  exact h2
theorem stepC_len (cs : List (Int × Int)) (inc seq : Int) (h : cs.length ≤ 8) : (stepC cs inc seq).1.length ≤ 8 := by
  unfold stepC
  split
  · rename_i hlt
    simp only [List.length_append, List.length_cons, List.length_nil]
    rw [List.length_eraseIdx, if_pos hlt]
    omega
  · simp only [List.length_append, List.length_cons, List.length_nil]
    split
    · rename_i h8; rw [List.length_tail]; omega
    · omega

theorem open_any (bi base n cap : Nat) (m0 m1 inc seq : Int) (ao : Option Addr) (cs : List (Int × Int)) (w : World) (hin : InB w bi m0 m1 (.slice ao n cap)) (hown : Own w base (.slice ao n cap) cs) (hl : cs.length = n) (hn : n ≤ 8) (hbase : base ≤ w.heap.size) :
    Calls Yba.prog 12 #[.pointer (some ⟨bi, 0, none⟩), .int .u64 inc, .int .u64 seq] w fun e w' => e = .returned (.bool (stepC cs inc seq).2) ∧ Opened w w' bi base m0 m1 (.slice ao n cap) (stepC cs inc seq).1 := by
  unfold stepC
  by_cases hlt : fidx cs inc < cs.length
  · rw [if_pos hlt]
    obtain ⟨m, rfl⟩ : ∃ m, n = m + 1 := ⟨n - 1, by omega⟩
    exact open_found bi base m cap (fidx cs inc) m0 m1 inc seq ao cs w hin hown hl (by omega) hbase (by omega) (fidx_bef cs inc) (fidx_at cs inc hlt) _ rfl
  · rw [if_neg hlt]
    have hall : ∀ k, k < n → ((cs.getD k default).1 == inc) = false := fun k hk => fidx_bef cs inc k (by omega)
    by_cases h8 : cs.length = 8
    · rw [if_pos h8]
      obtain rfl : n = 8 := by omega
      exact open_full bi base cap m0 m1 inc seq ao cs w hin hown h8 hbase hall
    · rw [if_neg h8]
      exact open_new bi base n cap m0 m1 inc seq ao cs w hin hown hl (by omega) hbase hall (by simp; omega)

/-- The link's state, whatever value its counts are held by. -/
def Link (w : World) (bi base : Nat) (m0 m1 : Int) (cs : List (Int × Int)) : Prop := ∃ ao n cap, InB w bi m0 m1 (.slice ao n cap) ∧ Own w base (.slice ao n cap) cs ∧ cs.length = n ∧ n ≤ 8 ∧ base ≤ w.heap.size ∧ base ≤ bi

/-- inLink.open, on the state alone. -/
theorem open_link (bi base : Nat) (m0 m1 inc seq : Int) (cs : List (Int × Int)) (w : World) (h : Link w bi base m0 m1 cs) :
    Calls Yba.prog 12 #[.pointer (some ⟨bi, 0, none⟩), .int .u64 inc, .int .u64 seq] w fun e w' => e = .returned (.bool (stepC cs inc seq).2) ∧ Link w' bi base m0 m1 (stepC cs inc seq).1 ∧ Below base w w' := by
  obtain ⟨ao, n, cap, hin, hown, hl, hn, hbase, hbb⟩ := h
  refine (open_any bi base n cap m0 m1 inc seq ao cs w hin hown hl hn hbase).mono ?_
  rintro e w' ⟨rfl, v', hin', hown', hup, hat⟩
  obtain ⟨ao', cap', rfl⟩ := hown'.shape
  have hs := hup.size
  refine ⟨rfl, ⟨ao', _, cap', hin', hown', rfl, stepC_len cs inc seq (by omega), by omega, hbb⟩, hup.os, hup.tape, hup.output, hs, fun k hk => hup.block k (by omega) (by omega) (fun e => ?_)⟩
  have := (hown.lt k e.symm).1
  omega

/-- The script. -/
def runC (cs : List (Int × Int)) : List (Int × Int) → List (Int × Int)
  | [] => cs
  | o :: os => runC (stepC cs (o.1.tmod 12) o.2).1 os
theorem runC_snoc (ops : List (Int × Int)) (cs : List (Int × Int)) (o : Int × Int) : runC cs (ops ++ [o]) = (stepC (runC cs ops) (o.1.tmod 12) o.2).1 := by
  induction ops generalizing cs with
  | nil => rfl
  | cons p ps ih => exact ih _

set_option maxHeartbeats 400000 in
set_option maxRecDepth 100000 in
theorem build_any (oa : Option Addr) (n cap : Nat) (ops : List (Int × Int)) (w : World) (hr : Reads2 w oa ops) (hl : ops.length = n) (hn : n ≤ 1024) :
    Calls Yba.prog 5 #[.slice oa n cap] w fun e w' => ∃ bi, e = .returned (.pointer (some ⟨bi, 0, none⟩)) ∧ Link w' bi w.heap.size 0 0 (runC [] ops) ∧ Below w.heap.size w w' := by
  have HL : Hid (ops.length = n) := hl
  clear hl
  go_enter Yba.func5, Yba.ntmps5
  go_wp2_with fail
  go_loopw [4] (fun i wr => ∃ k : Nat, k ≤ n ∧ i = .int .i64 k ∧ Link wr w.heap.size w.heap.size 0 0 (runC [] (ops.take k)) ∧ Below w.heap.size w wr) (fun i _ => n - (intOf i).toNat)
  case atStart =>
    refine ⟨0, Nat.zero_le _, rfl, ⟨none, 0, 0, heap_alloc_new w _, .inl ⟨rfl, rfl⟩, rfl, by omega, by simp, Nat.le_refl _⟩, (Below.refl _ w).alloc (Nat.le_refl _) _⟩
  case round =>
    obtain ⟨k, hk, rfl, hL, hB⟩ := hrel
    by_cases hkn : k < n
    · rcases hr with hz | ⟨g, off, rfl, hg, hcell⟩
      · have := HL.out; omega
      have hc1 : wr.cell? ⟨g, off + k * 2, none⟩ = some (.int .u64 (ops.getD k default).1) := by
        rw [hB.cell (p := ⟨g, off + k * 2, none⟩) hg, hcell (k * 2) (by have := HL.out; omega), cellOf_even (by have := HL.out; omega)]
      have hc2 : wr.cell? ⟨g, off + k * 2 + 1, none⟩ = some (.int .u64 (ops.getD k default).2) := by
        rw [Nat.add_assoc, hB.cell (p := ⟨g, off + (k * 2 + 1), none⟩) hg, hcell (k * 2 + 1) (by have := HL.out; omega), cellOf_odd (by have := HL.out; omega)]
      have HT : Hid (runC [] (ops.take (k + 1)) = (stepC (runC [] (ops.take k)) ((ops.getD k default).1.tmod 12) (ops.getD k default).2).1) := by
        have hkl : k < ops.length := by have := HL.out; omega
        show _ = _
        rw [List.take_succ_eq_append_getElem hkl, runC_snoc, List.getD, List.getElem?_eq_getElem hkl]
        rfl
      clear hcell
      have hkn' : (k : Int) < (n : Int) := by omega
      generalize ops.getD k default = o at *
      go_wp2_with fail
      go_region_with (go_at_call 12; refine (open_link w.heap.size w.heap.size 0 0 _ _ _ _ (by exact hL)).mono ?_; rintro e w1 ⟨rfl, hL1, hB1⟩)
      all_goals
        have hB2 := (Below.drew hB).trans hB1
        clear hB1 hB hL
        go_wp2
        go_roundw
        case rel => exact ⟨k + 1, by omega, by go_num, by rw [HT.out]; exact hL1, hB2⟩
        case measure => simp [intOf]; omega
    · go_wp2
      go_ret
      exact ⟨w.heap.size, rfl, by rw [List.take_of_length_le (by have := HL.out; omega)] at hL; exact hL, hB⟩
end Go.Proofs.Ybulkcxje
