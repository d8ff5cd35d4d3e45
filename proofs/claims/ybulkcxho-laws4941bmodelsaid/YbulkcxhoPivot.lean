import Derived.Test.YbulkcxhoPins
namespace Go.Proofs.Ybulkcxho
open Go.RowKit Go.Sort
set_option linter.unusedSimpArgs false
set_option linter.unusedVariables false

/-- The counter that choosePivot hands down. -/
def CntAt (w : World) (sb s : Nat) : Prop := w.heap[sb]? = some (.cells #[.int .i64 s] 3 (0, 0))
theorem CntAt.cell {w : World} {sb s : Nat} (h : CntAt w sb s) : w.cell? ⟨sb, 0, none⟩ = some (.int .i64 s) := by rw [cell_of_row w sb 0 _ 3 (0, 0) h]; rfl
theorem CntAt.fz {w : World} {sb s : Nat} (h : CntAt w sb s) : w.frozen? ⟨sb, 0, none⟩ = false := frozen_of_row w sb 0 _ 3 h
theorem CntAt.set {w : World} {sb s : Nat} (h : CntAt w sb s) (t : Nat) : CntAt (w.setCell ⟨sb, 0, none⟩ (.int .i64 t)) sb t := by
  have := heap_setCell_same w sb 0 _ 3 (.int .i64 t) h
  simpa [CntAt] using this
/-- The row and the counter, apart. -/
structure Piv (w : World) (blk off N : Nat) (d : Array Int) (sb s : Nat) : Prop where
  row : RowAt w blk off d
  size : d.size = N
  cnt : CntAt w sb s
  ne : blk ≠ sb
theorem RowAt.lt {w : World} {blk off : Nat} {d : Array Int} (h : RowAt w blk off d) : blk < w.heap.size := by
  obtain ⟨cur, hb, _⟩ := h
  exact lt_of_block hb
theorem Piv.step {w w' : World} {blk off N : Nat} {d : Array Int} {sb s s' : Nat} (h : Piv w blk off N d sb s) (hc : CntAt w' sb s') (ht : Turn sb w w') : Piv w' blk off N d sb s' :=
  ⟨h.row.keep (ht.block blk h.row.lt (fun e => h.ne (Option.some.inj e))), h.size, hc, h.ne⟩

set_option maxHeartbeats 1000000 in
set_option maxRecDepth 100000 in
theorem order64 (blk off N cap a b sb s : Nat) (d : Array Int) (w : World) (hN : N ≤ 1024) (h : Piv w blk off N d sb s) (ha : a < N) (hb : b < N) (hs : s ≤ 1000) :
    Calls Yba.prog 34 #[.slice (some ⟨blk, off, none⟩) N cap, .int .i64 a, .int .i64 b, .pointer (some ⟨sb, 0, none⟩)] w fun e w' =>
      e = .returned (.tuple #[.int .i64 (order2 ltInt d a b s).1, .int .i64 (order2 ltInt d a b s).2.1]) ∧ CntAt w' sb (order2 ltInt d a b s).2.2 ∧ Turn sb w w' := by
  obtain ⟨G, hG⟩ : ∃ G : Nat → Int, ∀ t, G t = d[t]! := ⟨fun t => d[t]!, fun _ => rfl⟩
  have hcw : ∀ t, t < N → w.cell? ⟨blk, off + t, none⟩ = some (.int .u64 (G t)) := fun t ht => by rw [hG]; exact h.row.cell (by rw [h.size]; exact ht)
  have hc0 := h.cnt.cell
  have hz0 := h.cnt.fz
  have HG : Hid (∀ t, G t = d[t]!) := hG
  have HC : Hid (CntAt w sb s) := h.cnt
  clear hG h
  go_enter Yba.func34, Yba.ntmps34
  go_wp2_with fail
  go_big_quiet (first | (go_at_call 23; refine Calls.quiet_of_same (less64 _ _ _)))
  go_wp2
  · have ht : ltInt (G b) (G a) = true := by assumption
    go_ret2
    have e : order2 ltInt d a b s = (b, a, s + 1) := by unfold order2; rw [if_pos (by rw [← HG.out, ← HG.out]; exact ht)]
    rw [e]
    exact ⟨rfl, HC.out.set (s + 1), ((Turn.refl sb w).drewN nq).set _ _⟩
  · have ht : ltInt (G b) (G a) = false := by assumption
    go_ret2
    have e : order2 ltInt d a b s = (a, b, s) := by unfold order2; rw [if_neg (by rw [← HG.out, ← HG.out, ht]; decide)]
    rw [e]
    exact ⟨rfl, HC.out, (Turn.refl sb w).drewN nq⟩

theorem ord_lt (d : Array Int) {a b n : Nat} (s : Nat) (ha : a < n) (hb : b < n) : (order2 ltInt d a b s).1 < n ∧ (order2 ltInt d a b s).2.1 < n ∧ (order2 ltInt d a b s).2.2 ≤ s + 1 := by
  unfold order2
  split <;> simp <;> omega

set_option maxHeartbeats 1000000 in
set_option maxRecDepth 100000 in
theorem median64 (blk off N cap a b c sb s : Nat) (d : Array Int) (w : World) (hN : N ≤ 1024) (h : Piv w blk off N d sb s) (ha : a < N) (hb : b < N) (hc : c < N) (hs : s ≤ 900) :
    Calls Yba.prog 32 #[.slice (some ⟨blk, off, none⟩) N cap, .int .i64 a, .int .i64 b, .int .i64 c, .pointer (some ⟨sb, 0, none⟩)] w fun e w' =>
      e = .returned (.int .i64 (median ltInt d a b c s).1) ∧ CntAt w' sb (median ltInt d a b c s).2 ∧ Turn sb w w' ∧ (median ltInt d a b c s).1 < N ∧ (median ltInt d a b c s).2 ≤ s + 3 := by
  unfold median
  obtain ⟨l1, l2, l3⟩ := ord_lt d s ha hb
  have c1 := order64 blk off N cap a b sb s d w hN h ha hb (by omega)
  generalize order2 ltInt d a b s = r1 at *
  obtain ⟨p, q, s1⟩ := r1
  dsimp only at *
  obtain ⟨m1, m2, m3⟩ := ord_lt d s1 l2 hc
  have c2 := fun (w1 : World) (h1 : Piv w1 blk off N d sb s1) => order64 blk off N cap q c sb s1 d w1 hN h1 l2 hc (by omega)
  generalize order2 ltInt d q c s1 = r2 at *
  obtain ⟨p2, q2, s2⟩ := r2
  dsimp only at *
  obtain ⟨n1, n2, n3⟩ := ord_lt d s2 l1 m1
  have c3 := fun (w1 : World) (h1 : Piv w1 blk off N d sb s2) => order64 blk off N cap p p2 sb s2 d w1 hN h1 l1 m1 (by omega)
  generalize order2 ltInt d p p2 s2 = r3 at *
  obtain ⟨p3, q3, s3⟩ := r3
  dsimp only at *
  have C2 : Hid _ := c2
  have C3 : Hid _ := c3
  have HP : Hid (Piv w blk off N d sb s) := h
  clear c2 c3 h
  go_enter Yba.func32, Yba.ntmps32
  go_upto_region 2 with (go_at_call 34; refine c1.mono ?_; rintro e w1 ⟨rfl, hc1, ht1⟩)
  have HP1 : Hid (Piv w1 blk off N d sb s1) := HP.out.step hc1 ht1
  go_upto_region 3 with (go_at_call 34; refine (C2.out w1 HP1.out).mono ?_; rintro e w2 ⟨rfl, hc2, ht2⟩)
  have HP2 : Hid (Piv w2 blk off N d sb s2) := HP1.out.step hc2 ht2
  go_wp2_with (go_at_call 34; refine (C3.out w2 HP2.out).mono ?_; rintro e w3 ⟨rfl, hc3, ht3⟩)
  go_ret
  exact ⟨rfl, hc3, (ht1.trans ht2).trans ht3, n2, by omega⟩

theorem adj64 (blk off N cap a sb s : Nat) (d : Array Int) (w : World) (hN : N ≤ 1024) (h : Piv w blk off N d sb s) (ha : 1 ≤ a) (hb : a + 1 < N) (hs : s ≤ 900) :
    Calls Yba.prog 31 #[.slice (some ⟨blk, off, none⟩) N cap, .int .i64 a, .pointer (some ⟨sb, 0, none⟩)] w fun e w' =>
      e = .returned (.int .i64 (medianAdjacent ltInt d a s).1) ∧ CntAt w' sb (medianAdjacent ltInt d a s).2 ∧ Turn sb w w' ∧ (medianAdjacent ltInt d a s).1 < N ∧ (medianAdjacent ltInt d a s).2 ≤ s + 3 := by
  have c := median64 blk off N cap (a - 1) a (a + 1) sb s d w hN h (by omega) (by omega) hb hs
  rw [show ((a - 1 : Nat) : Int) = (a : Int) - 1 by omega, show ((a + 1 : Nat) : Int) = (a : Int) + 1 by omega] at c
  unfold medianAdjacent
  go_enter Yba.func31, Yba.ntmps31
  go_wp2_with (go_at_call 32; refine c.mono ?_; rintro e w1 ⟨rfl, hc1, ht1, hl⟩)
  go_ret
  exact ⟨rfl, hc1, ht1, hl⟩
end Go.Proofs.Ybulkcxho
