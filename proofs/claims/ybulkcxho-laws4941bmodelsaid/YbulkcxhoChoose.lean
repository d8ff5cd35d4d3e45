import Derived.Test.YbulkcxhoPivot
import Derived.Sort.Walk11
namespace Go.Proofs.Ybulkcxho
open Go.RowKit Go.Sort
set_option linter.unusedSimpArgs false
set_option linter.unusedVariables false

set_option maxHeartbeats 1000000 in
set_option maxRecDepth 100000 in
theorem choose64 (blk off N cap a b : Nat) (d : Array Int) (w : World) (hN : N ≤ 1024) (hR : RowAt w blk off d) (hd : d.size = N) (hab : a < b) (hb : b ≤ N) :
    Calls Yba.prog 20 #[.slice (some ⟨blk, off, none⟩) N cap, .int .i64 a, .int .i64 b] w fun e w' =>
      e = .returned (.tuple #[.int .i64 (choosePivot ltInt d a b).1, .int .i64 (hintCode (choosePivot ltInt d a b).2)]) ∧ Below w.heap.size w w' := by
  have HP : Hid (Piv (w.alloc (.cells #[.int .i64 0] 3)) blk off N d w.heap.size 0) := ⟨hR.keep (Below.heap_alloc _ _ _ hR.lt), hd, heap_alloc_new _ _, by have := hR.lt; omega⟩
  clear hR hd
  go_enter Yba.func20, Yba.ntmps20
  go_upto_region 6 with fail
  obtain ⟨I, hI⟩ : ∃ I : Nat, (I : Int) = (a : Int) + ((b : Int) - (a : Int)) / 4 := ⟨a + (b - a) / 4, by omega⟩
  obtain ⟨J, hJ⟩ : ∃ J : Nat, (J : Int) = (a : Int) + ((b : Int) - (a : Int)) / 4 * 2 := ⟨a + (b - a) / 4 * 2, by omega⟩
  obtain ⟨M, hM⟩ : ∃ M : Nat, (M : Int) = (a : Int) + ((b : Int) - (a : Int)) / 4 * 3 := ⟨a + (b - a) / 4 * 3, by omega⟩
  rw [← hI, ← hJ, ← hM]
  have eI : a + (b - a) / 4 * 1 = I := by omega
  have eJ : a + (b - a) / 4 * 2 = J := by omega
  have eM : a + (b - a) / 4 * 3 = M := by omega
  have HE : Hid (a + (b - a) / 4 * 1 = I ∧ a + (b - a) / 4 * 2 = J ∧ a + (b - a) / 4 * 3 = M) := ⟨eI, eJ, eM⟩
  have bI : a ≤ I ∧ I < N ∧ J < N ∧ M < N := by omega
  have b8 : 8 ≤ b - a → 1 ≤ I ∧ I + 1 < N ∧ 1 ≤ J ∧ J + 1 < N ∧ 1 ≤ M ∧ M + 1 < N := by omega
  clear hI hJ hM eI eJ eM
  go_upto_if 32 with fail
  go_cut [11] from 31 to 48 (fun v wc => v = .int .i64 (rawPivot ltInt d a b).1 ∧ Hid (CntAt wc w.heap.size (rawPivot ltInt d a b).2 ∧ Turn w.heap.size (w.alloc (.cells #[.int .i64 0] 3)) wc))
  case first =>
    by_cases h8 : b - a ≥ 8
    · have h8z : (8 : Int) ≤ (b : Int) - (a : Int) := by omega
      by_cases h50 : b - a ≥ 50
      · have h50z : (50 : Int) ≤ (b : Int) - (a : Int) := by omega
        have e : rawPivot ltInt d a b = median ltInt d (medianAdjacent ltInt d I 0).1 (medianAdjacent ltInt d J (medianAdjacent ltInt d I 0).2).1 (medianAdjacent ltInt d M (medianAdjacent ltInt d J (medianAdjacent ltInt d I 0).2).2).1 (medianAdjacent ltInt d M (medianAdjacent ltInt d J (medianAdjacent ltInt d I 0).2).2).2 := by
          unfold rawPivot
          rw [if_pos h8, if_pos h50, HE.out.1, HE.out.2.1, HE.out.2.2]
        have E : Hid (_ = _) := e
        clear e
        obtain ⟨i1, i2, j1, j2, m1, m2⟩ := b8 h8
        have c1 := adj64 blk off N cap I w.heap.size 0 d _ hN HP.out i1 i2 (by omega)
        generalize medianAdjacent ltInt d I 0 = r1 at *
        obtain ⟨p1, s1⟩ := r1
        have c2 := fun (w1 : World) (h1 : Piv w1 blk off N d w.heap.size s1) (hs : s1 ≤ 900) => adj64 blk off N cap J w.heap.size s1 d w1 hN h1 j1 j2 hs
        dsimp only at *
        generalize medianAdjacent ltInt d J s1 = r2 at *
        obtain ⟨p2, s2⟩ := r2
        have c3 := fun (w1 : World) (h1 : Piv w1 blk off N d w.heap.size s2) (hs : s2 ≤ 900) => adj64 blk off N cap M w.heap.size s2 d w1 hN h1 m1 m2 hs
        dsimp only at *
        generalize medianAdjacent ltInt d M s2 = r3 at *
        obtain ⟨p3, s3⟩ := r3
        have c4 := fun (w1 : World) (h1 : Piv w1 blk off N d w.heap.size s3) (k1 : p1 < N) (k2 : p2 < N) (k3 : p3 < N) (hs : s3 ≤ 900) => median64 blk off N cap p1 p2 p3 w.heap.size s3 d w1 hN h1 k1 k2 k3 hs
        dsimp only at *
        generalize median ltInt d p1 p2 p3 s3 = r4 at *
        obtain ⟨p4, s4⟩ := r4
        dsimp only at *
        have C2 : Hid _ := c2
        have C3 : Hid _ := c3
        have C4 : Hid _ := c4
        clear c2 c3 c4
        go_upto_region 9 with (go_at_call 31; refine c1.mono ?_; rintro e w1 ⟨rfl, hc1, ht1, k1, z1⟩)
        have HP1 : Hid (Piv w1 blk off N d w.heap.size s1) := HP.out.step hc1 ht1
        go_upto_region 10 with (go_at_call 31; refine (C2.out w1 HP1.out (by omega)).mono ?_; rintro e w2 ⟨rfl, hc2, ht2, k2, z2⟩)
        have HP2 : Hid (Piv w2 blk off N d w.heap.size s2) := HP1.out.step hc2 ht2
        go_upto_region 11 with (go_at_call 31; refine (C3.out w2 HP2.out (by omega)).mono ?_; rintro e w3 ⟨rfl, hc3, ht3, k3, z3⟩)
        have HP3 : Hid (Piv w3 blk off N d w.heap.size s3) := HP2.out.step hc3 ht3
        go_wp2_with (go_at_call 32; refine (C4.out w3 HP3.out k1 k2 k3 (by omega)).mono ?_; rintro e w4 ⟨rfl, hc4, ht4, k4, z4⟩)
        go_meet
        case rel => rw [E.out]; exact ⟨rfl, hc4, ((ht1.trans ht2).trans ht3).trans ht4⟩
      · have h50z : ¬ ((50 : Int) ≤ (b : Int) - (a : Int)) := by omega
        have e : rawPivot ltInt d a b = median ltInt d I J M 0 := by
          unfold rawPivot
          rw [if_pos h8, if_neg h50, HE.out.1, HE.out.2.1, HE.out.2.2]
        have E : Hid (_ = _) := e
        clear e
        have c4 := median64 blk off N cap I J M w.heap.size 0 d _ hN HP.out bI.2.1 bI.2.2.1 bI.2.2.2 (by omega)
        generalize median ltInt d I J M 0 = r4 at *
        obtain ⟨p4, s4⟩ := r4
        dsimp only at *
        go_wp2_with (go_at_call 32; refine c4.mono ?_; rintro e w4 ⟨rfl, hc4, ht4, k4, z4⟩)
        go_meet
        case rel => rw [E.out]; exact ⟨rfl, hc4, ht4⟩
    · have h8z : ¬ ((8 : Int) ≤ (b : Int) - (a : Int)) := by omega
      have e : rawPivot ltInt d a b = (J, 0) := by
        unfold rawPivot
        rw [if_neg h8, HE.out.2.1]
      have E : Hid (_ = _) := e
      clear e
      go_wp2
      go_meet
      case rel => rw [E.out]; exact ⟨rfl, HP.out.cnt, Turn.refl _ _⟩
  case rest =>
    obtain ⟨rfl, HC⟩ := hcut
    have hB : Below w.heap.size w wc := by
      have ht := HC.out.2
      refine ((Below.refl _ w).alloc (Nat.le_refl _) _).trans ⟨ht.os, ht.tape, ht.output, ht.size, fun k hk => ht.block k (by simp; omega) (fun e => by have := Option.some.inj e; omega)⟩
    have hc := HC.out.1.cell
    clear HC
    have HRr : Hid (choosePivot ltInt d a b = ((rawPivot ltInt d a b).1, hintOf (rawPivot ltInt d a b).2)) := choosePivot_eq ltInt d a b
    generalize rawPivot ltInt d a b = r at *
    obtain ⟨p, s⟩ := r
    dsimp only at *
    by_cases h0 : s = 0
    · subst h0
      go_wp2
      go_ret2
      rw [HRr.out]
      exact ⟨rfl, hB⟩
    · have h0z : ((s : Int) == 0) = false := by simp; omega
      by_cases h12 : s = 12
      · subst h12
        go_wp2
        go_ret2
        rw [HRr.out]
        exact ⟨rfl, hB⟩
      · have h12z : ((s : Int) == 12) = false := by simp; omega
        go_wp2
        go_ret2
        rw [HRr.out]
        refine ⟨?_, hB⟩
        rw [show hintOf s = .unknown by unfold hintOf; rw [if_neg h0, if_neg h12]]
        rfl
end Go.Proofs.Ybulkcxho
