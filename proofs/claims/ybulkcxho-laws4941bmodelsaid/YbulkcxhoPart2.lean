import Derived.Test.YbulkcxhoPart
namespace Go.Proofs.Ybulkcxho
open Go.RowKit Go.Sort
set_option linter.unusedSimpArgs false
set_option linter.unusedVariables false

set_option maxHeartbeats 12800000 in
set_option maxRecDepth 100000 in
theorem part64 (blk off N cap a b pivot : Nat) (d : Array Int) (w : World) (hN : N ≤ 1024) (hR : RowAt w blk off d) (hd : d.size = N) (hap : a ≤ pivot) (hpb : pivot < b) (hb : b ≤ N) :
    Calls Yba.prog 25 #[.slice (some ⟨blk, off, none⟩) N cap, .int .i64 a, .int .i64 b, .int .i64 pivot] w fun e w' =>
      e = .returned (.tuple #[.int .i64 (partition ltInt d a b pivot).1, .bool (partition ltInt d a b pivot).2.1]) ∧ Rw w blk off N (partition ltInt d a b pivot).2.2 w' := by
  have hR0 : Rw w blk off N d w := Rw.start hd hR
  obtain ⟨G, hG⟩ : ∃ G : Nat → Int, ∀ t, G t = d[t]! := ⟨fun t => d[t]!, fun _ => rfl⟩
  have hcw : ∀ t, t < N → w.cell? ⟨blk, off + t, none⟩ = some (.int .u64 (G t)) := fun t ht => by rw [hG]; exact hR0.cell t ht
  have hfw : ∀ t, t < N → w.frozen? ⟨blk, off + t, none⟩ = false := hR0.fz
  obtain ⟨v', hy'⟩ := cell?_setCell_some (w := w) (p := ⟨blk, off + a, none⟩) (x := .int .u64 (G pivot)) (q := ⟨blk, off + pivot, none⟩) (hcw pivot (by omega))
  have HG0 : Hid (∀ t, G t = d[t]!) := hG
  have H0 : Hid (Rw w blk off N d w) := hR0
  clear hG hR0 hR hd
  go_enter Yba.func25, Yba.ntmps25
  go_wp2
  go_region
  have HW : Hid (Rw w blk off N (swp d a pivot) ((w.setCell ⟨blk, off + a, none⟩ (.int .u64 (G pivot))).setCell ⟨blk, off + pivot, none⟩ (.int .u64 (G a))).drew) := H0.out.swapD a pivot (by rw [HG0.out]) (by rw [HG0.out])
  generalize ((w.setCell ⟨blk, off + a, none⟩ (.int .u64 (G pivot))).setCell ⟨blk, off + pivot, none⟩ (.int .u64 (G a))).drew = w1 at HW ⊢
  obtain ⟨dk, hdk⟩ : ∃ dk, dk = swp d a pivot := ⟨_, rfl⟩
  have HD : Hid (dk = swp d a pivot) := hdk
  rw [← hdk] at HW
  clear hdk hcw hfw hy' v' HG0 H0
  obtain ⟨Gk, hG⟩ : ∃ Gk : Nat → Int, ∀ t, Gk t = dk[t]! := ⟨fun t => dk[t]!, fun _ => rfl⟩
  have HG : Hid (∀ t, Gk t = dk[t]!) := hG
  clear hG
  go_upto_block 0 with fail
  go_cut [10] from 30 to 45 (fun v wc => ∃ i' : Nat, v = .int .i64 i' ∧ (a + 1) ≤ i' ∧ i' ≤ (b - 1) + 1 ∧ Hid (i' = scanUp (fun x => ltInt x dk[a]!) dk (b - 1) (a + 1)) ∧ Hid (Rw w blk off N dk wc))
  case first =>
    go_wp2_with fail
    go_loopw [10] (fun vi w1 => ∃ i' : Nat, vi = .int .i64 i' ∧ (a + 1) ≤ i' ∧ i' ≤ (b - 1) + 1 ∧ Rw w blk off N dk w1 ∧ Hid (scanUp (fun x => ltInt x dk[a]!) dk (b - 1) i' = scanUp (fun x => ltInt x dk[a]!) dk (b - 1) (a + 1))) (fun vi _ => (b - 1) + 1 - (intOf vi).toNat)
    case atStart => exact ⟨(a + 1), by go_num, Nat.le_refl _, by omega, HW.out, rfl⟩
    case round =>
      clear HW
      obtain ⟨i', rfl, hi1, hi2, hRw, hsc⟩ := hrel
      have hcw : ∀ t, t < N → wr.cell? ⟨blk, off + t, none⟩ = some (.int .u64 (Gk t)) := fun t ht => by rw [HG.out]; exact hRw.cell t ht
      have HW : Hid (Rw w blk off N dk wr) := hRw
      clear hRw
      by_cases hle : i' ≤ (b - 1)
      · skip
        have hlez : (i' : Int) ≤ (b : Int) - 1 := by omega
        go_wp2_with fail
        go_big_quiet (first | (go_at_call 23; refine Calls.quiet_of_same (less64 _ _ _)))
        go_wp2
        · have ht : ltInt (Gk i') (Gk a) = true := by assumption
          go_roundw
          case rel => exact ⟨i' + 1, by go_num, by omega, by omega, HW.out.drewN nq, (scanUp_go (fun x => ltInt x dk[a]!) dk (b - 1) i' hle (by rw [← HG.out a, ← HG.out i']; exact ht)).symm.trans hsc.out⟩
          case measure => simp [intOf]; omega
        · have ht : ltInt (Gk i') (Gk a) = false := by assumption
          go_meet
          case rel => exact ⟨i', rfl, hi1, hi2, (scanUp_end (fun x => ltInt x dk[a]!) dk (b - 1) i' (Or.inr (by rw [← HG.out a, ← HG.out i']; exact ht))).symm.trans hsc.out, HW.out.drewN nq⟩
      · skip
        have hlez : decide ((i' : Int) ≤ (b : Int) - 1) = false := decide_eq_false (by omega)
        go_wp2_with fail
        go_big_quiet (first | (go_at_call 23; refine Calls.quiet_of_same (less64 _ _ _)))
        go_wp2
        go_meet
        case rel => exact ⟨i', rfl, hi1, hi2, (scanUp_end (fun x => ltInt x dk[a]!) dk (b - 1) i' (Or.inl hle)).symm.trans hsc.out, HW.out.drewN nq⟩
  case rest =>
    clear HW
    obtain ⟨i2, rfl, hi3, hi4, hi2, HW⟩ := hcut
    go_upto_block 2 with fail
    go_cut [11] from 46 to 62 (fun v wc => ∃ j' : Nat, v = .int .i64 j' ∧ j' ≤ (b - 1) ∧ i2 ≤ j' + 1 ∧ Hid (j' = scanDown (fun x => !ltInt x dk[a]!) dk i2 (b - 1)) ∧ Hid (Rw w blk off N dk wc))
    case first =>
      go_wp2_with fail
      go_loopw [11] (fun vi w1 => ∃ j' : Nat, vi = .int .i64 j' ∧ j' ≤ (b - 1) ∧ i2 ≤ j' + 1 ∧ Rw w blk off N dk w1 ∧ Hid (scanDown (fun x => !ltInt x dk[a]!) dk i2 j' = scanDown (fun x => !ltInt x dk[a]!) dk i2 (b - 1))) (fun vi _ => (intOf vi).toNat)
      case atStart => exact ⟨(b - 1), by go_num, Nat.le_refl _, by omega, HW.out, rfl⟩
      case round =>
        clear HW
        obtain ⟨j', rfl, hi1, hi2, hRw, hsc⟩ := hrel
        have hcw : ∀ t, t < N → wr.cell? ⟨blk, off + t, none⟩ = some (.int .u64 (Gk t)) := fun t ht => by rw [HG.out]; exact hRw.cell t ht
        have HW : Hid (Rw w blk off N dk wr) := hRw
        clear hRw
        by_cases hle : i2 ≤ j'
        · skip
          go_wp2_with fail
          go_big_quiet (first | (go_at_call 23; refine Calls.quiet_of_same (less64 _ _ _)))
          go_wp2
          · have ht : (!ltInt (Gk j') (Gk a)) = true := by assumption
            go_roundw
            case rel => exact ⟨j' - 1, by go_num, by omega, by omega, HW.out.drewN nq, (scanDown_go (fun x => !ltInt x dk[a]!) dk i2 j' hle (by omega) (by rw [← HG.out a, ← HG.out j']; exact ht)).symm.trans hsc.out⟩
            case measure => simp [intOf]; omega
          · have ht : (!ltInt (Gk j') (Gk a)) = false := by assumption
            go_meet
            case rel => exact ⟨j', rfl, hi1, hi2, (scanDown_end (fun x => !ltInt x dk[a]!) dk i2 j' (Or.inr (by rw [← HG.out a, ← HG.out j']; exact ht))).symm.trans hsc.out, HW.out.drewN nq⟩
        · skip
          go_wp2_with fail
          go_big_quiet (first | (go_at_call 23; refine Calls.quiet_of_same (less64 _ _ _)))
          go_wp2
          go_meet
          case rel => exact ⟨j', rfl, hi1, hi2, (scanDown_end (fun x => !ltInt x dk[a]!) dk i2 j' (Or.inl hle)).symm.trans hsc.out, HW.out.drewN nq⟩
    case rest =>
      clear HW
      obtain ⟨j2, rfl, hj3, hj4, hj2, HW⟩ := hcut
      have hRw := HW.out
      have hcw : ∀ t, t < N → wc.cell? ⟨blk, off + t, none⟩ = some (.int .u64 (Gk t)) := fun t ht => by rw [HG.out]; exact hRw.cell t ht
      have hfw : ∀ t, t < N → wc.frozen? ⟨blk, off + t, none⟩ = false := hRw.fz
      clear hRw
      by_cases hle : i2 ≤ j2
      · have hlt3 : i2 < j2 := part_scans_lt ltInt a (a + 1) (b - 1) dk (by omega) hi2.out hj2.out hle
        obtain ⟨v3, hy3⟩ := cell?_setCell_some (w := wc) (p := ⟨blk, off + i2, none⟩) (x := .int .u64 (Gk j2)) (q := ⟨blk, off + j2, none⟩) (hcw j2 (by omega))
        have HP : Hid (partition ltInt d a b pivot = ((partLoop ltInt a (i2 + 1) (j2 - 1) (swp dk i2 j2)).1, false, swp (partLoop ltInt a (i2 + 1) (j2 - 1) (swp dk i2 j2)).2 (partLoop ltInt a (i2 + 1) (j2 - 1) (swp dk i2 j2)).1 a)) := part_first_go ltInt d a b pivot rfl rfl HD.out hi2.out hj2.out (by omega)
        have HW4 : Hid (Rw w blk off N (swp dk i2 j2) ((wc.setCell ⟨blk, off + i2, none⟩ (.int .u64 (Gk j2))).setCell ⟨blk, off + j2, none⟩ (.int .u64 (Gk i2))).drew) := HW.out.swapD i2 j2 (by rw [HG.out]) (by rw [HG.out])
        go_wp2
        go_region
        go_wp2
        generalize ((wc.setCell ⟨blk, off + i2, none⟩ (.int .u64 (Gk j2))).setCell ⟨blk, off + j2, none⟩ (.int .u64 (Gk i2))).drew = w4 at HW4 ⊢
        clear hy3 v3 hcw hfw HW
        go_loopw [10, 11] (fun vi vj wr => ∃ (i j : Nat) (dj : Array Int), vi = .int .i64 i ∧ vj = .int .i64 j ∧ a < i ∧ i ≤ j + 1 ∧ j < b ∧ Rw w blk off N dj wr ∧ Hid (partLoop ltInt a i j dj = partLoop ltInt a (i2 + 1) (j2 - 1) (swp dk i2 j2)))
          (fun vi vj _ => (intOf vj).toNat + 1 - (intOf vi).toNat)
        case atStart => exact ⟨i2 + 1, j2 - 1, _, by go_num, by go_num, by omega, by omega, by omega, HW4.out, rfl⟩
        case round =>
          clear HW4
          obtain ⟨i, j, dj, rfl, rfl, hai, hij, hjb, hRw, HE⟩ := hrel
          have HW : Hid (Rw w blk off N dj wr) := hRw
          obtain ⟨Gj, hG⟩ : ∃ Gj : Nat → Int, ∀ t, Gj t = dj[t]! := ⟨fun t => dj[t]!, fun _ => rfl⟩
          have HJ : Hid (∀ t, Gj t = dj[t]!) := hG
          clear hRw hG
          go_upto_block 6 with fail
          go_cut [10] from 99 to 114 (fun v wc => ∃ i' : Nat, v = .int .i64 i' ∧ i ≤ i' ∧ i' ≤ j + 1 ∧ Hid (i' = scanUp (fun x => ltInt x dj[a]!) dj j i) ∧ Hid (Rw w blk off N dj wc))
          case first =>
            go_wp2_with fail
            go_loopw [10] (fun vi w1 => ∃ i' : Nat, vi = .int .i64 i' ∧ i ≤ i' ∧ i' ≤ j + 1 ∧ Rw w blk off N dj w1 ∧ Hid (scanUp (fun x => ltInt x dj[a]!) dj j i' = scanUp (fun x => ltInt x dj[a]!) dj j i)) (fun vi _ => j + 1 - (intOf vi).toNat)
            case atStart => exact ⟨i, by go_num, Nat.le_refl _, by omega, HW.out, rfl⟩
            case round =>
              clear HW
              obtain ⟨i', rfl, hi1, hi2, hRw, hsc⟩ := hrel
              have hcw : ∀ t, t < N → wr.cell? ⟨blk, off + t, none⟩ = some (.int .u64 (Gj t)) := fun t ht => by rw [HJ.out]; exact hRw.cell t ht
              have HW : Hid (Rw w blk off N dj wr) := hRw
              clear hRw
              by_cases hle : i' ≤ j
              · skip
                go_wp2_with fail
                go_big_quiet (first | (go_at_call 23; refine Calls.quiet_of_same (less64 _ _ _)))
                go_wp2
                · have ht : ltInt (Gj i') (Gj a) = true := by assumption
                  go_roundw
                  case rel => exact ⟨i' + 1, by go_num, by omega, by omega, HW.out.drewN nq, (scanUp_go (fun x => ltInt x dj[a]!) dj j i' hle (by rw [← HJ.out a, ← HJ.out i']; exact ht)).symm.trans hsc.out⟩
                  case measure => simp [intOf]; omega
                · have ht : ltInt (Gj i') (Gj a) = false := by assumption
                  go_meet
                  case rel => exact ⟨i', rfl, hi1, hi2, (scanUp_end (fun x => ltInt x dj[a]!) dj j i' (Or.inr (by rw [← HJ.out a, ← HJ.out i']; exact ht))).symm.trans hsc.out, HW.out.drewN nq⟩
              · skip
                go_wp2_with fail
                go_big_quiet (first | (go_at_call 23; refine Calls.quiet_of_same (less64 _ _ _)))
                go_wp2
                go_meet
                case rel => exact ⟨i', rfl, hi1, hi2, (scanUp_end (fun x => ltInt x dj[a]!) dj j i' (Or.inl hle)).symm.trans hsc.out, HW.out.drewN nq⟩
          case rest =>
            clear HW
            obtain ⟨i4, rfl, hi5, hi6, hi4', HW⟩ := hcut
            go_upto_block 8 with fail
            go_cut [11] from 115 to 131 (fun v wc => ∃ j' : Nat, v = .int .i64 j' ∧ j' ≤ j ∧ i4 ≤ j' + 1 ∧ Hid (j' = scanDown (fun x => !ltInt x dj[a]!) dj i4 j) ∧ Hid (Rw w blk off N dj wc))
            case first =>
              go_wp2_with fail
              go_loopw [11] (fun vi w1 => ∃ j' : Nat, vi = .int .i64 j' ∧ j' ≤ j ∧ i4 ≤ j' + 1 ∧ Rw w blk off N dj w1 ∧ Hid (scanDown (fun x => !ltInt x dj[a]!) dj i4 j' = scanDown (fun x => !ltInt x dj[a]!) dj i4 j)) (fun vi _ => (intOf vi).toNat)
              case atStart => exact ⟨j, by go_num, Nat.le_refl _, by omega, HW.out, rfl⟩
              case round =>
                clear HW
                obtain ⟨j', rfl, hi1, hi2, hRw, hsc⟩ := hrel
                have hcw : ∀ t, t < N → wr.cell? ⟨blk, off + t, none⟩ = some (.int .u64 (Gj t)) := fun t ht => by rw [HJ.out]; exact hRw.cell t ht
                have HW : Hid (Rw w blk off N dj wr) := hRw
                clear hRw
                by_cases hle : i4 ≤ j'
                · skip
                  go_wp2_with fail
                  go_big_quiet (first | (go_at_call 23; refine Calls.quiet_of_same (less64 _ _ _)))
                  go_wp2
                  · have ht : (!ltInt (Gj j') (Gj a)) = true := by assumption
                    go_roundw
                    case rel => exact ⟨j' - 1, by go_num, by omega, by omega, HW.out.drewN nq, (scanDown_go (fun x => !ltInt x dj[a]!) dj i4 j' hle (by omega) (by rw [← HJ.out a, ← HJ.out j']; exact ht)).symm.trans hsc.out⟩
                    case measure => simp [intOf]; omega
                  · have ht : (!ltInt (Gj j') (Gj a)) = false := by assumption
                    go_meet
                    case rel => exact ⟨j', rfl, hi1, hi2, (scanDown_end (fun x => !ltInt x dj[a]!) dj i4 j' (Or.inr (by rw [← HJ.out a, ← HJ.out j']; exact ht))).symm.trans hsc.out, HW.out.drewN nq⟩
                · skip
                  go_wp2_with fail
                  go_big_quiet (first | (go_at_call 23; refine Calls.quiet_of_same (less64 _ _ _)))
                  go_wp2
                  go_meet
                  case rel => exact ⟨j', rfl, hi1, hi2, (scanDown_end (fun x => !ltInt x dj[a]!) dj i4 j' (Or.inl hle)).symm.trans hsc.out, HW.out.drewN nq⟩
            case rest =>
              clear HW
              obtain ⟨j4, rfl, hj5, hj6, hj4', HW⟩ := hcut
              have hRw := HW.out
              have hcw : ∀ t, t < N → wc.cell? ⟨blk, off + t, none⟩ = some (.int .u64 (Gj t)) := fun t ht => by rw [HJ.out]; exact hRw.cell t ht
              have hfw : ∀ t, t < N → wc.frozen? ⟨blk, off + t, none⟩ = false := hRw.fz
              clear hRw
              by_cases hle4 : i4 ≤ j4
              · have hlt4 : i4 < j4 := part_scans_lt ltInt a i j dj (by omega) hi4'.out hj4'.out hle4
                obtain ⟨v3, hy3⟩ := cell?_setCell_some (w := wc) (p := ⟨blk, off + i4, none⟩) (x := .int .u64 (Gj j4)) (q := ⟨blk, off + j4, none⟩) (hcw j4 (by omega))
                go_wp2
                go_region
                go_wp2
                go_roundw
                case rel =>
                  refine ⟨i4 + 1, j4 - 1, swp dj i4 j4, by go_num, by go_num, by omega, by omega, by omega, HW.out.swapD i4 j4 (by rw [HJ.out]) (by rw [HJ.out]), ?_⟩
                  show _ = _
                  rw [← HE.out]
                  exact (part_go ltInt a i j dj hi4'.out hj4'.out (by omega)).symm
                case measure => simp [intOf]; omega
              · have e := part_break ltInt a i j dj hi4'.out hj4'.out (by omega)
                have HP2 : Hid (partition ltInt d a b pivot = (j4, false, swp dj j4 a)) := by show _ = _; rw [HP.out, ← HE.out, e]
                clear e HP HE
                obtain ⟨v3, hy3⟩ := cell?_setCell_some (w := wc) (p := ⟨blk, off + j4, none⟩) (x := .int .u64 (Gj a)) (q := ⟨blk, off + a, none⟩) (hcw a (by omega))
                go_wp2
                go_region
                go_wp2
                go_ret2
                rw [HP2.out]
                exact ⟨rfl, HW.out.swapD j4 a (by rw [HJ.out]) (by rw [HJ.out])⟩
      · have HP2 : Hid (partition ltInt d a b pivot = (j2, true, swp dk j2 a)) := part_first_break ltInt d a b pivot rfl rfl HD.out hi2.out hj2.out (by omega)
        obtain ⟨v3, hy3⟩ := cell?_setCell_some (w := wc) (p := ⟨blk, off + j2, none⟩) (x := .int .u64 (Gk a)) (q := ⟨blk, off + a, none⟩) (hcw a (by omega))
        go_wp2
        go_region
        go_wp2
        go_ret2
        rw [HP2.out]
        exact ⟨rfl, HW.out.swapD j2 a (by rw [HG.out]) (by rw [HG.out])⟩
end Go.Proofs.Ybulkcxho
