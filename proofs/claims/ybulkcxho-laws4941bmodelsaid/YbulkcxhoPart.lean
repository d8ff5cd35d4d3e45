import Derived.Test.YbulkcxhoHeap
import Derived.Sort.WalkC4
import Derived.Deep.CutRange
import Derived.Deep.CutBlock
namespace Go.Proofs.Ybulkcxho
open Go.RowKit Go.Sort
set_option linter.unusedSimpArgs false
set_option linter.unusedVariables false

theorem Rw.swapD' {w0 w : World} {blk off N : Nat} {d : Array Int} (h : Rw w0 blk off N d w) (j k : Nat) {x y : Value} (hx : x = .int .u64 d[k]!) (hy : y = .int .u64 d[j]!) :
    Rw w0 blk off N (swp d j k) ((w.setCell ⟨blk, off + j, none⟩ x).setCell ⟨blk, off + k, none⟩ y) := by
  subst hx; subst hy
  exact h.swap 0 j k

set_option maxHeartbeats 6400000 in
set_option maxRecDepth 100000 in
theorem partEq64 (blk off N cap a b pivot : Nat) (d : Array Int) (w : World) (hN : N ≤ 1024) (hR : RowAt w blk off d) (hd : d.size = N) (hap : a ≤ pivot) (hpb : pivot < b) (hb : b ≤ N) :
    Calls Yba.prog 24 #[.slice (some ⟨blk, off, none⟩) N cap, .int .i64 a, .int .i64 b, .int .i64 pivot] w fun e w' =>
      e = .returned (.int .i64 (partitionEqual ltInt d a b pivot).1) ∧ Rw w blk off N (partitionEqual ltInt d a b pivot).2 w' := by
  have hR0 : Rw w blk off N d w := Rw.start hd hR
  obtain ⟨G, hG⟩ : ∃ G : Nat → Int, ∀ t, G t = d[t]! := ⟨fun t => d[t]!, fun _ => rfl⟩
  have hcw : ∀ t, t < N → w.cell? ⟨blk, off + t, none⟩ = some (.int .u64 (G t)) := fun t ht => by rw [hG]; exact hR0.cell t ht
  have hfw : ∀ t, t < N → w.frozen? ⟨blk, off + t, none⟩ = false := hR0.fz
  obtain ⟨v', hy'⟩ := cell?_setCell_some (w := w) (p := ⟨blk, off + a, none⟩) (x := .int .u64 (G pivot)) (q := ⟨blk, off + pivot, none⟩) (hcw pivot (by omega))
  have HG : Hid (∀ t, G t = d[t]!) := hG
  have H0 : Hid (Rw w blk off N d w) := hR0
  clear hG hR0 hR hd
  go_enter Yba.func24, Yba.ntmps24
  go_wp2
  go_region
  go_wp2
  go_loopw [9, 10] (fun vi vj wr => ∃ (i j : Nat) (dk : Array Int), vi = .int .i64 i ∧ vj = .int .i64 j ∧ a < i ∧ i ≤ j + 1 ∧ j < b ∧ Rw w blk off N dk wr ∧
      partEqLoop ltInt a i j dk = partEqLoop ltInt a (a + 1) (b - 1) (swp d a pivot))
    (fun vi vj _ => (intOf vj).toNat + 1 - (intOf vi).toNat)
  case atStart => exact ⟨a + 1, b - 1, swp d a pivot, by go_num, by go_num, by omega, by omega, by omega, H0.out.swapD a pivot (by rw [HG.out]) (by rw [HG.out]), rfl⟩
  case round =>
    obtain ⟨i, j, dk, rfl, rfl, hai, hij, hjb, hRw, heq⟩ := hrel
    clear hcw hfw hy' v' HG H0
    have HW : Hid (Rw w blk off N dk wr) := hRw
    have HE : Hid (partEqLoop ltInt a i j dk = partEqLoop ltInt a (a + 1) (b - 1) (swp d a pivot)) := heq
    obtain ⟨Gk, hG⟩ : ∃ Gk : Nat → Int, ∀ t, Gk t = dk[t]! := ⟨fun t => dk[t]!, fun _ => rfl⟩
    have HG : Hid (∀ t, Gk t = dk[t]!) := hG
    clear hRw heq hG
    go_upto_block 2 with fail
    go_cut [9] from 29 to 45 (fun v wc => ∃ i' : Nat, v = .int .i64 i' ∧ i ≤ i' ∧ i' ≤ j + 1 ∧ Hid (i' = scanUp (fun x => !ltInt dk[a]! x) dk j i) ∧ Hid (Rw w blk off N dk wc))
    case first =>
      go_wp2_with fail
      go_loopw [9] (fun vi w1 => ∃ i' : Nat, vi = .int .i64 i' ∧ i ≤ i' ∧ i' ≤ j + 1 ∧ Rw w blk off N dk w1 ∧ Hid (scanUp (fun x => !ltInt dk[a]! x) dk j i' = scanUp (fun x => !ltInt dk[a]! x) dk j i)) (fun vi _ => j + 1 - (intOf vi).toNat)
      case atStart => exact ⟨i, rfl, Nat.le_refl _, hij, HW.out, rfl⟩
      case round =>
        clear HW
        obtain ⟨i', rfl, hii, hij', hRw, hsc⟩ := hrel
        have hcw : ∀ t, t < N → wr.cell? ⟨blk, off + t, none⟩ = some (.int .u64 (Gk t)) := fun t ht => by rw [HG.out]; exact hRw.cell t ht
        have HW : Hid (Rw w blk off N dk wr) := hRw
        clear hRw
        by_cases hle : i' ≤ j
        · go_wp2_with fail
          go_big_quiet (first | (go_at_call 23; refine Calls.quiet_of_same (less64 _ _ _)))
          go_wp2
          · have ht : (!ltInt (Gk a) (Gk i')) = true := by assumption
            go_roundw
            case rel => exact ⟨i' + 1, by go_num, by omega, by omega, HW.out.drewN nq, (scanUp_go (fun x => !ltInt dk[a]! x) dk j i' hle (by rw [← HG.out a, ← HG.out i']; exact ht)).symm.trans hsc.out⟩
            case measure => simp [intOf]; omega
          · have ht : (!ltInt (Gk a) (Gk i')) = false := by assumption
            go_meet
            case rel => exact ⟨i', rfl, hii, hij', (scanUp_end (fun x => !ltInt dk[a]! x) dk j i' (Or.inr (by rw [← HG.out a, ← HG.out i']; exact ht))).symm.trans hsc.out, HW.out.drewN nq⟩
        · go_wp2_with fail
          go_big_quiet (first | (go_at_call 23; refine Calls.quiet_of_same (less64 _ _ _)))
          go_wp2
          go_meet
          case rel => exact ⟨i', rfl, hii, hij', (scanUp_end (fun x => !ltInt dk[a]! x) dk j i' (Or.inl hle)).symm.trans hsc.out, HW.out.drewN nq⟩
    case rest =>
      clear HW
      obtain ⟨i2, rfl, hii, hij2, hi2, HW⟩ := hcut
      go_upto_block 4 with fail
      go_cut [10] from 46 to 61 (fun v wc => ∃ j' : Nat, v = .int .i64 j' ∧ j' ≤ j ∧ i2 ≤ j' + 1 ∧ Hid (j' = scanDown (fun x => ltInt dk[a]! x) dk i2 j) ∧ Hid (Rw w blk off N dk wc))
      case first =>
        go_wp2_with fail
        go_loopw [10] (fun vj w2 => ∃ j' : Nat, vj = .int .i64 j' ∧ j' ≤ j ∧ i2 ≤ j' + 1 ∧ Rw w blk off N dk w2 ∧ Hid (scanDown (fun x => ltInt dk[a]! x) dk i2 j' = scanDown (fun x => ltInt dk[a]! x) dk i2 j)) (fun vj _ => (intOf vj).toNat)
        case atStart => exact ⟨j, rfl, Nat.le_refl _, hij2, HW.out, rfl⟩
        case round =>
          clear HW
          obtain ⟨j', rfl, hjj, hij3, hRw, hsd⟩ := hrel
          have hcw : ∀ t, t < N → wr.cell? ⟨blk, off + t, none⟩ = some (.int .u64 (Gk t)) := fun t ht => by rw [HG.out]; exact hRw.cell t ht
          have HW : Hid (Rw w blk off N dk wr) := hRw
          clear hRw
          by_cases hle : i2 ≤ j'
          · go_wp2_with fail
            go_big_quiet (first | (go_at_call 23; refine Calls.quiet_of_same (less64 _ _ _)))
            go_wp2
            · have ht : ltInt (Gk a) (Gk j') = true := by assumption
              go_roundw
              case rel => exact ⟨j' - 1, by go_num, by omega, by omega, HW.out.drewN nq, (scanDown_go (fun x => ltInt dk[a]! x) dk i2 j' hle (by omega) (by rw [← HG.out a, ← HG.out j']; exact ht)).symm.trans hsd.out⟩
              case measure => simp [intOf]; omega
            · have ht : ltInt (Gk a) (Gk j') = false := by assumption
              go_meet
              case rel => exact ⟨j', rfl, hjj, hij3, (scanDown_end (fun x => ltInt dk[a]! x) dk i2 j' (Or.inr (by rw [← HG.out a, ← HG.out j']; exact ht))).symm.trans hsd.out, HW.out.drewN nq⟩
          · go_wp2_with fail
            go_big_quiet (first | (go_at_call 23; refine Calls.quiet_of_same (less64 _ _ _)))
            go_wp2
            go_meet
            case rel => exact ⟨j', rfl, hjj, hij3, (scanDown_end (fun x => ltInt dk[a]! x) dk i2 j' (Or.inl hle)).symm.trans hsd.out, HW.out.drewN nq⟩
      case rest =>
        clear HW
        obtain ⟨j2, rfl, hjj, hij3, hj2, HW⟩ := hcut
        have hRw := HW.out
        have hcw : ∀ t, t < N → wc.cell? ⟨blk, off + t, none⟩ = some (.int .u64 (Gk t)) := fun t ht => by rw [HG.out]; exact hRw.cell t ht
        have hfw : ∀ t, t < N → wc.frozen? ⟨blk, off + t, none⟩ = false := hRw.fz
        clear hRw
        by_cases hle : i2 ≤ j2
        · have hlt3 : i2 < j2 := scans_lt ltInt a i j dk (by omega) hi2.out hj2.out hle
          obtain ⟨v3, hy3⟩ := cell?_setCell_some (w := wc) (p := ⟨blk, off + i2, none⟩) (x := .int .u64 (Gk j2)) (q := ⟨blk, off + j2, none⟩) (hcw j2 (by omega))
          go_wp2
          go_region
          go_wp2
          go_roundw
          case rel =>
            refine ⟨i2 + 1, j2 - 1, swp dk i2 j2, by go_num, by go_num, by omega, by omega, by omega, HW.out.swapD i2 j2 (by rw [HG.out]) (by rw [HG.out]), ?_⟩
            rw [← HE.out]
            exact (partEq_go ltInt a i j dk hi2.out hj2.out (by omega)).symm
          case measure => simp [intOf]; omega
        · go_wp2
          go_ret
          have e := partEq_break ltInt a i j dk hi2.out hj2.out (by omega)
          unfold partitionEqual
          rw [← HE.out, e]
          exact ⟨rfl, HW.out⟩
end Go.Proofs.Ybulkcxho
