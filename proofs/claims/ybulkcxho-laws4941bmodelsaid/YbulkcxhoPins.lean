import Derived.Test.YbulkcxhoPart2
import Derived.Sort.WalkA6
namespace Go.Proofs.Ybulkcxho
open Go.RowKit Go.Sort
set_option linter.unusedSimpArgs false
set_option linter.unusedVariables false

set_option maxHeartbeats 6400000 in
set_option maxRecDepth 100000 in
theorem pins64 (blk off N cap a b : Nat) (d : Array Int) (w : World) (hN : N ≤ 1024) (hR : RowAt w blk off d) (hd : d.size = N) (hab : a < b) (hb : b ≤ N) :
    Calls Yba.prog 22 #[.slice (some ⟨blk, off, none⟩) N cap, .int .i64 a, .int .i64 b] w fun e w' =>
      e = .returned (.bool (partialInsertionSort ltInt d a b).2) ∧ Rw w blk off N (partialInsertionSort ltInt d a b).1 w' := by
  have H0 : Hid (Rw w blk off N d w) := Rw.start hd hR
  clear hR hd
  go_enter Yba.func22, Yba.ntmps22
  go_wp2
  go_loopw [7, 8] (fun vi vs wr => ∃ (i s : Nat) (dk : Array Int), vi = .int .i64 i ∧ vs = .int .i64 s ∧ s ≤ 5 ∧ a < i ∧ i ≤ b ∧ Rw w blk off N dk wr ∧ Hid (partialIns ltInt a b (5 - s) i dk = partialInsertionSort ltInt d a b)) (fun _ vs _ => 5 - (intOf vs).toNat)
  case atStart => exact ⟨a + 1, 0, d, by go_num, rfl, by omega, by omega, by omega, H0.out, rfl⟩
  case round =>
    clear H0
    obtain ⟨i, s, dk, rfl, rfl, hs5, hai, hib, hRw, HE⟩ := hrel
    have HW : Hid (Rw w blk off N dk wr) := hRw
    clear hRw
    obtain ⟨Gk, hG⟩ : ∃ Gk : Nat → Int, ∀ t, Gk t = dk[t]! := ⟨fun t => dk[t]!, fun _ => rfl⟩
    have HG : Hid (∀ t, Gk t = dk[t]!) := hG
    clear hG
    by_cases hs : s < 5
    · have hsz : (s : Int) < 5 := by omega
      go_upto_block 2 with fail
      go_cut [7] from 17 to 34 (fun v wc => ∃ k : Nat, v = .int .i64 k ∧ i ≤ k ∧ k ≤ b ∧ Hid (scanSorted ltInt dk b i = k) ∧ Hid (Rw w blk off N dk wc))
      case first =>
        go_wp2_with fail
        go_loopw [7] (fun vi w1 => ∃ k : Nat, vi = .int .i64 k ∧ i ≤ k ∧ k ≤ b ∧ Rw w blk off N dk w1 ∧ Hid (scanSorted ltInt dk b k = scanSorted ltInt dk b i)) (fun vi _ => b - (intOf vi).toNat)
        case atStart => exact ⟨i, rfl, Nat.le_refl _, hib, HW.out, rfl⟩
        case round =>
          clear HW
          obtain ⟨k, rfl, hik, hkb, hRw, hsc⟩ := hrel
          have hcw : ∀ t, t < N → wr.cell? ⟨blk, off + t, none⟩ = some (.int .u64 (Gk t)) := fun t ht => by rw [HG.out]; exact hRw.cell t ht
          have HW : Hid (Rw w blk off N dk wr) := hRw
          clear hRw
          by_cases hle : k < b
          · go_wp2_with fail
            go_big_quiet (first | (go_at_call 23; refine Calls.quiet_of_same (less64 _ _ _)))
            go_wp2
            · have ht : (!ltInt (Gk k) (Gk (k - 1))) = true := by assumption
              go_roundw
              case rel => exact ⟨k + 1, by go_num, by omega, by omega, HW.out.drewN nq, (scanSorted_go ltInt dk b k hle (by rw [← HG.out, ← HG.out]; simpa using ht)).symm.trans hsc.out⟩
              case measure => simp [intOf]; omega
            · have ht : (!ltInt (Gk k) (Gk (k - 1))) = false := by assumption
              go_meet
              case rel => exact ⟨k, rfl, hik, hkb, hsc.out.symm.trans (scanSorted_stop ltInt dk b k (Or.inr (by rw [← HG.out, ← HG.out]; simpa using ht))), HW.out.drewN nq⟩
          · go_wp2_with fail
            go_big_quiet (first | (go_at_call 23; refine Calls.quiet_of_same (less64 _ _ _)))
            go_wp2
            go_meet
            case rel => exact ⟨k, rfl, hik, hkb, hsc.out.symm.trans (scanSorted_stop ltInt dk b k (Or.inl hle)), HW.out.drewN nq⟩
      case rest =>
        clear HW
        obtain ⟨k, rfl, hik, hkb, hK, HW⟩ := hcut
        by_cases hkeq : k = b
        · subst hkeq
          go_wp2
          go_ret
          rw [← HE.out, pi_true ltInt a k s i dk hs hK.out]
          exact ⟨rfl, HW.out⟩
        · have hkz : ((k : Int) == (b : Int)) = false := by simp; omega
          by_cases h50 : b - a < 50
          · have h50z : (b : Int) - (a : Int) < 50 := by omega
            go_wp2
            go_ret
            rw [← HE.out, pi_short ltInt a b s i dk hs (by rw [hK.out]; exact hkeq) h50]
            exact ⟨rfl, HW.out⟩
          · have h50z : ¬ ((b : Int) - (a : Int) < 50) := by omega
            have hRw := HW.out
            have hcw : ∀ t, t < N → wc.cell? ⟨blk, off + t, none⟩ = some (.int .u64 (Gk t)) := fun t ht => by rw [HG.out]; exact hRw.cell t ht
            have hfw : ∀ t, t < N → wc.frozen? ⟨blk, off + t, none⟩ = false := hRw.fz
            clear hRw
            have HS : Hid (Rw w blk off N (swp dk k (k - 1)) ((wc.setCell ⟨blk, off + k, none⟩ (.int .u64 (Gk (k - 1)))).setCell ⟨blk, off + (k - 1), none⟩ (.int .u64 (Gk k))).drew) := HW.out.swapD k (k - 1) (by rw [HG.out]) (by rw [HG.out])
            have HP : Hid (partialIns ltInt a b (5 - (s + 1)) k (fixUp ltInt b k (fixDown ltInt a k (swp dk k (k - 1)))) = partialInsertionSort ltInt d a b) := by show _ = _; rw [← HE.out, pi_go ltInt a b s i k dk hs hK.out hkeq h50]
            go_wp2
            go_region
            generalize ((wc.setCell ⟨blk, off + k, none⟩ (.int .u64 (Gk (k - 1)))).setCell ⟨blk, off + (k - 1), none⟩ (.int .u64 (Gk k))).drew = w4 at HS ⊢
            clear hcw hfw HW HG HE
            generalize swp dk k (k - 1) = dS at HS HP
            go_upto_if 61 with fail
            go_cut [] from 58 to 94 (fun wx => Hid (Rw w blk off N (fixDown ltInt a k dS) wx))
            case first =>
              by_cases hge : k - a ≥ 2
              · have hgz : (2 : Int) ≤ (k : Int) - (a : Int) := by omega
                go_wp2_with fail
                go_loopw [9] (fun vj w1 => ∃ (j : Nat) (dj : Array Int), vj = .int .i64 j ∧ j ≤ k - 1 ∧ Rw w blk off N dj w1 ∧ Hid (shiftDown ltInt j dj = shiftDown ltInt (k - 1) dS)) (fun vj _ => (intOf vj).toNat)
                case atStart => exact ⟨k - 1, dS, by go_num, Nat.le_refl _, HS.out, rfl⟩
                case round =>
                  clear HS
                  obtain ⟨j, dj, rfl, hj1, hRw, HSH⟩ := hrel
                  obtain ⟨Gj, hGj⟩ : ∃ Gj : Nat → Int, ∀ t, Gj t = dj[t]! := ⟨fun t => dj[t]!, fun _ => rfl⟩
                  have hcw : ∀ t, t < N → wr.cell? ⟨blk, off + t, none⟩ = some (.int .u64 (Gj t)) := fun t ht => by rw [hGj]; exact hRw.cell t ht
                  have hfw : ∀ t, t < N → wr.frozen? ⟨blk, off + t, none⟩ = false := hRw.fz
                  have HW3 : Hid (Rw w blk off N dj wr) := hRw
                  have HJ : Hid (∀ t, Gj t = dj[t]!) := hGj
                  clear hRw hGj
                  by_cases hc : 1 ≤ j
                  · have hcz : (1 : Int) ≤ (j : Int) := by omega
                    go_wp2_with fail
                    go_big_quiet (first | (go_at_call 23; refine Calls.quiet_of_same (less64 _ _ _)))
                    go_wp2_with fail
                    · have ht : (!ltInt (Gj j) (Gj (j - 1))) = true := by assumption
                      go_meet
                      case rel =>
                        show Rw w blk off N (fixDown ltInt a k dS) _
                        rw [fixDown, if_pos hge, ← HSH.out, shiftDown_stop ltInt j dj (Or.inr (by rw [← HJ.out, ← HJ.out]; simpa using ht))]
                        exact HW3.out.drewN nq
                    · have ht : (!ltInt (Gj j) (Gj (j - 1))) = false := by assumption
                      have HW4 : Hid (Rw w blk off N dj (wr.drewN nq)) := HW3.out.drewN nq
                      have hcw4 : ∀ t, t < N → (wr.drewN nq).cell? ⟨blk, off + t, none⟩ = some (.int .u64 (Gj t)) := hcw
                      have hfw4 : ∀ t, t < N → (wr.drewN nq).frozen? ⟨blk, off + t, none⟩ = false := hfw
                      clear hcw hfw HW3
                      generalize wr.drewN nq = wr4 at hcw4 hfw4 HW4 ⊢
                      go_region
                      go_wp2
                      go_roundw
                      case rel => exact ⟨j - 1, swp dj j (j - 1), by go_num, by omega, HW4.out.swapD j (j - 1) (by rw [HJ.out]) (by rw [HJ.out]), (shiftDown_go ltInt j dj hc (by rw [← HJ.out, ← HJ.out]; simpa using ht)).symm.trans HSH.out⟩
                      case measure => simp [intOf]; omega
                  · have hcz : ¬ ((1 : Int) ≤ (j : Int)) := by omega
                    go_wp2
                    go_meet
                    case rel =>
                      show Rw w blk off N (fixDown ltInt a k dS) _
                      rw [fixDown, if_pos hge, ← HSH.out, shiftDown_stop ltInt j dj (Or.inl (by omega))]
                      exact HW3.out
              · have hgz : ¬ ((2 : Int) ≤ (k : Int) - (a : Int)) := by omega
                go_wp2
                go_meet
                case rel =>
                  show Rw w blk off N (fixDown ltInt a k dS) _
                  rw [fixDown, if_neg hge]
                  exact HS.out
            case rest =>
              clear HS
              have HS := hcut
              clear hcut
              generalize fixDown ltInt a k dS = dT at HS HP
              go_upto_if 98 with fail
              by_cases hge : b - k ≥ 2
              · have hgz : (2 : Int) ≤ (b : Int) - (k : Int) := by omega
                go_wp2_with fail
                go_loopw [10] (fun vj w1 => ∃ (j : Nat) (dj : Array Int), vj = .int .i64 j ∧ k + 1 ≤ j ∧ j ≤ b ∧ Rw w blk off N dj w1 ∧ Hid (shiftUp ltInt b j dj = shiftUp ltInt b (k + 1) dT)) (fun vj _ => b - (intOf vj).toNat)
                case atStart => exact ⟨k + 1, dT, by go_num, Nat.le_refl _, by omega, HS.out, rfl⟩
                case round =>
                  clear HS
                  obtain ⟨j, dj, rfl, hj1, hj2, hRw, HSH⟩ := hrel
                  obtain ⟨Gj, hGj⟩ : ∃ Gj : Nat → Int, ∀ t, Gj t = dj[t]! := ⟨fun t => dj[t]!, fun _ => rfl⟩
                  have hcw : ∀ t, t < N → wr.cell? ⟨blk, off + t, none⟩ = some (.int .u64 (Gj t)) := fun t ht => by rw [hGj]; exact hRw.cell t ht
                  have hfw : ∀ t, t < N → wr.frozen? ⟨blk, off + t, none⟩ = false := hRw.fz
                  have HW3 : Hid (Rw w blk off N dj wr) := hRw
                  have HJ : Hid (∀ t, Gj t = dj[t]!) := hGj
                  clear hRw hGj
                  by_cases hc : j < b
                  · have hcz : (j : Int) < (b : Int) := by omega
                    go_wp2_with fail
                    go_big_quiet (first | (go_at_call 23; refine Calls.quiet_of_same (less64 _ _ _)))
                    go_wp2_with fail
                    · have ht : (!ltInt (Gj j) (Gj (j - 1))) = true := by assumption
                      go_wp2
                      go_roundw
                      case rel =>
                        refine ⟨k, s + 1, fixUp ltInt b k dT, rfl, by go_num, by omega, by omega, by omega, ?_, HP⟩
                        rw [fixUp, if_pos hge, ← HSH.out, shiftUp_stop ltInt b j dj (Or.inr (by rw [← HJ.out, ← HJ.out]; simpa using ht))]
                        exact HW3.out.drewN nq
                      case measure => simp [intOf]; omega
                    · have ht : (!ltInt (Gj j) (Gj (j - 1))) = false := by assumption
                      have HW4 : Hid (Rw w blk off N dj (wr.drewN nq)) := HW3.out.drewN nq
                      have hcw4 : ∀ t, t < N → (wr.drewN nq).cell? ⟨blk, off + t, none⟩ = some (.int .u64 (Gj t)) := hcw
                      have hfw4 : ∀ t, t < N → (wr.drewN nq).frozen? ⟨blk, off + t, none⟩ = false := hfw
                      clear hcw hfw HW3
                      generalize wr.drewN nq = wr4 at hcw4 hfw4 HW4 ⊢
                      go_region
                      go_wp2
                      go_roundw
                      case rel => exact ⟨j + 1, swp dj j (j - 1), by go_num, by omega, by omega, HW4.out.swapD j (j - 1) (by rw [HJ.out]) (by rw [HJ.out]), (shiftUp_go ltInt b j dj hc (by rw [← HJ.out, ← HJ.out]; simpa using ht)).symm.trans HSH.out⟩
                      case measure => simp [intOf]; omega
                  · have hcz : ¬ ((j : Int) < (b : Int)) := by omega
                    go_wp2
                    go_roundw
                    case rel =>
                      refine ⟨k, s + 1, fixUp ltInt b k dT, rfl, by go_num, by omega, by omega, by omega, ?_, HP⟩
                      rw [fixUp, if_pos hge, ← HSH.out, shiftUp_stop ltInt b j dj (Or.inl hc)]
                      exact HW3.out
                    case measure => simp [intOf]; omega
              · have hgz : ¬ ((2 : Int) ≤ (b : Int) - (k : Int)) := by omega
                go_wp2
                go_roundw
                case rel =>
                  refine ⟨k, s + 1, fixUp ltInt b k dT, rfl, by go_num, by omega, by omega, by omega, ?_, HP⟩
                  rw [fixUp, if_neg hge]
                  exact HS.out
                case measure => simp [intOf]; omega
    · have hsz : ¬ ((s : Int) < 5) := by omega
      obtain rfl : s = 5 := by omega
      go_wp2
      go_ret
      rw [← HE.out, pi_end ltInt a b i dk]
      exact ⟨rfl, HW.out⟩
end Go.Proofs.Ybulkcxho
