import Derived.Test.YbulkcxhoRow
import Derived.Sort.WalkB3
import Derived.Deep.LoopGhost
namespace Go.Proofs.Ybulkcxho
open Go.RowKit Go.Sort
set_option linter.unusedSimpArgs false
set_option linter.unusedVariables false

theorem Rw.swapD {w0 w : World} {blk off N : Nat} {d : Array Int} (h : Rw w0 blk off N d w) (j k : Nat) {x y : Value} (hx : x = .int .u64 d[k]!) (hy : y = .int .u64 d[j]!) :
    Rw w0 blk off N (swp d j k) ((w.setCell ⟨blk, off + j, none⟩ x).setCell ⟨blk, off + k, none⟩ y).drew := by
  subst hx; subst hy
  exact (h.swap 0 j k).drewN 1

set_option maxHeartbeats 1600000 in
set_option maxRecDepth 1000000 in
theorem rev64 (blk off N cap a b : Nat) (d : Array Int) (w : World) (hN : N ≤ 1024) (hR : RowAt w blk off d) (hd : d.size = N) (hab : a ≤ b) (hb : b ≤ N) :
    Calls Yba.prog 21 #[.slice (some ⟨blk, off, none⟩) N cap, .int .i64 a, .int .i64 b] w fun e w' => e = .returned (.tuple #[]) ∧ Rw w blk off N (reverseRange d a b) w' := by
  have H0 : Hid (RowAt w blk off d ∧ d.size = N) := ⟨hR, hd⟩
  clear hR hd
  go_enter Yba.func21, Yba.ntmps21
  go_wp2
  go_loopg [6, 7] (b - a) (fun k s6 s7 wr => ∃ (i jn : Nat) (jz : Int) (dk : Array Int), s6 = .int .i64 i ∧ s7 = .int .i64 jz ∧ ((i : Int) < jz → jz = jn ∧ jn < N) ∧ (¬ (i : Int) < jz → ¬ i < jn) ∧ jn - i ≤ k ∧
    Rw w blk off N dk wr ∧ reverseLoop i jn dk = reverseLoop a (b - 1) d)
  case atStart => exact ⟨a, b - 1, (b : Int) - 1, d, rfl, rfl, fun h => ⟨by omega, by omega⟩, fun h => by omega, by omega, Rw.start H0.out.2 H0.out.1, rfl⟩
  case round =>
    obtain ⟨i, jn, jz, dk, rfl, rfl, h1, h2, hk, hRw, heq⟩ := hrel
    by_cases hlt : (i : Int) < jz
    · obtain ⟨rfl, hjn⟩ := h1 hlt
      have hij : i < jn := by omega
      have ci := hRw.cell i (by omega)
      have cj := hRw.cell jn (by omega)
      have fi := hRw.fz i (by omega)
      have fj := hRw.fz jn (by omega)
      have A : Hid (Rw w blk off N dk wr) := hRw
      have HE : Hid (reverseLoop i jn dk = reverseLoop a (b - 1) d) := heq
      generalize hx : dk[i]! = x at ci
      generalize hy : dk[jn]! = y at cj
      have HX : Hid (dk[i]! = x ∧ dk[jn]! = y) := ⟨hx, hy⟩
      clear hRw h1 h2 hx hy heq
      go_wp2_with fail
      go_region
      go_wp2
      go_roundg (jn - 1 - (i + 1))
      case measure => omega
      case rel =>
        have heq := HE.out
        rw [reverseLoop, if_pos hij] at heq
        exact ⟨i + 1, jn - 1, (jn : Int) - 1, swp dk i jn, by simp, rfl, fun h => ⟨by omega, by omega⟩, fun h => by omega, Nat.le_refl _, A.out.swapD i jn (by rw [HX.out.2]) (by rw [HX.out.1]), heq⟩
    · have hnot := h2 hlt
      go_wp2
      go_end0
      refine ⟨rfl, ?_⟩
      rw [reverseLoop, if_neg hnot] at heq
      rw [reverseRange, ← heq]
      exact hRw

set_option maxHeartbeats 3200000 in
set_option maxRecDepth 1000000 in
theorem sift64 (blk off N cap lo hi first : Nat) (d : Array Int) (w : World) (hN : N ≤ 1024) (hR : RowAt w blk off d) (hd : d.size = N) (hlo : lo ≤ hi) (hb : first + hi ≤ N) :
    Calls Yba.prog 28 #[.slice (some ⟨blk, off, none⟩) N cap, .int .i64 lo, .int .i64 hi, .int .i64 first] w fun e w' => e = .returned (.tuple #[]) ∧ Rw w blk off N (siftDown ltInt hi first lo d) w' := by
  have H0 : Hid (RowAt w blk off d ∧ d.size = N) := ⟨hR, hd⟩
  clear hR hd
  go_enter Yba.func28, Yba.ntmps28
  go_wp2
  go_loopg [8] (hi - lo) (fun k s8 wr => ∃ (root : Nat) (dk : Array Int), s8 = .int .i64 root ∧ root ≤ hi ∧ hi - root ≤ k ∧ Rw w blk off N dk wr ∧ siftDown ltInt hi first root dk = siftDown ltInt hi first lo d)
  case atStart => exact ⟨lo, d, rfl, hlo, Nat.le_refl _, Rw.start H0.out.2 H0.out.1, rfl⟩
  case round =>
    obtain ⟨root, dk, rfl, hr, hk, hRw, heq⟩ := hrel
    obtain ⟨G, hG⟩ : ∃ G : Nat → Int, ∀ t, G t = dk[t]! := ⟨fun t => dk[t]!, fun _ => rfl⟩
    have hcw : ∀ t, t < N → wr.cell? ⟨blk, off + t, none⟩ = some (.int .u64 (G t)) := fun t ht => by rw [hG]; exact hRw.cell t ht
    have hfw : ∀ t, t < N → wr.frozen? ⟨blk, off + t, none⟩ = false := hRw.fz
    have HW : Hid (Rw w blk off N dk wr) := hRw
    have HG : Hid (∀ t, G t = dk[t]!) := hG
    have HE : Hid (siftDown ltInt hi first root dk = siftDown ltInt hi first lo d) := heq
    clear hRw hG heq
    by_cases h0 : hi ≤ 2 * root + 1
    · have h0z : (hi : Int) ≤ 2 * (root : Int) + 1 := by omega
      go_wp2
      go_end0
      refine ⟨rfl, ?_⟩
      rw [← HE.out, sd_end ltInt dk h0]
      exact HW.out
    · have h0z : ¬ ((hi : Int) ≤ 2 * (root : Int) + 1) := by omega
      by_cases h1 : 2 * root + 2 < hi
      · have h1z : 2 * (root : Int) + 1 + 1 < (hi : Int) := by omega
        go_wp2_with fail
        go_big_quiet (first | (go_at_call 23; refine Calls.quiet_of_same (less64 _ _ _)))
        go_wp2_with fail
        · have hL : ltInt (G (first + (2 * root + 1))) (G (first + (2 * root + 2))) = true := by assumption
          revert nq; intro nq1
          have HW2 : Hid (Rw w blk off N dk (wr.drewN nq1)) := HW.out.drewN nq1
          have hcw2 : ∀ t, t < N → (wr.drewN nq1).cell? ⟨blk, off + t, none⟩ = some (.int .u64 (G t)) := hcw
          have hfw2 : ∀ t, t < N → (wr.drewN nq1).frozen? ⟨blk, off + t, none⟩ = false := hfw
          clear hcw hfw HW
          generalize wr.drewN nq1 = wr2 at hcw2 hfw2 HW2 ⊢
          go_big_quiet (first | (go_at_call 23; refine Calls.quiet_of_same (less64 _ _ _)))
          go_wp2_with fail
          · have hS : ltInt (G (first + root)) (G (first + 2 * root + 2)) = false := by
              have : (!ltInt (G (first + root)) (G (first + 2 * root + 2))) = true := by assumption
              simpa using this
            (try simp only [Exit.inBlock, Exit.then]); refine bodyPost_ret (results_none rfl _ _ _) rfl ?_
            refine ⟨rfl, ?_⟩
            rw [← HE.out, sd_right_stop ltInt dk h1 (by rw [← HG.out, ← HG.out]; exact hL) (by rw [← HG.out, ← HG.out]; exact hS)]
            exact HW2.out.drewN nq
          · have hS : ltInt (G (first + root)) (G (first + 2 * root + 2)) = true := by
              have : (!ltInt (G (first + root)) (G (first + 2 * root + 2))) = false := by assumption
              simpa using this
            have HW3 : Hid (Rw w blk off N dk (wr2.drewN nq)) := HW2.out.drewN nq
            have hcw3 : ∀ t, t < N → (wr2.drewN nq).cell? ⟨blk, off + t, none⟩ = some (.int .u64 (G t)) := hcw2
            have hfw3 : ∀ t, t < N → (wr2.drewN nq).frozen? ⟨blk, off + t, none⟩ = false := hfw2
            clear hcw2 hfw2 HW2
            generalize wr2.drewN nq = wr3 at hcw3 hfw3 HW3 ⊢
            go_region
            go_wp2
            go_roundg (hi - (2 * root + 2))
            case measure => omega
            case rel =>
              refine ⟨2 * root + 2, swp dk (first + root) (first + (2 * root + 1 + 1)), by simp <;> omega, by omega, Nat.le_refl _, HW3.out.swapD _ _ (by rw [HG.out]; rfl) (by rw [HG.out]), ?_⟩
              rw [← HE.out, sd_right_go ltInt dk h1 (by rw [← HG.out, ← HG.out]; exact hL) (by rw [← HG.out, ← HG.out]; exact hS)]
        · have hL : ltInt (G (first + (2 * root + 1))) (G (first + (2 * root + 2))) = false := by assumption
          revert nq; intro nq1
          have HW2 : Hid (Rw w blk off N dk (wr.drewN nq1)) := HW.out.drewN nq1
          have hcw2 : ∀ t, t < N → (wr.drewN nq1).cell? ⟨blk, off + t, none⟩ = some (.int .u64 (G t)) := hcw
          have hfw2 : ∀ t, t < N → (wr.drewN nq1).frozen? ⟨blk, off + t, none⟩ = false := hfw
          clear hcw hfw HW
          generalize wr.drewN nq1 = wr2 at hcw2 hfw2 HW2 ⊢
          go_big_quiet (first | (go_at_call 23; refine Calls.quiet_of_same (less64 _ _ _)))
          go_wp2_with fail
          · have hS : ltInt (G (first + root)) (G (first + 2 * root + 1)) = false := by
              have : (!ltInt (G (first + root)) (G (first + 2 * root + 1))) = true := by assumption
              simpa using this
            (try simp only [Exit.inBlock, Exit.then]); refine bodyPost_ret (results_none rfl _ _ _) rfl ?_
            refine ⟨rfl, ?_⟩
            rw [← HE.out, sd_left_stop ltInt dk (by omega) (fun _ => by rw [← HG.out, ← HG.out]; exact hL) (by rw [← HG.out, ← HG.out]; exact hS)]
            exact HW2.out.drewN nq
          · have hS : ltInt (G (first + root)) (G (first + 2 * root + 1)) = true := by
              have : (!ltInt (G (first + root)) (G (first + 2 * root + 1))) = false := by assumption
              simpa using this
            have HW3 : Hid (Rw w blk off N dk (wr2.drewN nq)) := HW2.out.drewN nq
            have hcw3 : ∀ t, t < N → (wr2.drewN nq).cell? ⟨blk, off + t, none⟩ = some (.int .u64 (G t)) := hcw2
            have hfw3 : ∀ t, t < N → (wr2.drewN nq).frozen? ⟨blk, off + t, none⟩ = false := hfw2
            clear hcw2 hfw2 HW2
            generalize wr2.drewN nq = wr3 at hcw3 hfw3 HW3 ⊢
            go_region
            go_wp2
            go_roundg (hi - (2 * root + 1))
            case measure => omega
            case rel =>
              refine ⟨2 * root + 1, swp dk (first + root) (first + (2 * root + 1)), by simp <;> omega, by omega, Nat.le_refl _, HW3.out.swapD _ _ (by rw [HG.out]; rfl) (by rw [HG.out]), ?_⟩
              rw [← HE.out, sd_left_go ltInt dk (by omega) (fun _ => by rw [← HG.out, ← HG.out]; exact hL) (by rw [← HG.out, ← HG.out]; exact hS)]
      · have h1z : decide (2 * (root : Int) + 1 + 1 < (hi : Int)) = false := decide_eq_false (by omega)
        go_wp2_with fail
        go_big_quiet (first | (go_at_call 23; refine Calls.quiet_of_same (less64 _ _ _)))
        go_wp2_with fail
        revert nq; intro nq1
        have HW2 : Hid (Rw w blk off N dk (wr.drewN nq1)) := HW.out.drewN nq1
        have hcw2 : ∀ t, t < N → (wr.drewN nq1).cell? ⟨blk, off + t, none⟩ = some (.int .u64 (G t)) := hcw
        have hfw2 : ∀ t, t < N → (wr.drewN nq1).frozen? ⟨blk, off + t, none⟩ = false := hfw
        clear hcw hfw HW
        generalize wr.drewN nq1 = wr2 at hcw2 hfw2 HW2 ⊢
        go_big_quiet (first | (go_at_call 23; refine Calls.quiet_of_same (less64 _ _ _)))
        go_wp2_with fail
        · have hS : ltInt (G (first + root)) (G (first + 2 * root + 1)) = false := by
            have : (!ltInt (G (first + root)) (G (first + 2 * root + 1))) = true := by assumption
            simpa using this
          (try simp only [Exit.inBlock, Exit.then]); refine bodyPost_ret (results_none rfl _ _ _) rfl ?_
          refine ⟨rfl, ?_⟩
          rw [← HE.out, sd_left_stop ltInt dk (by omega) (fun h => absurd h h1) (by rw [← HG.out, ← HG.out]; exact hS)]
          exact HW2.out.drewN nq
        · have hS : ltInt (G (first + root)) (G (first + 2 * root + 1)) = true := by
            have : (!ltInt (G (first + root)) (G (first + 2 * root + 1))) = false := by assumption
            simpa using this
          have HW3 : Hid (Rw w blk off N dk (wr2.drewN nq)) := HW2.out.drewN nq
          have hcw3 : ∀ t, t < N → (wr2.drewN nq).cell? ⟨blk, off + t, none⟩ = some (.int .u64 (G t)) := hcw2
          have hfw3 : ∀ t, t < N → (wr2.drewN nq).frozen? ⟨blk, off + t, none⟩ = false := hfw2
          clear hcw2 hfw2 HW2
          generalize wr2.drewN nq = wr3 at hcw3 hfw3 HW3 ⊢
          go_region
          go_wp2
          go_roundg (hi - (2 * root + 1))
          case measure => omega
          case rel =>
            refine ⟨2 * root + 1, swp dk (first + root) (first + (2 * root + 1)), by simp <;> omega, by omega, Nat.le_refl _, HW3.out.swapD _ _ (by rw [HG.out]; rfl) (by rw [HG.out]), ?_⟩
            rw [← HE.out, sd_left_go ltInt dk (by omega) (fun h => absurd h h1) (by rw [← HG.out, ← HG.out]; exact hS)]

set_option maxHeartbeats 3200000 in
set_option maxRecDepth 1000000 in
theorem heap64 (blk off N cap a b : Nat) (d : Array Int) (w : World) (hN : N ≤ 1024) (hR : RowAt w blk off d) (hd : d.size = N) (hab : a ≤ b) (hb : b ≤ N) :
    Calls Yba.prog 18 #[.slice (some ⟨blk, off, none⟩) N cap, .int .i64 a, .int .i64 b] w fun e w' => e = .returned (.tuple #[]) ∧ Rw w blk off N (heapSort ltInt d a b) w' := by
  have H0 : Hid (RowAt w blk off d ∧ d.size = N) := ⟨hR, hd⟩
  clear hR hd
  have ecast : ((b - a : Nat) : Int) = (b : Int) - (a : Int) := by omega
  go_enter Yba.func18, Yba.ntmps18
  go_wp2
  go_loopg [9] ((b - a - 1) / 2 + 1) (fun k s9 wr => s9 = .int .i64 ((k : Int) - 1) ∧ k ≤ (b - a - 1) / 2 + 1 ∧ ∃ dk : Array Int, Rw w blk off N dk wr ∧ heapBuild ltInt (b - a) a k dk = heapBuild ltInt (b - a) a ((b - a - 1) / 2 + 1) d)
  case atStart => exact ⟨by rw [half_start hab], Nat.le_refl _, d, Rw.start H0.out.2 H0.out.1, rfl⟩
  case round =>
    obtain ⟨rfl, hkk, dk, hRw, heq⟩ := hrel
    have HK : Hid (Rw w blk off N dk wr) := hRw
    have HB : Hid (heapBuild ltInt (b - a) a gk dk = heapBuild ltInt (b - a) a ((b - a - 1) / 2 + 1) d) := heq
    clear hRw heq
    cases gk with
    | zero =>
      clear hkk
      go_wp2
      go_loopg [10] (b - a) (fun k s10 wr2 => s10 = .int .i64 ((k : Int) - 1) ∧ k ≤ b - a ∧ ∃ dj : Array Int, Rw w blk off N dj wr2 ∧ heapPop ltInt a k dj = heapPop ltInt a (b - a) dk)
      case atStart => exact ⟨by rw [ecast], Nat.le_refl _, dk, HK.out, rfl⟩
      case round =>
        clear HK
        obtain ⟨rfl, hkk, dj, hRw, heq2⟩ := hrel
        cases gk with
        | zero =>
          go_wp2
          go_end0
          refine ⟨rfl, ?_⟩
          have e : dj = heapSort ltInt d a b := by
            have h1 : dk = heapBuild ltInt (b - a) a ((b - a - 1) / 2 + 1) d := HB.out
            rw [heapSort, ← h1, ← heq2]
            rfl
          rw [← e]
          exact hRw
        | succ k =>
          obtain ⟨G, hG⟩ : ∃ G : Nat → Int, ∀ t, G t = dj[t]! := ⟨fun t => dj[t]!, fun _ => rfl⟩
          have hcw : ∀ t, t < N → wr.cell? ⟨blk, off + t, none⟩ = some (.int .u64 (G t)) := fun t ht => by rw [hG]; exact hRw.cell t ht
          have hfw : ∀ t, t < N → wr.frozen? ⟨blk, off + t, none⟩ = false := hRw.fz
          have HW : Hid (Rw w blk off N dj wr) := hRw
          have HG : Hid (∀ t, G t = dj[t]!) := hG
          have HE : Hid (heapPop ltInt a (k + 1) dj = heapPop ltInt a (b - a) dk) := heq2
          clear hRw hG heq2
          rcases Nat.eq_zero_or_pos k with hk0 | hkp
          · subst hk0
            go_wp2_with fail
            go_region
            go_wp2_with fail
            have hS := HW.out.swapD a (a) (x := .int .u64 (G (a))) (y := .int .u64 (G a)) (by rw [HG.out]) (by rw [HG.out])
            refine (sift64 blk off N cap 0 0 a (swp dj a (a)) _ hN hS.2.1 hS.1 (Nat.zero_le _) (by omega)).mono ?_
            rintro e w1 ⟨rfl, hw1⟩
            have hT : Hid (Rw w blk off N (siftDown ltInt 0 a 0 (swp dj a (a))) w1) := hS.trans hw1
            clear hS hw1
            go_wp2
            go_roundg 0
            case measure => omega
            case rel => exact ⟨by simp, by omega, _, hT.out, HE.out⟩
          · skip
            go_wp2_with fail
            go_region
            go_wp2_with fail
            have hS := HW.out.swapD a (a + k) (x := .int .u64 (G (a + k))) (y := .int .u64 (G a)) (by rw [HG.out]) (by rw [HG.out])
            refine (sift64 blk off N cap 0 k a (swp dj a (a + k)) _ hN hS.2.1 hS.1 (Nat.zero_le _) (by omega)).mono ?_
            rintro e w1 ⟨rfl, hw1⟩
            have hT : Hid (Rw w blk off N (siftDown ltInt k a 0 (swp dj a (a + k))) w1) := hS.trans hw1
            clear hS hw1
            go_wp2
            go_roundg k
            case measure => omega
            case rel => exact ⟨by simp, by omega, _, hT.out, HE.out⟩
    | succ k =>
      have hcall := sift64 blk off N cap k (b - a) a dk wr hN HK.out.2.1 HK.out.1 (by omega) (by omega)
      rw [ecast] at hcall
      go_wp2_with (go_at_call 28; refine hcall.mono ?_; rintro e w1 ⟨rfl, hw1⟩)
      go_roundg k
      case measure => omega
      case rel => exact ⟨by simp, by omega, _, HK.out.trans hw1, HB.out⟩
end Go.Proofs.Ybulkcxho
