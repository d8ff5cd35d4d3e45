/-
  slices.pdqsortOrdered[uint64]: whatever the limit, the range comes out a sorted permutation.
-/
import Derived.Test.YbulkcxhoBrk2
import Derived.Test.YbulkcxhoChoose
import Derived.Test.YbulkcxhoPins
import Derived.Test.YbulkcxhoPart2
import Derived.Sort.Walk13a
import Derived.Sort.LotD4
import Derived.Sort.LotB
import Derived.Deep.Cut
namespace Go.Proofs.Ybulkcxho
open Go.RowKit Go.Sort
set_option linter.unusedSimpArgs false
set_option linter.unusedVariables false

/-- What a round hands on: to sort [a', b') of dk is to sort [a, b) of d. -/
def Pst (a b N : Nat) (d : Array Int) (a' b' : Nat) (dk : Array Int) : Prop :=
  dk.size = N ∧ Sort.Below ltInt a' b' dk ∧ ∀ R, PermIn a' b' dk R → SortedIn ltInt a' b' R → PermIn a b d R ∧ SortedIn ltInt a b R
theorem Pst.perm {a b N a' b' : Nat} {d dk dk' : Array Int} (h : Pst a b N d a' b' dk) (hb : b' ≤ N) (hp : PermIn a' b' dk dk') : Pst a b N d a' b' dk' :=
  ⟨hp.1.trans h.1, h.2.1.perm (by rw [h.1]; exact hb) hp, fun R h1 h2 => h.2.2 R (permIn_trans _ _ _ _ _ hp h1) h2⟩
/-- The end: a sorted permutation lies in the row. -/
def Sorted64 (w : World) (blk off N a b : Nat) (d : Array Int) (w' : World) : Prop := ∃ R, PermIn a b d R ∧ SortedIn ltInt a b R ∧ Rw w blk off N R w'
theorem Pst.done {a b N a' b' : Nat} {d dk dk' : Array Int} (h : Pst a b N d a' b' dk) (hp : PermIn a' b' dk dk') (hs : SortedIn ltInt a' b' dk') {w w' : World} {blk off : Nat} (hw : Rw w blk off N dk' w') : Sorted64 w blk off N a b d w' :=
  ⟨dk', (h.2.2 dk' hp hs).1, (h.2.2 dk' hp hs).2, hw⟩

set_option maxHeartbeats 6400000 in
set_option maxRecDepth 1000000 in
theorem pdq64 : ∀ (m blk off N cap a b limit : Nat) (d : Array Int) (w : World), b - a < m → N ≤ 1024 → RowAt w blk off d → d.size = N → a ≤ b → b ≤ N → limit ≤ 100 → Sort.Below ltInt a b d →
    Calls Yba.prog 15 #[.slice (some ⟨blk, off, none⟩) N cap, .int .i64 a, .int .i64 b, .int .i64 limit] w fun e w' => e = .returned (.tuple #[]) ∧ Sorted64 w blk off N a b d w' := by
  intro m
  induction m with
  | zero => intro _ _ _ _ _ _ _ _ _ h; exact absurd h (Nat.not_lt_zero _)
  | succ m ih =>
    intro blk off N cap a b limit d w hm hN hR hd hab hb hlimit hBel0
    have IH : Hid (∀ (a b limit : Nat) (d : Array Int) (w : World), b - a < m → RowAt w blk off d → d.size = N → a ≤ b → b ≤ N → limit ≤ 100 → Sort.Below ltInt a b d →
      Calls Yba.prog 15 #[.slice (some ⟨blk, off, none⟩) N cap, .int .i64 a, .int .i64 b, .int .i64 limit] w fun e w' => e = .returned (.tuple #[]) ∧ Sorted64 w blk off N a b d w') :=
      fun a b limit d w h1 h2 h3 h4 h5 h6 h7 => ih blk off N cap a b limit d w h1 hN h2 h3 h4 h5 h6 h7
    have H0 : Hid (Pst a b N d a b d) := ⟨hd, hBel0, fun R h1 h2 => ⟨h1, h2⟩⟩
    have HW0 : Hid (Rw w blk off N d w) := Rw.start hd hR
    clear ih hR hd hBel0
    go_enter Yba.func15, Yba.ntmps15
    go_wp2
    go_loopg [1, 2, 3, 8, 9] (b - a) (fun k s1 s2 s3 s8 s9 wr => ∃ (a' b' lim : Nat) (wb wp : Bool) (dk : Array Int), s1 = .int .i64 a' ∧ s2 = .int .i64 b' ∧ s3 = .int .i64 lim ∧ s8 = .bool wb ∧ s9 = .bool wp ∧
      a' ≤ b' ∧ b' ≤ N ∧ b' - a' ≤ k ∧ k ≤ b - a ∧ lim ≤ 100 ∧ Hid (Pst a b N d a' b' dk) ∧ Hid (Rw w blk off N dk wr))
    case atStart => exact ⟨a, b, limit, true, true, d, rfl, rfl, rfl, rfl, rfl, hab, hb, Nat.le_refl _, Nat.le_refl _, hlimit, H0, HW0⟩
    case round =>
      obtain ⟨a', b', lim, wb, wp, dk, rfl, rfl, rfl, rfl, rfl, hab', hb', hk, hkN, hlim, HP, HW⟩ := hrel
      by_cases h12 : b' - a' ≤ 12
      · have h12z : (b' : Int) - (a' : Int) ≤ 12 := by omega
        go_wp2_with (go_at_call 17; refine (ins64 blk off N cap a' b' dk _ hN HW.out.2.1 HW.out.1 hab' hb').mono ?_; rintro e w1 ⟨rfl, hw1⟩)
        have hh := insertionSort_holds swo_ltInt dk a' b' hab' (by rw [HW.out.1]; exact hb')
        (try simp only [Exit.inBlock, Exit.then]); refine bodyPost_ret (results_none rfl _ _ _) rfl ?_
        exact ⟨rfl, HP.out.done hh.1 hh.2 (HW.out.trans hw1)⟩
      · have h12z : ¬ ((b' : Int) - (a' : Int) ≤ 12) := by omega
        by_cases hl0 : lim = 0
        · subst hl0
          go_wp2_with (go_at_call 18; refine (heap64 blk off N cap a' b' dk _ hN HW.out.2.1 HW.out.1 hab' hb').mono ?_; rintro e w1 ⟨rfl, hw1⟩)
          have hh := heapSort_holds swo_ltInt dk a' b' hab' (by rw [HW.out.1]; exact hb')
          (try simp only [Exit.inBlock, Exit.then]); refine bodyPost_ret (results_none rfl _ _ _) rfl ?_
          exact ⟨rfl, HP.out.done hh.1 hh.2 (HW.out.trans hw1)⟩
        · have hl0z : ¬ ((lim : Int) = 0) := by omega
          go_upto_if 35 with fail
          go_cut [3] from 19 to 133 (fun s3 wc => ∃ (lim1 : Nat) (d1 : Array Int), s3 = .int .i64 lim1 ∧ lim1 ≤ 100 ∧ Hid (Pst a b N d a' b' d1) ∧ Hid (Rw w blk off N d1 wc))
          case first =>
            cases wb
            · go_wp2_with (go_at_call 19; refine (brk64 blk off N cap a' b' dk _ hN HW.out.2.1 HW.out.1 hab' hb').mono ?_; rintro e w1 ⟨rfl, hw1⟩)
              go_meet
              case rel =>
                refine ⟨lim - 1, breakPatterns dk a' b', by go_num, by omega, HP.out.perm hb' (breakPatterns_holds dk a' b' hab' (by rw [HW.out.1]; exact hb')), HW.out.trans hw1⟩
            · go_wp2_with fail
              go_meet
              case rel => exact ⟨lim, dk, rfl, hlim, HP, HW⟩
          case rest =>
            obtain ⟨lim1, d1, rfl, hlim1, HP1, HW1⟩ := hcut
            clear HP HW hl0z hl0 hlim
            have hcp := choosePivot_holds ltInt d1 a' b' (by omega)
            have hc20 := choose64 blk off N cap a' b' d1 wc hN HW1.out.2.1 HW1.out.1 (by omega) hb'
            generalize choosePivot ltInt d1 a' b' = cp at hcp hc20
            obtain ⟨p, h⟩ := cp
            dsimp only at hcp hc20
            generalize hintCode h = hc at hc20
            go_upto_if 50 with (go_at_call 20; refine hc20.mono ?_; rintro e w2 ⟨rfl, hw2⟩)
            have HW2 : Hid (Rw w blk off N d1 w2) := HW1.out.below hw2
            clear HW1 hw2
            go_cut [11, 12] from 19 to 133 (fun s11 s12 wx => ∃ (p2 : Nat) (h2 : Int) (d2 : Array Int), s11 = .int .i64 p2 ∧ s12 = .int .i64 h2 ∧ a' ≤ p2 ∧ p2 < b' ∧ Hid (Pst a b N d a' b' d2) ∧ Hid (Rw w blk off N d2 wx))
            case first =>
              by_cases hh : hc = 2
              · go_wp2_with (go_at_call 21; refine (rev64 blk off N cap a' b' d1 _ hN HW2.out.2.1 HW2.out.1 hab' hb').mono ?_; rintro e w3 ⟨rfl, hw3⟩)
                go_meet
                case rel =>
                  exact ⟨b' - 1 - (p - a'), 1, reverseRange d1 a' b', by go_num, rfl, by omega, by omega, HP1.out.perm hb' (reverseRange_holds d1 a' b' hab' (by rw [HW2.out.1]; exact hb')), HW2.out.trans hw3⟩
              · go_wp2_with fail
                go_meet
                case rel => exact ⟨p, hc, d1, rfl, rfl, hcp.1, hcp.2, HP1, HW2⟩
            case rest =>
              obtain ⟨p2, h2, d2, rfl, rfl, hp1, hp2, HP2, HW2b⟩ := hcut
              clear HP1 HW2 hcp hc20
              go_upto_region 15 with fail
              go_cut [68] from 19 to 133 (fun s68 wx => ∃ c, s68 = .bool c ∧ Hid (Rw w blk off N d2 wx))
              case first =>
                cases hd : decide (h2 = 1) <;> cases wb <;> cases wp <;>
                  (go_wp2_with fail
                   go_meet
                   exact ⟨_, rfl, HW2b⟩)
              case rest =>
                obtain ⟨c, rfl, HW3⟩ := hcut
                clear HW2b
                go_upto_if 68 with fail
                go_cut [] from 19 to 133 (fun wx => ∃ d3, Hid (Pst a b N d a' b' d3) ∧ Hid (Rw w blk off N d3 wx))
                case first =>
                  cases c
                  · go_wp2_with fail
                    go_meet
                    case rel => exact ⟨d2, HP2, HW3⟩
                  · have hc22 := fun w' (h : Rw w blk off N d2 w') => pins64 blk off N cap a' b' d2 w' hN h.2.1 h.1 (by omega) hb'
                    have hh := partialInsertionSort_holds swo_ltInt d2 a' b' (by omega) (by rw [HW3.out.1]; exact hb') HP2.out.2.1
                    generalize partialInsertionSort ltInt d2 a' b' = r at hc22 hh
                    obtain ⟨d3, ok⟩ := r
                    dsimp only at hc22 hh
                    have HH : Hid (PermIn a' b' d2 d3 ∧ (ok = true → SortedIn ltInt a' b' d3)) := hh
                    clear hh
                    cases ok
                    · go_wp2_with (go_at_call 22; refine (hc22 _ HW3.out).mono ?_; rintro e w4 ⟨rfl, hw4⟩)
                      go_meet
                      case rel => exact ⟨d3, HP2.out.perm hb' HH.out.1, HW3.out.trans hw4⟩
                    · go_wp2_with (go_at_call 22; refine (hc22 _ HW3.out).mono ?_; rintro e w4 ⟨rfl, hw4⟩)
                      (try simp only [Exit.inBlock, Exit.then]); refine bodyPost_ret (results_none rfl _ _ _) rfl ?_
                      exact ⟨rfl, HP2.out.done HH.out.1 (HH.out.2 (by first | rfl | trivial)) (HW3.out.trans hw4)⟩
                case rest =>
                  obtain ⟨d3, HP3, HW4⟩ := hcut
                  clear HP2 HW3
                  obtain ⟨G, hG⟩ : ∃ G : Nat → Int, ∀ t, G t = d3[t]! := ⟨fun t => d3[t]!, fun _ => rfl⟩
                  have hcw : ∀ t, t < N → wc.cell? ⟨blk, off + t, none⟩ = some (.int .u64 (G t)) := fun t ht => by rw [hG]; exact HW4.out.cell t ht
                  have hfw : ∀ t, t < N → wc.frozen? ⟨blk, off + t, none⟩ = false := HW4.out.fz
                  have HG : Hid (∀ t, G t = d3[t]!) := hG
                  clear hG
                  go_upto_region 17 with fail
                  go_cut [87] from 19 to 133 (fun s87 wx => ∃ c, s87 = .bool c ∧ (c = true → 0 < a' ∧ ltInt (G (a' - 1)) (G p2) = false) ∧ Hid (Rw w blk off N d3 wx))
                  case first =>
                    rcases Nat.eq_zero_or_pos a' with ha0 | ha0
                    · have ha0z : decide ((a' : Int) > 0) = false := decide_eq_false (by omega)
                      go_big_quiet (first | (go_at_call 23; refine Calls.quiet_of_same (less64 _ _ _)))
                      go_wp2_with fail
                      go_meet
                      case rel => exact ⟨false, rfl, fun h => absurd h (by decide), HW4.out.drewN nq⟩
                    · have ha0z : (a' : Int) > 0 := by omega
                      go_big_quiet (first | (go_at_call 23; refine Calls.quiet_of_same (less64 _ _ _)))
                      go_wp2_with fail
                      go_meet
                      case rel => exact ⟨!ltInt (G (a' - 1)) (G p2), rfl, fun h => ⟨ha0, by simpa using h⟩, HW4.out.drewN nq⟩
                  case rest =>
                    obtain ⟨c, rfl, hc87, HW5⟩ := hcut
                    clear hcw hfw HW4
                    cases c
                    · have hc25 := part64 blk off N cap a' b' p2 d3 wc hN HW5.out.2.1 HW5.out.1 hp1 hp2 hb'
                      obtain ⟨mid, ap, d4, hx⟩ : ∃ mid ap d4, partition ltInt d3 a' b' p2 = (mid, ap, d4) := ⟨(partition ltInt d3 a' b' p2).1, (partition ltInt d3 a' b' p2).2.1, (partition ltInt d3 a' b' p2).2.2, rfl⟩
                      obtain ⟨r1, r2, r3, r4, r5, r6, r7⟩ := round_part swo_ltInt (partition_holds ltInt) hp1 hp2 (show b' ≤ d3.size by rw [HW5.out.1]; exact hb') HP3.out.2.1 hx
                      rw [hx] at hc25
                      dsimp only at hc25
                      have R3 : Hid (d4.size = d3.size ∧ Sort.Below ltInt a' mid d4 ∧ Sort.Below ltInt (mid + 1) b' d4) := ⟨r3, r4, r5⟩
                      have R6 : Hid (∀ L, PermIn a' mid d4 L → SortedIn ltInt a' mid L → Sort.Below ltInt (mid + 1) b' L ∧ ∀ R, PermIn (mid + 1) b' L R → SortedIn ltInt (mid + 1) b' R → PermIn a' b' d3 R ∧ SortedIn ltInt a' b' R) := r6
                      have R7 : Hid (∀ L, PermIn (mid + 1) b' d4 L → SortedIn ltInt (mid + 1) b' L → Sort.Below ltInt a' mid L ∧ ∀ R, PermIn a' mid L R → SortedIn ltInt a' mid R → PermIn a' b' d3 R ∧ SortedIn ltInt a' b' R) := r7
                      clear hx r3 r4 r5 r6 r7 hc87
                      go_upto_if 113 with (go_at_call 25; refine hc25.mono ?_; rintro e w7 ⟨rfl, hw7⟩)
                      have HW7 : Hid (Rw w blk off N d4 w7) := HW5.out.trans hw7
                      clear hw7 hc25
                      by_cases h4 : mid - a' < b' - mid
                      · have h4z : (mid : Int) - (a' : Int) < (b' : Int) - (mid : Int) := by omega
                        go_wp2_with (go_at_call 15; refine (IH.out a' mid lim1 d4 _ (by omega) HW7.out.2.1 HW7.out.1 r1 (by omega) hlim1 R3.out.2.1).mono ?_; rintro e w8 ⟨rfl, hw8⟩)
                        obtain ⟨L, pL, sL, hwL⟩ := hw8
                        go_roundg (b' - (mid + 1))
                        case measure => omega
                        case rel =>
                          exact ⟨mid + 1, b', lim1, _, ap, L, by go_num, rfl, rfl, rfl, rfl, by omega, hb', Nat.le_refl _, by omega, hlim1,
                            ⟨pL.1.trans HW7.out.1, (R6.out L pL sL).1, fun R h1 h2 => HP3.out.2.2 R ((R6.out L pL sL).2 R h1 h2).1 ((R6.out L pL sL).2 R h1 h2).2⟩, HW7.out.trans hwL⟩
                      · have h4z : ¬ ((mid : Int) - (a' : Int) < (b' : Int) - (mid : Int)) := by omega
                        go_wp2_with (go_at_call 15; refine (IH.out (mid + 1) b' lim1 d4 _ (by omega) HW7.out.2.1 HW7.out.1 (by omega) hb' hlim1 R3.out.2.2).mono ?_; rintro e w8 ⟨rfl, hw8⟩)
                        obtain ⟨L, pL, sL, hwL⟩ := hw8
                        go_roundg (mid - a')
                        case measure => omega
                        case rel =>
                          exact ⟨a', mid, lim1, _, ap, L, rfl, rfl, rfl, rfl, rfl, by omega, by omega, Nat.le_refl _, by omega, hlim1,
                            ⟨pL.1.trans HW7.out.1, (R7.out L pL sL).1, fun R h1 h2 => HP3.out.2.2 R ((R7.out L pL sL).2 R h1 h2).1 ((R7.out L pL sL).2 R h1 h2).2⟩, HW7.out.trans hwL⟩
                    · obtain ⟨ha0, hnl⟩ := hc87 rfl
                      rw [HG.out, HG.out] at hnl
                      have hc24 := partEq64 blk off N cap a' b' p2 d3 wc hN HW5.out.2.1 HW5.out.1 hp1 hp2 hb'
                      obtain ⟨mid, d4, hx⟩ : ∃ mid d4, partitionEqual ltInt d3 a' b' p2 = (mid, d4) := ⟨(partitionEqual ltInt d3 a' b' p2).1, (partitionEqual ltInt d3 a' b' p2).2, rfl⟩
                      obtain ⟨r1, r2, r3, r4, r5⟩ := round_eq swo_ltInt (partitionEqual_holds ltInt) ha0 hp1 hp2 (show b' ≤ d3.size by rw [HW5.out.1]; exact hb') HP3.out.2.1 hnl hx
                      rw [hx] at hc24
                      dsimp only at hc24
                      have R3 : Hid (d4.size = d3.size ∧ Sort.Below ltInt mid b' d4) := ⟨r3, r4⟩
                      have R5 : Hid (∀ R, PermIn mid b' d4 R → SortedIn ltInt mid b' R → PermIn a' b' d3 R ∧ SortedIn ltInt a' b' R) := r5
                      clear hx r3 r4 r5 hc87 hnl
                      go_wp2_with (go_at_call 24; refine hc24.mono ?_; rintro e w7 ⟨rfl, hw7⟩)
                      go_roundg (b' - mid)
                      case measure => omega
                      case rel =>
                        exact ⟨mid, b', lim1, wb, wp, d4, rfl, rfl, rfl, rfl, rfl, r2, hb', Nat.le_refl _, by omega, hlim1,
                          ⟨R3.out.1.trans HW5.out.1, R3.out.2, fun R h1 h2 => HP3.out.2.2 R (R5.out R h1 h2).1 (R5.out R h1 h2).2⟩, HW5.out.trans hw7⟩
end Go.Proofs.Ybulkcxho
