/-
  LawS4941BPages.
-/
import Derived.Test.YbulkcxhoLawKit
namespace Go.Proofs.Ybulkcxho
open Go.RowKit
set_option linter.unusedSimpArgs false
set_option linter.unusedVariables false

set_option maxHeartbeats 2000000 in
set_option maxRecDepth 100000 in
theorem pages64 (sb so n cap : Nat) (S L : Nat → Nat) (R : Nat → Int) (T : Nat → ByteArray) (base vs from0 : Nat) (ad : Option Addr) (w : World) (had : 0 < n → ad = some ⟨sb, so, none⟩) (hsb : 0 < n → sb < w.heap.size)
    (hE : Ents w sb so n S L R T) (hb : base < 65536) (hvs : vs < 4294967296) (hf : from0 < 18446744073709551616) :
    Calls Yba.prog 4 #[.int .u16 base, .int .u64 from0, .int .u32 vs, .slice ad n cap] w fun e w' => e = .returned (.bool true) ∧ Below w.heap.size w w' := by
  by_cases hn : n ≤ 1024
  · have hnz : ¬ ((1024 : Int) < n) := by omega
    obtain ⟨i23, hi, hz0, hz1, hz2⟩ := info_parts Yba.info23
    obtain ⟨vsz, hvz⟩ : ∃ vsz, vs % 1048577 = vsz := ⟨_, rfl⟩
    have hcN := node64' sb so n cap S L R T base vs ad w hn had hsb hE hb hvs hvz
    have hvle : vsz ≤ 1048576 := by omega
    obtain ⟨j0, hj0⟩ : ∃ j0 : Nat, j0 = max from0 (base + 1) := ⟨_, rfl⟩
    have hj0z : max (from0 : Int) ((base : Int) + 1) = (j0 : Int) := by omega
    have HJ : Hid (j0 = max from0 (base + 1)) := hj0
    clear hE hj0 hvz
    go_enter Yba.func4, Yba.ntmps4
    go_wp2_with (go_at_call 5; refine hcN.mono ?_; rintro e w1 ⟨nb, ka, kc, K, ks, M, la, rfl, hK, HK, H1⟩)
    go_loopw [14, 44] (fun v14 v44 wr => ∃ i : Nat, v44 = .int .i64 i ∧ i ≤ K ∧ Hid (WantInv w1 ks j0 i v14 wr)) (fun _ v44 _ => K - (intOf v44).toNat)
    case atStart => exact ⟨0, rfl, Nat.zero_le _, ⟨Below.refl _ _, World.ownsRow_nil _ _ _ _⟩⟩
    case round =>
      obtain ⟨i, rfl, hiK, HI⟩ := hrel
      by_cases hik : i < K
      · have hikz : (i : Int) < K := by omega
        obtain ⟨g, hka, hg, hcell⟩ := (H1.out.more HI.out.below).keys (by rw [HK.out]; omega)
        subst hka
        have ck : wr.cell? ⟨g, i, none⟩ = some (.int .u64 (ks[i]! : Nat)) := hcell i (by rw [HK.out]; exact hik)
        obtain ⟨k, hk⟩ : ∃ k, ks[i]! = k := ⟨_, rfl⟩
        rw [hk] at ck
        have HKi : Hid (ks[i]! = k) := hk
        clear hk hcell hg
        by_cases hj : j0 ≤ k
        · have hjz : (j0 : Int) ≤ k := by omega
          have hlen : (from_ (ks.take i) j0).length ≤ 1024 := by
            have h1 : (from_ (ks.take i) j0).length ≤ (ks.take i).length := List.length_filter_le _ _
            have h2 : (ks.take i).length ≤ i := by simp; omega
            omega
          have hsz := HI.out.below.size
          go_wp2_with (at_builtin; refine wpList_append_own _ rfl _ _ 27 rfl w1.heap.size 23 i23 _ 1 8 Yba.underlying27 hi hz0 hz1 hz2 rfl (by decide) _ _ _ rfl (World.ownsRow.alloc HI.out.own _) ⟨wr.heap.size, 0, none⟩ 1 1 [.int .u64 k] rfl rfl (cell_one_new _ _ _) (by simp [Value.oneCell']) (by unfold maxLen; omega) (by omega) (by simp; omega) ?_)
          intro v' w3 own3 g3 _
          have HN : Hid (WantInv w1 ks j0 (i + 1) v' w3) := HI.out.add (by rw [HK.out]; exact hik) (by rw [HKi.out]; exact hj) (Below.ofAlloc wr _) (by rw [HKi.out]; exact own3) g3
          clear own3 g3
          go_wp2
          go_roundw
          case rel => exact ⟨i + 1, by go_num, by omega, HN⟩
          case measure => simp [intOf]; omega
        · have hjz : ¬ ((j0 : Int) ≤ k) := by omega
          go_wp2
          go_roundw
          case rel => exact ⟨i + 1, by go_num, by omega, HI.out.skip (by rw [HK.out]; exact hik) (by rw [HKi.out]; exact hj)⟩
          case measure => simp [intOf]; omega
      · have hikz : ¬ ((i : Int) < K) := by omega
        obtain rfl : i = K := by omega
        go_wp2
        have HH : Hid (Held w n vsz base nb ka ks M la wr) := H1.out.more HI.out.below
        have HW : Hid (OwnKeys wr w1.heap.size u14 (from_ ks j0)) := by
          have := HI.out.own
          rw [← HK.out, List.take_length] at this
          exact this
        clear H1 HI
        obtain ⟨W0, rfl⟩ : ∃ W0, W0 = wr := ⟨wr, rfl⟩
        go_loopw [17, 18, 19, 20] (fun v17 v18 v19 v20 wx => ∃ (it cur : Nat) (G : List Nat), v18 = .int .u64 cur ∧ v19 = .bool false ∧ v20 = .int .i64 it ∧ it ≤ i ∧ cur < 18446744073709551616 ∧ Hid (PageInv W0 ks base j0 it cur G v17 wx)) (fun _ _ _ v20 _ => i + 1 - (intOf v20).toNat)
        case atStart =>
          refine ⟨0, from0, [], rfl, rfl, rfl, Nat.zero_le _, hf, ⟨Below.refl _ _, World.ownsRow_nil _ _ _ _, by rw [HJ.out]; rfl, ?_⟩⟩
          rw [Nat.zero_add]
          exact List.length_filter_le _ _
        case round =>
          obtain ⟨it, cur, G, rfl, rfl, rfl, hit, hcur, HP⟩ := hrel
          have hitz : (it : Int) ≤ (i : Int) + 1 := by omega
          obtain ⟨WX, rfl⟩ : ∃ WX, WX = wr := ⟨wr, rfl⟩
          have hHx := HH.out.more HP.out.below
          have hcR := report64' nb w.heap.size n M ks la vsz base cur _ hHx.acc hHx.node hvle (by omega) hcur
          clear hHx
          obtain ⟨rem, hrem⟩ : ∃ rem, from_ ks (max cur (base + 1)) = rem := ⟨_, rfl⟩
          rw [hrem] at hcR
          have HR : Hid (from_ ks (max cur (base + 1)) = rem) := hrem
          clear hrem
          generalize (chunk (cnt M vsz) rem 0 0).1 = t at hcR
          generalize (chunk (cnt M vsz) rem 0 0).2 = l at hcR
          have hGl : G.length + rem.length ≤ 1024 := by
            have h1 := congrArg List.length HP.out.split
            rw [HR.out, List.length_append] at h1
            have h2 : (from_ ks j0).length ≤ ks.length := List.length_filter_le _ _
            rw [HK.out] at h2
            omega
          go_wp2_with (go_at_call 7; refine hcR.mono ?_; rintro e w2 ⟨ao, rc, N, rest, rfl, hN64, HBt⟩)
          go_loopw [17, 75] (fun v17 v75 wy => ∃ p : Nat, v75 = .int .i64 p ∧ p ≤ N ∧ Hid (CopyInv W0 M t (WX.heap.size + 1) ao rc N G p v17 wy)) (fun _ v75 _ => N - (intOf v75).toNat)
          case atStart =>
            refine ⟨0, rfl, Nat.zero_le _, ⟨HP.out.below.more HP.out.below.size HBt.out.below, HBt.out.own, ?_⟩⟩
            rw [List.take_zero, List.append_nil]
            exact ownsRow_below HP.out.own HBt.out.below
          case round =>
            obtain ⟨p, rfl, hpN, HC⟩ := hrel
            by_cases hp : p < N
            · have hpz : (p : Int) < N := by omega
              have hpt : p < t.length := by rw [HBt.out.len]; exact hp
              obtain ⟨rb, hao, hrc⟩ := row_cells HC.out.rep (by omega)
              obtain rfl := hao
              have hmem : t[p]! ∈ rem := by rw [← HBt.out.app, getElem!_pos t p hpt]; exact List.mem_append_left _ (List.getElem_mem hpt)
              obtain ⟨r, s, g, ll, hrep⟩ := HBt.out.shape _ hmem
              have hfl := fun c hc => flat_get t HBt.out.four p c hpt hc
              obtain ⟨k, hk⟩ : ∃ k, t[p]! = k := ⟨_, rfl⟩
              rw [hrep, hk] at hfl
              have q0 : wr.cell? ⟨rb, p * 4, none⟩ = some (.int .u64 k) := hrc _ _ (hfl 0 (by omega))
              have q1 : wr.cell? ⟨rb, p * 4 + 1, none⟩ = some (.int .u64 r) := hrc _ _ (hfl 1 (by omega))
              have q2 : wr.cell? ⟨rb, p * 4 + 2, none⟩ = some (.string s) := hrc _ _ (hfl 2 (by omega))
              have q3 : wr.cell? ⟨rb, p * 4 + 3, none⟩ = some (.slice (some ⟨g, 0, none⟩) ll ll) := hrc _ _ (hfl 3 (by omega))
              have HKp : Hid (t[p]! = k) := hk
              have hGp : (G ++ t.take p).length ≤ 1024 := by
                have h1 := congrArg List.length HBt.out.app
                rw [List.length_append] at h1
                rw [List.length_append, List.length_take]
                omega
              have hsz := HC.out.below.size
              clear hk hfl hrc hrep hmem hpt
              go_wp2_with (at_builtin; refine wpList_append_own _ rfl _ _ 27 rfl W0.heap.size 23 i23 _ 1 8 Yba.underlying27 hi hz0 hz1 hz2 rfl (by decide) _ _ _ rfl (World.ownsRow.alloc (World.ownsRow.alloc HC.out.own _) _) ⟨wr.heap.size + 1, 0, none⟩ 1 1 [.int .u64 k] rfl rfl (cells_new _ [.int .u64 k] _ (by simp)) (by simp [Value.oneCell']) (by unfold maxLen; omega) (by omega) (by simp; omega) ?_)
              intro v' w3 own3 g3 _
              have HN : Hid (CopyInv W0 M t (WX.heap.size + 1) (some ⟨rb, 0, none⟩) rc N G (p + 1) v' w3) :=
                HC.out.step (by rw [HBt.out.len]; exact hp) ((Below.ofAlloc wr _).more (by simp) (Below.ofAlloc _ _)) (by rw [HKp.out]; simpa using own3) g3
              clear own3 g3 q0 q1 q2 q3
              go_wp2
              go_roundw
              case rel => exact ⟨p + 1, by go_num, by omega, HN⟩
              case measure => simp [intOf]; omega
            · have hpz : ¬ ((p : Int) < N) := by omega
              obtain rfl : p = N := by omega
              have hBt := HBt.out
              rw [← HR.out] at hBt
              by_cases hr0 : rest = 0
              · have hL := HP.out.last hBt HC.out hr0
                have hW := ownsRow_below HW.out HC.out.below
                have hlen : (from_ ks j0).length ≤ 1024 := by
                  have h2 : (from_ ks j0).length ≤ ks.length := List.length_filter_le _ _
                  rw [HK.out] at h2
                  omega
                have hcE := equalKeys hL hW hlen
                have hbel := (HH.out.more HC.out.below).below
                subst hr0
                clear hBt hL hW hlen
                go_wp2_with (go_at_call 9; refine hcE.mono ?_; rintro e w5 ⟨rfl, q, rfl⟩)
                go_ret
                exact ⟨rfl, hbel.more hbel.size ⟨rfl, rfl, rfl, Nat.le_refl _, fun k hk => rfl⟩⟩
              · obtain ⟨hP2, hit2, hrk, hN0, hlt⟩ := HP.out.next HH.out.acc.asc hBt HC.out hr0
                have hrl := HH.out.acc.top _ hrk
                have hla := HH.out.acc.la_le
                rw [HK.out] at hit2
                have HP2 : Hid (PageInv W0 ks base j0 (it + 1) rest (G ++ t) u17 wr) := hP2
                obtain ⟨m, rfl⟩ : ∃ m, p = m + 1 := ⟨p - 1, by omega⟩
                have hpt : m < t.length := by rw [HBt.out.len]; omega
                obtain ⟨rb, hao, hrc⟩ := row_cells HC.out.rep (by omega)
                obtain rfl := hao
                have hmt : t[m]! ∈ t := by rw [getElem!_pos t m hpt]; exact List.getElem_mem hpt
                have hmem : t[m]! ∈ rem := by rw [← HBt.out.app]; exact List.mem_append_left _ hmt
                have hkr := hlt _ hmt
                obtain ⟨r, s, g, ll, hrep⟩ := HBt.out.shape _ hmem
                have hfl := flat_get t HBt.out.four m 0 hpt (by omega)
                obtain ⟨k, hk⟩ : ∃ k, t[m]! = k := ⟨_, rfl⟩
                rw [hrep, hk] at hfl
                rw [hk] at hkr
                have q0 : wr.cell? ⟨rb, m * 4, none⟩ = some (.int .u64 k) := hrc _ _ hfl
                have hkz : ¬ ((rest : Int) ≤ k) := by omega
                have hr0z : ¬ ((rest : Int) = 0) := by omega
                clear hk hfl hrc hrep hmem hpt hmt hlt hP2 hBt hrk hpN
                go_wp2
                go_roundw
                case rel => exact ⟨it + 1, rest, G ++ t, rfl, rfl, by go_num, hit2, by omega, HP2⟩
                case measure => simp [intOf]; omega
  · have hnz : (1024 : Int) < n := by omega
    go_enter Yba.func4, Yba.ntmps4
    go_wp2
    go_ret
    exact ⟨rfl, Below.refl _ _⟩
end Go.Proofs.Ybulkcxho
