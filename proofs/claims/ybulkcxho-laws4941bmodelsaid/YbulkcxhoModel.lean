/-
  LawS4941BModel.
-/
import Derived.Test.YbulkcxhoLawKit
import Derived.Test.YbulkcxhoBytes
namespace Go.Proofs.Ybulkcxho
open Go.RowKit
set_option linter.unusedSimpArgs false
set_option linter.unusedVariables false

theorem from_drop (ks : List Nat) (j i : Nat) (hi : i < ks.length) : from_ (ks.drop i) j = (if j ≤ ks[i]! then [ks[i]!] else []) ++ from_ (ks.drop (i + 1)) j := by
  unfold from_
  rw [List.drop_eq_getElem_cons hi, getElem!_pos ks i hi]
  by_cases h : j ≤ ks[i]
  · rw [List.filter_cons_of_pos (by simpa using h), if_pos h]; rfl
  · rw [List.filter_cons_of_neg (by simpa using h), if_neg h]; rfl

/-- The first loop, behind i keys. -/
structure PickInv (w1 : World) (ks : List Nat) (f : Nat → Nat) (j0 i : Nat) (T : List Nat) (b : Nat) (v : Value) (wr : World) : Prop where
  below : Below w1.heap.size w1 wr
  own : OwnKeys wr w1.heap.size v T
  run : chunk f (from_ ks j0) 0 0 = (T ++ (chunk f (from_ (ks.drop i) j0) T.length b).1, (chunk f (from_ (ks.drop i) j0) T.length b).2)
  len : T.length ≤ 64
  byt : b ≤ 2097152
/-- .. and at its end. -/
structure Picked (w1 : World) (ks : List Nat) (f : Nat → Nat) (j0 : Nat) (T : List Nat) (rest : Nat) (v : Value) (wr : World) : Prop where
  below : Below w1.heap.size w1 wr
  own : OwnKeys wr w1.heap.size v T
  run : ∃ l, chunk f (from_ ks j0) 0 0 = (T, l) ∧ rest = l.headD 0

section
variable {w1 wr : World} {ks : List Nat} {f : Nat → Nat} {j0 i : Nat} {T : List Nat} {b : Nat} {v : Value}
theorem PickInv.skip (h : PickInv w1 ks f j0 i T b v wr) (hi : i < ks.length) (hj : ¬ j0 ≤ ks[i]!) : PickInv w1 ks f j0 (i + 1) T b v wr :=
  ⟨h.below, h.own, by have := h.run; rw [from_drop ks j0 i hi, if_neg hj, List.nil_append] at this; exact this, h.len, h.byt⟩
theorem PickInv.full (h : PickInv w1 ks f j0 i T b v wr) (hi : i < ks.length) (hj : j0 ≤ ks[i]!) (hf : 64 ≤ T.length ∨ 1048576 ≤ b) : Picked w1 ks f j0 T ks[i]! v wr := by
  refine ⟨h.below, h.own, ks[i]! :: from_ (ks.drop (i + 1)) j0, ?_, rfl⟩
  rw [h.run, from_drop ks j0 i hi, if_pos hj, List.singleton_append, chunk_full _ _ _ hf]
  simp
theorem PickInv.over (h : PickInv w1 ks f j0 ks.length T b v wr) : Picked w1 ks f j0 T 0 v wr := by
  refine ⟨h.below, h.own, [], ?_, rfl⟩
  have := h.run
  rw [List.drop_length] at this
  simpa [from_, chunk] using this
theorem PickInv.add (h : PickInv w1 ks f j0 i T b v wr) (hi : i < ks.length) (hj : j0 ≤ ks[i]!) (hf : ¬ (64 ≤ T.length ∨ 1048576 ≤ b)) (hz : f ks[i]! ≤ 1048576) {w2 w3 : World} {v' : Value} (h2 : Below wr.heap.size wr w2)
    (own : w3.ownsRow w1.heap.size 23 1 v' (T.length + 1) (T.map (fun (k : Nat) => Value.int .u64 k) ++ [.int .u64 (ks[i]! : Nat)])) (g : w2.grownBy w3 v.ownBlock) : PickInv w1 ks f j0 (i + 1) (T ++ [ks[i]!]) (b + f ks[i]!) v' w3 := by
  have hB := h.below.more h.below.size h2
  refine ⟨hB.grown g hB.size (fun k hk => (h.own.lt k hk).1), by unfold OwnKeys; simpa using own, ?_, by simp; omega, by omega⟩
  rw [h.run, from_drop ks j0 i hi, if_pos hj, List.singleton_append, chunk_take _ _ _ hf]
  simp
end

theorem field36 (r : Int) (s : ByteArray) (v : Value) (w : World) : Sem.run Yba.prog (Instr.field 36 (.agg #[.int .u64 r, .string s, v]) 1) w = .ok v w := by
  simp [Instr.field, run_underlying Yba.underlying36, part, asAgg, Yba.isAgg34, Result.andThen]

theorem OwnKeys.shape {w : World} {base : Nat} {v : Value} {G : List Nat} (h : OwnKeys w base v G) : ∃ a c, v = .slice a G.length c := by
  rcases h.2 with ⟨h1, h2⟩ | ⟨g, cap, _, h1, _⟩
  · exact ⟨none, 0, by rw [h1, h2]⟩
  · exact ⟨_, _, h1⟩
theorem OwnKeys.cells {w : World} {base : Nat} {a : Option Addr} {c N : Nat} {G : List Nat} (h : OwnKeys w base (.slice a N c) G) (hG : 0 < G.length) : ∃ g, a = some ⟨g, 0, none⟩ ∧ g < w.heap.size ∧ ∀ j, j < G.length → w.cell? ⟨g, j, none⟩ = some (.int .u64 (G[j]! : Nat)) := by
  rcases h.2 with ⟨_, h2⟩ | ⟨g, cap, cur, h1, _, hg, _, _, _, ht⟩
  · omega
  · simp only [Value.slice.injEq] at h1
    refine ⟨g, h1.1, (Array.getElem?_eq_some_iff.1 hg).1, fun j hj => ?_⟩
    rw [cell_of_row w g j cur 23 (0, 0) hg, ← Array.getElem?_toList]
    have e : (cur.toList.take (G.length * 1))[j]? = cur.toList[j]? := List.getElem?_take_of_lt (by omega)
    rw [← e, ht, List.getElem?_map, List.getElem?_eq_getElem hj, getElem!_pos G j hj]
    rfl

set_option maxHeartbeats 2000000 in
set_option maxRecDepth 100000 in
theorem model64 (sb so n cap : Nat) (S L : Nat → Nat) (R : Nat → Int) (T : Nat → ByteArray) (base vs from0 : Nat) (ad : Option Addr) (w : World) (had : 0 < n → ad = some ⟨sb, so, none⟩) (hsb : 0 < n → sb < w.heap.size)
    (hE : Ents w sb so n S L R T) (hb : base < 65536) (hvs : vs < 4294967296) (hf : from0 < 18446744073709551616) :
    Calls Yba.prog 3 #[.int .u16 base, .int .u64 from0, .int .u32 vs, .slice ad n cap] w fun e w' => e = .returned (.bool true) ∧ Below w.heap.size w w' := by
  by_cases hn : n ≤ 1024
  · have hnz : ¬ ((1024 : Int) < n) := by omega
    obtain ⟨i23, hi, hz0, hz1, hz2⟩ := info_parts Yba.info23
    obtain ⟨vsz, hvz⟩ : ∃ vsz, vs % 1048577 = vsz := ⟨_, rfl⟩
    have hcN := node64' sb so n cap S L R T base vs ad w hn had hsb hE hb hvs hvz
    have hvle : vsz ≤ 1048576 := by omega
    obtain ⟨j0, hj0⟩ : ∃ j0 : Nat, j0 = max from0 (base + 1) := ⟨_, rfl⟩
    have hj0z : max (from0 : Int) ((base : Int) + 1) = (j0 : Int) := by omega
    have HJ : Hid (j0 = max from0 (base + 1)) := hj0
    clear hE hj0 hvz
    go_enter Yba.func3, Yba.ntmps3
    go_upto_block 0 with (go_at_call 5; refine hcN.mono ?_; rintro e w1 ⟨nb, ka, kc, K, ks, M, la, rfl, hK, HK, H1⟩)
    go_cut [14, 15] from 19 to 73 (fun v14 v15 wc => ∃ (rest N : Nat) (wa : Option Addr) (wn : Nat) (P : List Nat), v14 = .slice wa N wn ∧ v15 = .int .u64 rest ∧ N ≤ 64 ∧ Hid (P.length = N ∧ Picked w1 ks (cnt M vsz) j0 P rest (.slice wa N wn) wc))
    case first =>
      go_wp2
      go_loopw [14, 15, 16, 17, 45] (fun v14 v15 v16 v17 v45 wr => ∃ (i b c : Nat) (P : List Nat), v45 = .int .i64 i ∧ i ≤ K ∧ v15 = .int .u64 0 ∧ v16 = .int .i64 c ∧ v17 = .int .i64 b ∧ Hid (P.length = c) ∧ c ≤ 64 ∧ b ≤ 2097152 ∧ Hid (PickInv w1 ks (cnt M vsz) j0 i P b v14 wr)) (fun _ _ _ _ v45 _ => K - (intOf v45).toNat)
      case atStart => exact ⟨0, 0, 0, [], rfl, Nat.zero_le _, rfl, rfl, rfl, rfl, by omega, by omega, ⟨Below.refl _ _, World.ownsRow_nil _ _ _ _, by simp, by simp, by omega⟩⟩
      case round =>
        obtain ⟨i, b, c, P, rfl, hiK, rfl, rfl, rfl, HPc, hc64, hb21, HI⟩ := hrel
        by_cases hik : i < K
        · have hikz : (i : Int) < K := by omega
          have hil : i < ks.length := by rw [HK.out]; exact hik
          obtain ⟨g, hka, hg, hcell⟩ := (H1.out.more HI.out.below).keys (by rw [HK.out]; omega)
          subst hka
          have ck : wr.cell? ⟨g, i, none⟩ = some (.int .u64 (ks[i]! : Nat)) := hcell i hil
          have hkm : ks[i]! ∈ ks := by rw [getElem!_pos ks i hil]; exact List.getElem_mem hil
          obtain ⟨r, s, gg, ll, hM, hll, _⟩ := H1.out.acc.shape hkm
          have hkt := H1.out.acc.top _ hkm
          have hlale := H1.out.acc.la_le
          have hcnt : cnt M vsz ks[i]! = sz vsz ll := by
            show sz vsz (((M ks[i]!).map lenOf).getD 0) = sz vsz ll
            rw [hM]; rfl
          obtain ⟨k, hk⟩ : ∃ k, ks[i]! = k := ⟨_, rfl⟩
          rw [hk] at ck hM hkt
          have HKi : Hid (ks[i]! = k ∧ cnt M vsz ks[i]! = sz vsz ll ∧ i < ks.length) := ⟨hk, hcnt, hil⟩
          have HM : Hid (M k = some (.agg #[.int .u64 r, .string s, .slice (some ⟨gg, 0, none⟩) ll ll])) := hM
          clear hk hcell hg hkm hM hcnt hil
          by_cases hj : j0 ≤ k
          · have hjz : ¬ ((k : Int) < j0) := by omega
            by_cases h64 : 64 ≤ c
            · have h64z : (64 : Int) ≤ c := by omega
              go_wp2
              go_meet
              case rel =>
                have hp := HI.out.full HKi.out.2.2 (by rw [HKi.out.1]; exact hj) (Or.inl (by rw [HPc.out]; exact h64))
                obtain ⟨a, cc, e⟩ := hp.own.shape
                rw [HKi.out.1] at hp
                refine ⟨k, P.length, a, cc, P, e, rfl, by rw [HPc.out]; exact hc64, rfl, ?_⟩
                rw [← e]; exact hp
            · have h64z : decide ((64 : Int) ≤ c) = false := decide_eq_false (by omega)
              by_cases hby : 1048576 ≤ b
              · have hbyz : (1048576 : Int) ≤ b := by omega
                go_wp2
                go_meet
                case rel =>
                  have hp := HI.out.full HKi.out.2.2 (by rw [HKi.out.1]; exact hj) (Or.inr hby)
                  obtain ⟨a, cc, e⟩ := hp.own.shape
                  rw [HKi.out.1] at hp
                  refine ⟨k, P.length, a, cc, P, e, rfl, by rw [HPc.out]; exact hc64, rfl, ?_⟩
                  rw [← e]; exact hp
              · have hbyz : ¬ ((1048576 : Int) ≤ b) := by omega
                have hsz := HI.out.below.size
                have hPl : P.length ≤ 64 := by rw [HPc.out]; exact hc64
                have hzl := cnt_le (x := ll) hvle hll
                go_wp2_with (at_builtin; refine wpList_append_own _ rfl _ _ 27 rfl w1.heap.size 23 i23 _ 1 8 Yba.underlying27 hi hz0 hz1 hz2 rfl (by decide) _ _ _ rfl (World.ownsRow.alloc HI.out.own _) ⟨wr.heap.size, 0, none⟩ 1 1 [.int .u64 k] rfl rfl (cell_one_new _ _ _) (by simp [Value.oneCell']) (by unfold maxLen; omega) (by omega) (by simp; omega) ?_)
                intro v' w3 own3 g3 _
                have hN : PickInv w1 ks (cnt M vsz) j0 (i + 1) (P ++ [ks[i]!]) (b + cnt M vsz ks[i]!) v' w3 :=
                  HI.out.add HKi.out.2.2 (by rw [HKi.out.1]; exact hj) (by rw [HPc.out]; omega) (by rw [HKi.out.2.1]; exact hzl) (Below.ofAlloc wr _) (by rw [HKi.out.1]; exact own3) g3
                have hlk := (H1.out.more hN.below).acc.map.look (Yba.zeroValue36 _) (k := k) (by omega)
                rw [HM.out] at hlk
                dsimp only [Option.getD] at hlk
                rw [HKi.out.2.1] at hN
                have HN : Hid (PickInv w1 ks (cnt M vsz) j0 (i + 1) (P ++ [ks[i]!]) (b + sz vsz ll) v' w3) := hN
                have hfd := field36 r s (.slice (some ⟨gg, 0, none⟩) ll ll)
                clear own3 g3 hN
                go_wp2_with (go_at_call 6; refine (zsize64 vsz _ _ _ _).mono ?_; rintro e w' ⟨rfl, rfl⟩)
                go_roundw
                case rel => exact ⟨i + 1, b + sz vsz ll, c + 1, P ++ [ks[i]!], by go_num, by omega, rfl, by go_num, by go_num, by rw [List.length_append, HPc.out]; rfl, by omega, by omega, HN⟩
                case measure => simp [intOf]; omega
          · have hjz : (k : Int) < j0 := by omega
            go_wp2
            go_roundw
            case rel => exact ⟨i + 1, b, c, P, by go_num, by omega, rfl, rfl, rfl, HPc, hc64, hb21, HI.out.skip HKi.out.2.2 (by rw [HKi.out.1]; exact hj)⟩
            case measure => simp [intOf]; omega
        · have hikz : ¬ ((i : Int) < K) := by omega
          obtain rfl : i = K := by omega
          go_wp2
          go_meet
          case rel =>
            have hi' := HI.out
            rw [← HK.out] at hi'
            have hp := hi'.over
            obtain ⟨a, cc, e⟩ := hp.own.shape
            refine ⟨0, P.length, a, cc, P, e, rfl, by rw [HPc.out]; exact hc64, rfl, ?_⟩
            rw [← e]; exact hp
    case rest =>
      obtain ⟨rest, N, wa, wn, P, rfl, rfl, hN64, HPk⟩ := hcut
      have HH : Hid (Held w n vsz base nb ka ks M la wc) := H1.out.more HPk.out.2.below
      have hcR : Calls Yba.prog 7 #[.pointer (some ⟨nb, 0, none⟩), .int .u64 from0] wc fun e w' => ∃ (ao : Option Addr) (rc : Nat) (l : List Nat), e = .returned (.tuple #[.slice ao N rc, .int .u64 rest]) ∧ Hid (Batch wc w' M (from_ ks j0) P l ao rc N rest) := by
        have h := report64' nb w.heap.size n M ks la vsz base from0 wc HH.out.acc HH.out.node hvle (by omega) hf
        rw [← HJ.out] at h
        obtain ⟨hPl, hPk⟩ := HPk.out
        obtain ⟨l, hl, hr⟩ := hPk.run
        rw [hl] at h
        refine h.mono ?_
        rintro e w' ⟨ao, rc, N', rest', rfl, _, HB⟩
        have e1 : N' = N := HB.out.len.symm.trans hPl
        have e2 : rest' = rest := HB.out.hd.trans hr.symm
        subst e1; subst e2
        exact ⟨ao, rc, l, rfl, HB⟩
      have c29 : wc.cell? ⟨nb, 29, none⟩ = some (.int .u64 la) := HH.out.node.cells.2.2.1
      clear H1 hcN
      go_upto_region 20 with (go_at_call 7; refine hcR.mono ?_; rintro e w2 ⟨ao, rc, l, rfl, HB⟩)
      have HH2 : Hid (Held w n vsz base nb ka ks M la w2) := HH.out.more HB.out.below
      obtain ⟨_, _, d29, d33⟩ := HH2.out.node.cells
      have HW2 : Hid (OwnKeys w2 w1.heap.size (.slice wa N wn) P) := ownsRow_below HPk.out.2.own HB.out.below
      clear c29 hcR
      go_wp2
      go_loopw [113] (fun v113 wy => ∃ p : Nat, v113 = .int .i64 p ∧ p ≤ N ∧ Hid (Below w2.heap.size w2 wy)) (fun v113 _ => N - (intOf v113).toNat)
      case atStart => exact ⟨0, rfl, Nat.zero_le _, Below.refl _ _⟩
      case round =>
        obtain ⟨p, rfl, hpN, HBy⟩ := hrel
        clear d29 d33
        by_cases hp : p < N
        · have hpz : (p : Int) < N := by omega
          have hpt : p < P.length := by rw [HB.out.len]; exact hp
          obtain ⟨rb, hao, hrc⟩ := row_cells (ownsRow_below HB.out.own HBy.out) (by omega)
          obtain rfl := hao
          obtain ⟨wb, hwa, hwb, hwc⟩ := OwnKeys.cells (ownsRow_below HW2.out HBy.out) (by omega)
          obtain rfl := hwa
          have hmem : P[p]! ∈ ks := by
            have h1 : P[p]! ∈ from_ ks j0 := by rw [← HB.out.app, getElem!_pos P p hpt]; exact List.mem_append_left _ (List.getElem_mem hpt)
            exact (List.mem_filter.1 h1).1
          obtain ⟨r, s, g, ll, hM, hll, hrep⟩ := HH2.out.acc.shape hmem
          have hkt := HH2.out.acc.top _ hmem
          have hlale := HH2.out.acc.la_le
          have hfl := fun c hc => flat_get P HB.out.four p c hpt hc
          have qw := hwc p hpt
          obtain ⟨k, hk⟩ : ∃ k, P[p]! = k := ⟨_, rfl⟩
          rw [hrep, hk] at hfl
          rw [hk] at qw hM hkt
          have q0 : wr.cell? ⟨rb, p * 4, none⟩ = some (.int .u64 k) := hrc _ _ (hfl 0 (by omega))
          have q1 : wr.cell? ⟨rb, p * 4 + 1, none⟩ = some (.int .u64 r) := hrc _ _ (hfl 1 (by omega))
          have q2 : wr.cell? ⟨rb, p * 4 + 2, none⟩ = some (.string s) := hrc _ _ (hfl 2 (by omega))
          have q3 : wr.cell? ⟨rb, p * 4 + 3, none⟩ = some (.slice (some ⟨g, 0, none⟩) ll ll) := hrc _ _ (hfl 3 (by omega))
          have hB1 : Below w2.heap.size w2 (wr.alloc (.cells #[.int .u64 k, .int .u64 r, .string s, .slice (some ⟨g, 0, none⟩) ll ll] 80)) := HBy.out.more HBy.out.size (Below.ofAlloc _ _)
          have hlk := (HH2.out.more hB1).acc.map.look (Yba.zeroValue36 _) (k := k) (by omega)
          rw [hM] at hlk
          dsimp only [Option.getD] at hlk
          have qw1 : (wr.alloc (.cells #[.int .u64 k, .int .u64 r, .string s, .slice (some ⟨g, 0, none⟩) ll ll] 80)).cell? ⟨wb, p, none⟩ = some (.int .u64 k) := (World.cell?_of_block (a := ⟨wb, p, none⟩) (heap_alloc_old _ _ hwb)).trans qw
          have HM : Hid (M k = some (.agg #[.int .u64 r, .string s, .slice (some ⟨g, 0, none⟩) ll ll])) := hM
          clear hk hrc hwc hfl hrep hM hmem hpt qw
          go_upto_region 26 with fail
          have hB2 := hB1.more hB1.size (Below.ofAlloc (wr.alloc (.cells #[.int .u64 k, .int .u64 r, .string s, .slice (some ⟨g, 0, none⟩) ll ll] 80)) (.cells #[.int .u64 r, .string s, .slice (some ⟨g, 0, none⟩) ll ll] 36))
          have hX : ((wr.alloc (.cells #[.int .u64 k, .int .u64 r, .string s, .slice (some ⟨g, 0, none⟩) ll ll] 80)).alloc (.cells #[.int .u64 r, .string s, .slice (some ⟨g, 0, none⟩) ll ll] 36)).heap[wr.heap.size]? = some (.cells #[.int .u64 k, .int .u64 r, .string s, .slice (some ⟨g, 0, none⟩) ll ll] 80 (0, 0)) :=
            (heap_alloc_old _ _ (by simp)).trans (heap_alloc_new wr _)
          have hY : ((wr.alloc (.cells #[.int .u64 k, .int .u64 r, .string s, .slice (some ⟨g, 0, none⟩) ll ll] 80)).alloc (.cells #[.int .u64 r, .string s, .slice (some ⟨g, 0, none⟩) ll ll] 36)).heap[wr.heap.size + 1]? = some (.cells #[.int .u64 r, .string s, .slice (some ⟨g, 0, none⟩) ll ll] 36 (0, 0)) := by
            have := heap_alloc_new (wr.alloc (.cells #[.int .u64 k, .int .u64 r, .string s, .slice (some ⟨g, 0, none⟩) ll ll] 80)) (.cells #[.int .u64 r, .string s, .slice (some ⟨g, 0, none⟩) ll ll] 36)
            simpa using this
          have hwb1 : wb < (wr.alloc (.cells #[.int .u64 k, .int .u64 r, .string s, .slice (some ⟨g, 0, none⟩) ll ll] 80)).heap.size := by simp; omega
          have qw2 := (World.cell?_of_block (a := ⟨wb, p, none⟩) (heap_alloc_old _ (.cells #[.int .u64 r, .string s, .slice (some ⟨g, 0, none⟩) ll ll] 36) hwb1)).trans qw1
          generalize (wr.alloc (.cells #[.int .u64 k, .int .u64 r, .string s, .slice (some ⟨g, 0, none⟩) ll ll] 80)).alloc (.cells #[.int .u64 r, .string s, .slice (some ⟨g, 0, none⟩) ll ll] 36) = WQ at hB2 hX hY qw2 ⊢
          have x0 : WQ.cell? ⟨wr.heap.size, 0, none⟩ = some (.int .u64 k) := by rw [cell_of_row _ _ 0 _ _ _ hX]; rfl
          have x1 : WQ.cell? ⟨wr.heap.size, 1, none⟩ = some (.int .u64 r) := by rw [cell_of_row _ _ 1 _ _ _ hX]; rfl
          have x2 : WQ.cell? ⟨wr.heap.size, 2, none⟩ = some (.string s) := by rw [cell_of_row _ _ 2 _ _ _ hX]; rfl
          have x3 : WQ.cell? ⟨wr.heap.size, 3, none⟩ = some (.slice (some ⟨g, 0, none⟩) ll ll) := by rw [cell_of_row _ _ 3 _ _ _ hX]; rfl
          have y0 : WQ.cell? ⟨wr.heap.size + 1, 0, none⟩ = some (.int .u64 r) := by rw [cell_of_row _ _ 0 _ _ _ hY]; rfl
          have y1 : WQ.cell? ⟨wr.heap.size + 1, 1, none⟩ = some (.string s) := by rw [cell_of_row _ _ 1 _ _ _ hY]; rfl
          have y2 : WQ.cell? ⟨wr.heap.size + 1, 2, none⟩ = some (.slice (some ⟨g, 0, none⟩) ll ll) := by rw [cell_of_row _ _ 2 _ _ _ hY]; rfl
          have hel := (HH2.out.more hB2).acc.elem k _ HM.out
          have hbe : ∀ q, Calls Yba.prog 8 #[.slice (some ⟨g, 0, none⟩) ll ll, .slice (some ⟨g, 0, none⟩) ll ll] (WQ.drewN q) fun e w' => e = .returned (.bool true) ∧ w' = WQ.drewN q := fun q => by
            have hq : Elem (WQ.drewN q) (.agg #[.int .u64 r, .string s, .slice (some ⟨g, 0, none⟩) ll ll]) := hel
            obtain ⟨str, hs⟩ := elem_str hq
            exact bytesSame _ str _ hs
          have hne33 := neq33 r s
          have hgd33 := guard33
          have HB2 : Hid (Below w2.heap.size w2 WQ) := hB2
          clear hB2 hX hY hwb1 hel qw1 hB1 hlk q0 q1 q2 q3
          go_quiet (first | (go_at_call 8; refine Calls.quiet_of_same (hbe _)))
          go_wp2
          go_roundw
          case rel =>
            have h := HB2.out
            exact ⟨p + 1, by go_num, by omega, ⟨h.os, h.tape, h.output, h.size, h.block⟩⟩
          case measure => simp [intOf]; omega
        · have hpz : ¬ ((p : Int) < N) := by omega
          go_wp2
          go_ret
          have hbel := (HH2.out.more HBy.out).below
          exact ⟨rfl, hbel⟩
  · have hnz : (1024 : Int) < n := by omega
    go_enter Yba.func3, Yba.ntmps3
    go_wp2
    go_ret
    exact ⟨rfl, Below.refl _ _⟩
end Go.Proofs.Ybulkcxho
