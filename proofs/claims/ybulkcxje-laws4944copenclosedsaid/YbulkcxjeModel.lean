import Derived.Test.YbulkcxjeBuild
namespace Go.Proofs.Ybulkcxje
open Go.RowKit
set_option linter.unusedSimpArgs false

theorem wpList_append_one {w : World} {ops : Array Oper} {rest : List Oper} {o : Oper} {a : Act} {Q : Exit → Act → World → Prop} (hgd : o.guard = none) (s x : Operand)
    (hop : o.op = Op.call { callee := Callee.builtin Builtin.append, args := #[s, x], argTypes := #[26, 26] })
    (base : Nat) (v : Value) (cs : List (Int × Int)) (N : Nat) (hN : cs.length = N) (hs : a.eval s = v) (hown : Own w base v cs) (ad : Addr) (c : Nat) (hx : a.eval x = .slice (some ad) 1 c) (e : Int × Int)
    (h0 : w.cell? (ad.add 0) = some (.int .u64 e.1)) (h1 : w.cell? (ad.add 1) = some (.int .u64 e.2)) (hn : N ≤ 1000000) (hbase : base ≤ w.heap.size)
    (hK : ∀ ao cap w', Own w' base (.slice ao (N + 1) cap) (cs ++ [e]) → w.grownBy w' v.ownBlock →
      ((Value.slice ao (N + 1) cap).ownBlock = v.ownBlock ∨ ∃ g, (Value.slice ao (N + 1) cap).ownBlock = some g ∧ w.heap.size ≤ g) → wpList Yba.prog ops Q rest (a.put o.dst (.slice ao (N + 1) cap)) w') : wpList Yba.prog ops Q (o :: rest) a w := by
  subst hN
  refine wpList_plain hgd fun K hK' => ?_
  obtain ⟨ao, cap, w', hr, h2, h3, h4⟩ := run_append_one w base o.type v cs hown ad c e h0 h1 hn hbase
  unfold Oper.wp execOp
  simp only [hop, resolve, invoke, builtin, Sem.run_bind, Sem.run_pure, Result.andThen_ok, List.map_toArray, List.map_cons, List.map_nil, hs, hx, hr]
  exact hK' _ _ (hK ao cap w' h2 h3 h4)

theorem own_of_row {w : World} {base n : Nat} {v : Value} {cs : List (Int × Int)} (h : w.ownsRow base 82 2 v n (pv cs)) (hl : cs.length = n) : Own w base v cs := by
  rcases h.2 with ⟨rfl, rfl⟩ | ⟨g, cap, cur, rfl, hb, hg, hnc, hcm, hcs, htake⟩
  · exact .inl ⟨rfl, List.eq_nil_of_length_eq_zero hl⟩
  · refine .inr ⟨g, 0, cap, cur, by rw [hl], hb, hg, by omega, hcm, by omega, fun j hj => ?_⟩
    rw [Nat.zero_add, ← pv_get, ← htake, List.getElem?_take, if_pos (by omega), Array.getElem?_toList]

/-- The model's loops: the new row, the local c, all else as it was. -/
structure Gat (w wr : World) (v : Value) (cs : List (Int × Int)) (b : Nat) (x : Int × Int) : Prop where
  own : Own wr w.heap.size v cs
  bel : Below w.heap.size w wr
  cb : wr.heap[b]? = some (.cells #[.int .u64 x.1, .int .u64 x.2] 82 (0, 0))
  ne : v.ownBlock ≠ some b
  hb : w.heap.size ≤ b

theorem Gat.own' {w wr : World} {v : Value} {cs : List (Int × Int)} {b : Nat} {x : Int × Int} (h : Gat w wr v cs b x) (o : Obj) : Own (wr.alloc o) w.heap.size v cs := h.own.keep fun k hk => Below.heap_alloc wr o k (h.own.lt k hk).2

theorem Gat.step {w wr w' : World} {v v' : Value} {cs cs' : List (Int × Int)} {b : Nat} {x : Int × Int} {o : Obj} (h : Gat w wr v cs b x) (hown : Own w' w.heap.size v' cs') (hg : (wr.alloc o).grownBy w' v.ownBlock) (hat : v'.ownBlock = v.ownBlock ∨ ∃ g, v'.ownBlock = some g ∧ (wr.alloc o).heap.size ≤ g) :
    Gat w w' v' cs' b x := by
  have hs := h.bel.size
  have hal : (wr.alloc o).heap.size = wr.heap.size + 1 := by simp
  have hbl := lt_of_block h.cb
  refine ⟨hown, (h.bel.alloc hs o).trans ⟨hg.os, hg.tape, hg.output, hg.size, fun k hk => hg.block k (by omega) (fun e => by have := (h.own.lt k e.symm).1; omega)⟩, ?_, ?_, h.hb⟩
  · rw [hg.block b (by omega) (fun e => h.ne e.symm), Below.heap_alloc wr o b hbl]
    exact h.cb
  · rcases hat with e | ⟨g, e, hgg⟩
    · rw [e]; exact h.ne
    · rw [e]
      intro e2
      have := Option.some.inj e2
      omega

theorem Gat.c0 {w wr : World} {v : Value} {cs : List (Int × Int)} {b : Nat} {x : Int × Int} (h : Gat w wr v cs b x) : wr.cell? ⟨b, 0, none⟩ = some (.int .u64 x.1) := by rw [cell_of_row _ _ 0 _ 82 (0, 0) h.cb]; rfl
theorem Gat.c1 {w wr : World} {v : Value} {cs : List (Int × Int)} {b : Nat} {x : Int × Int} (h : Gat w wr v cs b x) : wr.cell? ⟨b, 1, none⟩ = some (.int .u64 x.2) := by rw [cell_of_row _ _ 1 _ 82 (0, 0) h.cb]; rfl
theorem Gat.fz {w wr : World} {v : Value} {cs : List (Int × Int)} {b : Nat} {x : Int × Int} (h : Gat w wr v cs b x) (j : Nat) : wr.frozen? ⟨b, j, none⟩ = false := frozen_of_row _ _ _ _ 82 h.cb
theorem Gat.word1 {w wr : World} {v : Value} {cs : List (Int × Int)} {b : Nat} {x : Int × Int} (h : Gat w wr v cs b x) (y : Int) : Gat w (wr.setCell ⟨b, 1, none⟩ (.int .u64 y)) v cs b (x.1, y) := by
  refine ⟨h.own.keep fun k hk => Below.heap_setCell _ _ _ _ (fun e => h.ne (by rw [hk]; exact congrArg some e)), h.bel.setCell (by exact h.hb) _, ?_, h.ne, h.hb⟩
  rw [heap_setCell_same _ b 1 _ 82 (.int .u64 y) h.cb]
  simp

theorem take_erase {α : Type} (cs : List α) (i k : Nat) (hk : k < cs.length) (hne : k ≠ i) : (cs.take (k + 1)).eraseIdx i = (cs.take k).eraseIdx i ++ [cs[k]] := by
  rw [List.take_succ_eq_append_getElem hk]
  by_cases h : i < k
  · rw [List.eraseIdx_append_of_lt_length (by rw [List.length_take]; omega)]
  · rw [List.eraseIdx_of_length_le (by simp; omega), List.eraseIdx_of_length_le (by rw [List.length_take]; omega)]
theorem take_erase_at {α : Type} (cs : List α) (i : Nat) (hk : i < cs.length) : (cs.take (i + 1)).eraseIdx i = (cs.take i).eraseIdx i := by
  rw [List.take_succ_eq_append_getElem hk, List.eraseIdx_append_of_length_le (by rw [List.length_take]; omega), List.length_take, show i - min i cs.length = 0 by omega, List.eraseIdx_of_length_le (l := cs.take i) (by rw [List.length_take]; omega)]
  simp

theorem new_c0 {W : World} {n : Nat} {a b : Value} (h : W.heap.size = n) : (W.alloc (.cells #[a, b] 82)).cell? ((⟨n, 0, none⟩ : Addr).add 0) = some a := by
  subst h
  rw [Addr.add_lit, cell_of_row _ _ _ _ 82 (0, 0) (heap_alloc_new W _)]; rfl
theorem new_c1 {W : World} {n : Nat} {a b : Value} (h : W.heap.size = n) : (W.alloc (.cells #[a, b] 82)).cell? ((⟨n, 0, none⟩ : Addr).add 1) = some b := by
  subst h
  rw [Addr.add_lit, cell_of_row _ _ _ _ 82 (0, 0) (heap_alloc_new W _)]; rfl

theorem model_fin {w w' : World} {e : Ending} {v : Value} {cs r : List (Int × Int)} {inc seq : Int} {gap : Bool} (hS : stepC cs inc seq = (r, gap)) (he : e = .returned (.tuple #[v, .bool gap])) (ho : Own w' w.heap.size v r) (hb : Below w.heap.size w w') :
    ∃ v', e = .returned (.tuple #[v', .bool (stepC cs inc seq).2]) ∧ Own w' w.heap.size v' (stepC cs inc seq).1 ∧ Below w.heap.size w w' := ⟨v, by rw [hS]; exact he, by rw [hS]; exact ho, hb⟩

set_option maxHeartbeats 800000 in
set_option maxRecDepth 100000 in
theorem model_any (ao : Option Addr) (n cap i : Nat) (cs : List (Int × Int)) (inc seq : Int) (w : World) (hr : Reads2 w ao cs) (hl : cs.length = n) (hn : n ≤ 8) (hfi : fidx cs inc = i) :
    Calls Yba.prog 6 #[.slice ao n cap, .int .u64 inc, .int .u64 seq] w fun e w' => ∃ v', e = .returned (.tuple #[v', .bool (stepC cs inc seq).2]) ∧ Own w' w.heap.size v' (stepC cs inc seq).1 ∧ Below w.heap.size w w' := by
  obtain ⟨i0, hi0, hz0, hz1, hz2⟩ := info_parts Yba.info82
  have HL : Hid (cs.length = n) := hl
  have hin : i ≤ n := by have := fidx_le cs inc; omega
  have HB : Hid (∀ k, k < i → ((cs.getD k default).1 == inc) = false) := by rw [← hfi]; exact fidx_bef cs inc
  have HA : Hid (i < n → ((cs.getD i default).1 == inc) = true) := by rw [← hfi, ← hl]; exact fidx_at cs inc
  have HF : Hid (fidx cs inc = i) := hfi
  clear hl hfi
  go_enter Yba.func6, Yba.ntmps6
  go_wp2_with (at_make; refine wpList_make_own _ rfl (.const (.int .i64 0)) (.tmp 18) 26 rfl w.heap.size 82 i0 _ 2 Yba.underlying26 hi0 hz0 hz1 .i64 .i64 _ (n + 1) rfl rfl (by omega) (by rw [hz2]; omega) (by unfold maxLen; omega) (Nat.le_refl _) ?_; intro w1 hown1 hgrow1)
  have hB1 : Below w.heap.size w w1 := ⟨hgrow1.os, hgrow1.tape, hgrow1.output, hgrow1.size, fun k hk => hgrow1.block k hk (by simp)⟩
  have hO1 : Own w1 w.heap.size (.slice (some ⟨w.heap.size, 0, none⟩) 0 (n + 1)) [] := own_of_row hown1 rfl
  have hs1 : w.heap.size < w1.heap.size := (hO1.lt w.heap.size rfl).2
  have hG1 : ∀ x : Int × Int, Gat w (w1.alloc (.cells #[.int .u64 x.1, .int .u64 x.2] 82)) (.slice (some ⟨w.heap.size, 0, none⟩) 0 (n + 1)) [] w1.heap.size x := fun x =>
    ⟨hO1.keep fun k hk => Below.heap_alloc w1 _ k (hO1.lt k hk).2, hB1.alloc (by omega) _, heap_alloc_new w1 _, by simp only [Value.ownBlock]; intro e; have := Option.some.inj e; omega, by omega⟩
  have HG1 : Hid (∀ x : Int × Int, Gat w (w1.alloc (.cells #[.int .u64 x.1, .int .u64 x.2] 82)) (.slice (some ⟨w.heap.size, 0, none⟩) 0 (n + 1)) [] w1.heap.size x) := hG1
  clear hG1 hown1 hgrow1 hO1
  go_loop [9, 10] (fun t j => ∃ k : Nat, k ≤ i ∧ j = .int .i64 k ∧ t = .int .i64 (-1)) (fun _ j => i - (intOf j).toNat)
  case atStart => exact ⟨0, Nat.zero_le _, rfl, rfl⟩
  case round =>
    obtain ⟨k, hk, rfl, rfl⟩ := hrel
    by_cases hkn : k < n
    · rcases hr with hz | ⟨g, off, rfl, hg, hcell⟩
      · have := HL.out; omega
      have hc1 : w1.cell? ⟨g, off + k * 2, none⟩ = some (.int .u64 (cs.getD k default).1) := by
        rw [hB1.cell (p := ⟨g, off + k * 2, none⟩) hg, hcell (k * 2) (by have := HL.out; omega), cellOf_even (by have := HL.out; omega)]
      by_cases hki : k < i
      · have htest := HB.out k hki
        clear hcell
        generalize cs.getD k default = c at hc1 htest
        go_wp2
        go_round
        case rel => exact ⟨k + 1, by omega, by go_num, rfl⟩
        case measure => simp [intOf]; omega
      · -- found
        obtain rfl : k = i := by omega
        have htest := HA.out hkn
        have hc2 : w1.cell? ⟨g, off + k * 2 + 1, none⟩ = some (.int .u64 (cs.getD k default).2) := by
          rw [Nat.add_assoc, hB1.cell (p := ⟨g, off + (k * 2 + 1), none⟩) hg, hcell (k * 2 + 1) (by have := HL.out; omega), cellOf_odd (by have := HL.out; omega)]
        have hgw1 : g < w1.heap.size := by omega
        have HCELL : Hid (∀ j, j < cs.length * 2 → w.cell? ⟨g, off + j, none⟩ = cellOf cs j) := hcell
        have HC : Hid (∃ c, cs.getD k default = c) := ⟨_, rfl⟩
        clear hcell
        obtain ⟨c, hce⟩ := HC.out
        have HCE : Hid (cs.getD k default = c) := hce
        rw [hce] at hc1 hc2 htest
        clear hce HC
        have hG := HG1.out c
        have HS : Hid (stepC cs inc seq = (cs.eraseIdx k ++ [(c.1, if c.2 < seq then seq else c.2)], decide (c.2 < seq))) := by
          show _ = _
          unfold stepC
          rw [HF.out, if_pos (by have := HL.out; omega), HCE.out]
        go_wp2_with fail
        clear HG1 hc1 hc2
        generalize w1.alloc (.cells #[.int .u64 c.1, .int .u64 c.2] 82) = w2 at *
        generalize w1.heap.size = b at *
        go_loopw [8, 13] (fun o j wr => ∃ q : Nat, q ≤ n ∧ j = .int .i64 q ∧ ∃ (ao' : Option Addr) (N cap' : Nat), o = .slice ao' N cap' ∧ ((cs.take q).eraseIdx k).length = N ∧ Gat w wr (.slice ao' N cap') ((cs.take q).eraseIdx k) b c) (fun _ j _ => n - (intOf j).toNat)
        case atStart => exact ⟨0, Nat.zero_le _, rfl, _, 0, n + 1, rfl, by simp, by simpa using hG⟩
        case round =>
          obtain ⟨q, hq, rfl, ao', N, cap', rfl, hN, hGr⟩ := hrel
          have HN : Hid (((cs.take q).eraseIdx k).length = N) := hN
          have hN8 : N ≤ 8 := by rw [← hN]; have := List.length_eraseIdx_le (cs.take q) k; rw [List.length_take] at this; omega
          clear hN hG
          by_cases hqn : q < n
          · by_cases hqk : q = k
            · subst hqk
              have HT : Hid ((cs.take (q + 1)).eraseIdx q = (cs.take q).eraseIdx q) := take_erase_at cs q (by have := HL.out; omega)
              go_wp2
              go_roundw
              case rel => exact ⟨q + 1, by omega, by go_num, ao', N, cap', rfl, by rw [HT.out]; exact HN.out, by rw [HT.out]; exact hGr⟩
              case measure => simp [intOf]; omega
            · have hsr := hGr.bel.size
              have hq1 : wr.cell? ⟨g, off + q * 2, none⟩ = some (.int .u64 (cs.getD q default).1) := by
                rw [hGr.bel.cell (p := ⟨g, off + q * 2, none⟩) hg, HCELL.out (q * 2) (by have := HL.out; omega), cellOf_even (by have := HL.out; omega)]
              have hq2 : wr.cell? ⟨g, off + q * 2 + 1, none⟩ = some (.int .u64 (cs.getD q default).2) := by
                rw [Nat.add_assoc, hGr.bel.cell (p := ⟨g, off + (q * 2 + 1), none⟩) hg, HCELL.out (q * 2 + 1) (by have := HL.out; omega), cellOf_odd (by have := HL.out; omega)]
              have HT : Hid ((cs.take (q + 1)).eraseIdx k = (cs.take q).eraseIdx k ++ [cs.getD q default]) := by
                have hql : q < cs.length := by have := HL.out; omega
                show _ = _
                rw [take_erase cs k q hql hqk, List.getD, List.getElem?_eq_getElem hql]
                rfl
              have hgr : g < wr.heap.size := by omega
              have hqk' : ((q : Int) != (k : Int)) = true := by rw [bne_iff_ne]; omega
              generalize cs.getD q default = d at *
              go_wp2_with (at_builtin; refine wpList_append_one rfl (.tmp 52) (.tmp 57) rfl w.heap.size (.slice ao' N cap') ((cs.take q).eraseIdx k) N HN.out rfl (hGr.own' _) ⟨wr.heap.size, 0, none⟩ 1 rfl d (by simp [Addr.add]) (by simp [Addr.add]) (by omega) (by simp; omega) ?_; intro ao6 cap6 w6 hown6 hgrow6 hat6)
              have hG6 := hGr.step hown6 hgrow6 hat6
              clear hown6 hgrow6 hat6 hGr hq1 hq2
              go_wp2
              go_roundw
              case rel => exact ⟨q + 1, by omega, by go_num, ao6, N + 1, cap6, rfl, by rw [HT.out, List.length_append, HN.out]; rfl, by rw [HT.out]; exact hG6⟩
              case measure => simp [intOf]; omega
          · have HT : Hid ((cs.take q).eraseIdx k = cs.eraseIdx k) := by show _ = _; rw [List.take_of_length_le (by have := HL.out; omega)]
            have hx0 := hGr.c0
            have hx1 := hGr.c1
            have hf1 := hGr.fz 1
            have hbl := lt_of_block hGr.cb
            have hsr := hGr.bel.size
            by_cases hgap : c.2 < seq
            · have HSG : Hid (stepC cs inc seq = (cs.eraseIdx k ++ [(c.1, seq)], true)) := by show _ = _; rw [HS.out, if_pos hgap, decide_eq_true hgap]
              have hG5 := hGr.word1 seq
              have hz0 : (wr.setCell ⟨b, 1, none⟩ (.int .u64 seq)).heap.size = wr.heap.size := by simp [World.setCell]
              have HZ : Hid ((wr.setCell ⟨b, 1, none⟩ (.int .u64 seq)).heap.size = wr.heap.size) := hz0
              clear hz0
              go_wp2_with (at_builtin; refine wpList_append_one rfl (.tmp 82) (.tmp 84) rfl w.heap.size (.slice ao' N cap') ((cs.take q).eraseIdx k) N HN.out rfl (hG5.own' _) ⟨wr.heap.size, 0, none⟩ 1 rfl (c.1, seq) (by exact new_c0 HZ.out) (by exact new_c1 HZ.out) (by omega) (by simp; omega) ?_; intro ao6 cap6 w6 hown6 hgrow6 hat6)
              have hG6 := hG5.step hown6 hgrow6 hat6
              rw [HT.out] at hG6
              go_ret2
              exact model_fin HSG.out rfl hG6.own hG6.bel
            · have HSG : Hid (stepC cs inc seq = (cs.eraseIdx k ++ [(c.1, c.2)], false)) := by show _ = _; rw [HS.out, if_neg hgap, decide_eq_false hgap]
              go_wp2_with (at_builtin; refine wpList_append_one rfl (.tmp 82) (.tmp 84) rfl w.heap.size (.slice ao' N cap') ((cs.take q).eraseIdx k) N HN.out rfl (hGr.own' _) ⟨wr.heap.size, 0, none⟩ 1 rfl (c.1, c.2) (by simp [Addr.add]) (by simp [Addr.add]) (by omega) (by simp; omega) ?_; intro ao6 cap6 w6 hown6 hgrow6 hat6)
              have hG6 := hGr.step hown6 hgrow6 hat6
              rw [HT.out] at hG6
              go_ret2
              exact model_fin HSG.out rfl hG6.own hG6.bel
    · -- not found
      by_cases h8 : n = 8
      · have HS : Hid (stepC cs inc seq = (cs.drop 1 ++ [(inc, seq)], false)) := by
          show _ = _
          unfold stepC
          rw [HF.out, if_neg (by have := HL.out; omega), if_pos (by have := HL.out; omega), List.drop_one]
        have h8' : ((n : Int) == 8) = true := by rw [beq_iff_eq]; omega
        have h80 : 1 ≤ n := by omega
        clear h8
        have hG := HG1.out (inc, seq)
        go_wp2_with fail
        clear HG1
        generalize w1.alloc (.cells #[.int .u64 inc, .int .u64 seq] 82) = w2 at *
        generalize w1.heap.size = b at *
        go_loopw [8, 15] (fun o j wr => ∃ q : Nat, 1 ≤ q ∧ q ≤ n ∧ j = .int .i64 q ∧ ∃ (ao' : Option Addr) (N cap' : Nat), o = .slice ao' N cap' ∧ ((cs.take q).drop 1).length = N ∧ Gat w wr (.slice ao' N cap') ((cs.take q).drop 1) b (inc, seq)) (fun _ j _ => n - (intOf j).toNat)
        case atStart => exact ⟨1, Nat.le_refl _, by omega, rfl, _, 0, n + 1, rfl, by simp, by rw [List.drop_of_length_le (by rw [List.length_take]; omega)]; exact hG⟩
        case round =>
          obtain ⟨q, hq0, hq, rfl, ao', N, cap', rfl, hN, hGr⟩ := hrel
          have HN : Hid (((cs.take q).drop 1).length = N) := hN
          have hN8 : N ≤ 8 := by rw [← hN, List.length_drop, List.length_take]; omega
          clear hN hG
          by_cases hqn : q < n
          · rcases hr with hz | ⟨g, off, rfl, hg, hcell⟩
            · have := HL.out; omega
            have hsr := hGr.bel.size
            have hq1 : wr.cell? ⟨g, off + q * 2, none⟩ = some (.int .u64 (cs.getD q default).1) := by
              rw [hGr.bel.cell (p := ⟨g, off + q * 2, none⟩) hg, hcell (q * 2) (by have := HL.out; omega), cellOf_even (by have := HL.out; omega)]
            have hq2 : wr.cell? ⟨g, off + q * 2 + 1, none⟩ = some (.int .u64 (cs.getD q default).2) := by
              rw [Nat.add_assoc, hGr.bel.cell (p := ⟨g, off + (q * 2 + 1), none⟩) hg, hcell (q * 2 + 1) (by have := HL.out; omega), cellOf_odd (by have := HL.out; omega)]
            have HT : Hid ((cs.take (q + 1)).drop 1 = (cs.take q).drop 1 ++ [cs.getD q default]) := by
              have hql : q < cs.length := by have := HL.out; omega
              show _ = _
              rw [List.take_succ_eq_append_getElem hql, List.drop_append_of_le_length (by rw [List.length_take]; omega), List.getD, List.getElem?_eq_getElem hql]
              rfl
            have hgr : g < wr.heap.size := by omega
            clear hcell
            generalize cs.getD q default = d at *
            go_wp2_with (at_builtin; refine wpList_append_one rfl (.tmp 75) (.tmp 80) rfl w.heap.size (.slice ao' N cap') ((cs.take q).drop 1) N HN.out rfl (hGr.own' _) ⟨wr.heap.size, 0, none⟩ 1 rfl d (by simp [Addr.add]) (by simp [Addr.add]) (by omega) (by simp; omega) ?_; intro ao6 cap6 w6 hown6 hgrow6 hat6)
            have hG6 := hGr.step hown6 hgrow6 hat6
            clear hown6 hgrow6 hat6 hGr hq1 hq2
            go_wp2
            go_roundw
            case rel => exact ⟨q + 1, by omega, by omega, by go_num, ao6, N + 1, cap6, rfl, by rw [HT.out, List.length_append, HN.out]; rfl, by rw [HT.out]; exact hG6⟩
            case measure => simp [intOf]; omega
          · have HT : Hid ((cs.take q).drop 1 = cs.drop 1) := by show _ = _; rw [List.take_of_length_le (by have := HL.out; omega)]
            have hx0 := hGr.c0
            have hx1 := hGr.c1
            have hbl := lt_of_block hGr.cb
            have hsr := hGr.bel.size
            go_wp2_with (at_builtin; refine wpList_append_one rfl (.tmp 82) (.tmp 84) rfl w.heap.size (.slice ao' N cap') ((cs.take q).drop 1) N HN.out rfl (hGr.own' _) ⟨wr.heap.size, 0, none⟩ 1 rfl (inc, seq) (by simp [Addr.add]) (by simp [Addr.add]) (by omega) (by simp; omega) ?_; intro ao6 cap6 w6 hown6 hgrow6 hat6)
            have hG6 := hGr.step hown6 hgrow6 hat6
            rw [HT.out] at hG6
            go_ret2
            exact model_fin HS.out rfl hG6.own hG6.bel
      · have HS : Hid (stepC cs inc seq = (cs.drop 0 ++ [(inc, seq)], false)) := by
          show _ = _
          unfold stepC
          rw [HF.out, if_neg (by have := HL.out; omega), if_neg (by have := HL.out; omega), List.drop_zero]
        have h8' : ((n : Int) == 8) = false := by simp; omega
        have hG := HG1.out (inc, seq)
        go_wp2_with fail
        clear HG1
        generalize w1.alloc (.cells #[.int .u64 inc, .int .u64 seq] 82) = w2 at *
        generalize w1.heap.size = b at *
        go_loopw [8, 15] (fun o j wr => ∃ q : Nat, 0 ≤ q ∧ q ≤ n ∧ j = .int .i64 q ∧ ∃ (ao' : Option Addr) (N cap' : Nat), o = .slice ao' N cap' ∧ ((cs.take q).drop 0).length = N ∧ Gat w wr (.slice ao' N cap') ((cs.take q).drop 0) b (inc, seq)) (fun _ j _ => n - (intOf j).toNat)
        case atStart => exact ⟨0, Nat.le_refl _, by omega, rfl, _, 0, n + 1, rfl, by simp, by rw [List.drop_of_length_le (by rw [List.length_take]; omega)]; exact hG⟩
        case round =>
          obtain ⟨q, hq0, hq, rfl, ao', N, cap', rfl, hN, hGr⟩ := hrel
          have HN : Hid (((cs.take q).drop 0).length = N) := hN
          have hN8 : N ≤ 8 := by rw [← hN, List.length_drop, List.length_take]; omega
          clear hN hG
          by_cases hqn : q < n
          · rcases hr with hz | ⟨g, off, rfl, hg, hcell⟩
            · have := HL.out; omega
            have hsr := hGr.bel.size
            have hq1 : wr.cell? ⟨g, off + q * 2, none⟩ = some (.int .u64 (cs.getD q default).1) := by
              rw [hGr.bel.cell (p := ⟨g, off + q * 2, none⟩) hg, hcell (q * 2) (by have := HL.out; omega), cellOf_even (by have := HL.out; omega)]
            have hq2 : wr.cell? ⟨g, off + q * 2 + 1, none⟩ = some (.int .u64 (cs.getD q default).2) := by
              rw [Nat.add_assoc, hGr.bel.cell (p := ⟨g, off + (q * 2 + 1), none⟩) hg, hcell (q * 2 + 1) (by have := HL.out; omega), cellOf_odd (by have := HL.out; omega)]
            have HT : Hid ((cs.take (q + 1)).drop 0 = (cs.take q).drop 0 ++ [cs.getD q default]) := by
              have hql : q < cs.length := by have := HL.out; omega
              show _ = _
              rw [List.take_succ_eq_append_getElem hql, List.drop_append_of_le_length (by rw [List.length_take]; omega), List.getD, List.getElem?_eq_getElem hql]
              rfl
            have hgr : g < wr.heap.size := by omega
            clear hcell
            generalize cs.getD q default = d at *
            go_wp2_with (at_builtin; refine wpList_append_one rfl (.tmp 75) (.tmp 80) rfl w.heap.size (.slice ao' N cap') ((cs.take q).drop 0) N HN.out rfl (hGr.own' _) ⟨wr.heap.size, 0, none⟩ 1 rfl d (by simp [Addr.add]) (by simp [Addr.add]) (by omega) (by simp; omega) ?_; intro ao6 cap6 w6 hown6 hgrow6 hat6)
            have hG6 := hGr.step hown6 hgrow6 hat6
            clear hown6 hgrow6 hat6 hGr hq1 hq2
            go_wp2
            go_roundw
            case rel => exact ⟨q + 1, by omega, by omega, by go_num, ao6, N + 1, cap6, rfl, by rw [HT.out, List.length_append, HN.out]; rfl, by rw [HT.out]; exact hG6⟩
            case measure => simp [intOf]; omega
          · have HT : Hid ((cs.take q).drop 0 = cs.drop 0) := by show _ = _; rw [List.take_of_length_le (by have := HL.out; omega)]
            have hx0 := hGr.c0
            have hx1 := hGr.c1
            have hbl := lt_of_block hGr.cb
            have hsr := hGr.bel.size
            go_wp2_with (at_builtin; refine wpList_append_one rfl (.tmp 82) (.tmp 84) rfl w.heap.size (.slice ao' N cap') ((cs.take q).drop 0) N HN.out rfl (hGr.own' _) ⟨wr.heap.size, 0, none⟩ 1 rfl (inc, seq) (by simp [Addr.add]) (by simp [Addr.add]) (by omega) (by simp; omega) ?_; intro ao6 cap6 w6 hown6 hgrow6 hat6)
            have hG6 := hGr.step hown6 hgrow6 hat6
            rw [HT.out] at hG6
            go_ret2
            exact model_fin HS.out rfl hG6.own hG6.bel
end Go.Proofs.Ybulkcxje
