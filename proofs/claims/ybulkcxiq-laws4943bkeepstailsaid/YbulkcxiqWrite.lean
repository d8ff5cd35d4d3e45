import Derived.Test.YbulkcxiqKit
namespace Go.Proofs.Ybulkcxiq
open Go.RowKit

/-- w' is w but for block bt, the row 'row' and new blocks. -/
structure Upto (w w' : World) (bt : Nat) (row : Option Nat) : Prop where
  os : w'.os = w.os
  tape : w'.tape = w.tape
  output : w'.output = w.output
  size : w.heap.size ≤ w'.heap.size
  block : ∀ k, k < w.heap.size → k ≠ bt → some k ≠ row → w'.heap[k]? = w.heap[k]?

theorem step_append_any {P : Program} (w : World) {ops : Array Oper} {o : Oper} {a : Act} {K : Act → World → Prop} {Q : Exit → Act → World → Prop} {E : Prop} (hgd : o.guard = none) (s x : Operand) (t : TypeId)
    (ho : o.op = .call { callee := .builtin .append, args := #[s, x], argTypes := #[t, t] })
    (base : Nat) (e : TypeId) (i : TypeInfo) (z : Value) (bytes : Nat) (ht : P.underlying t = some (.slice e)) (hi : P.info? e = some i) (hz : i.zero = some z)
    (hsize : i.size = 1) (hby : i.bytes = bytes) (hzs : z.cells.size = 1)
    (v : Value) (n : Nat) (xs : List Value) (hs : a.eval s = v) (hown : w.ownsRow base e 1 v n xs)
    (ap : Option Addr) (m c : Nat) (news : List Value) (hx : a.eval x = .slice ap m c) (hsrc : SrcAt w ap m c news) (h1 : ∀ u ∈ news, u.oneCell' = true)
    (N : Nat) (hN : n + m = N) (h63 : N ≤ maxLen) (hbytes : N * bytes ≤ 140737488355328) (hbase : base ≤ w.heap.size)
    (h : ∀ ao cap w', w'.ownsRow base e 1 (.slice ao N cap) N (xs ++ news) → w.grownBy w' v.ownBlock →
      ((Value.slice ao N cap).ownBlock = v.ownBlock ∨ (Value.slice ao N cap).ownBlock = some w.heap.size) → K (a.put o.dst (.slice ao N cap)) w') :
    if Region.wanted o (yielded ops a.tmps) = true then Oper.wp P o a w K Q else E := by
  have hw : Region.wanted o (yielded ops a.tmps) = true := by simp [Region.wanted, hgd]
  rw [if_pos hw]
  subst hN
  obtain ⟨ao, cap, w', hr, h2, h3, h4⟩ := run_append_any (P := P) w base t o.type e i z bytes ht hi hz hsize hby hzs v n xs hown ap m c news hsrc h1 h63 hbytes hbase
  unfold Oper.wp execOp
  simp only [ho, resolve, invoke, builtin, Sem.run_bind, Sem.run_pure, Result.andThen_ok, List.map_toArray, List.map_cons, List.map_nil, hs, hx, hr]
  exact h ao cap w' h2 h3 h4

/-- A block of one cell stays behind an append onto a row of bytes. -/
theorem one_kept {w w' : World} {base bt : Nat} {v : Value} {n : Nat} {xs : List Value} {u : Value} (hown : w.ownsRow base 5 1 v n xs) (hbt : w.heap[bt]? = some (.cells #[u] 27 (0, 0))) (hg : w.grownBy w' v.ownBlock) :
    w'.heap[bt]? = some (.cells #[u] 27 (0, 0)) := by
  rw [hg.block bt (lt_of_block hbt) ?_]
  · exact hbt
  · rcases hown.2 with ⟨rfl, _⟩ | ⟨g, cap, cur, rfl, _, hgg, _⟩
    · simp [Value.ownBlock]
    · simp only [Value.ownBlock]
      intro h
      have h := Option.some.inj h
      subst h
      rw [hbt] at hgg
      simp at hgg

theorem own_ne {w : World} {base bt : Nat} {v : Value} {n : Nat} {xs : List Value} {u : Value} (hown : w.ownsRow base 5 1 v n xs) (hbt : w.heap[bt]? = some (.cells #[u] 27 (0, 0))) : v.ownBlock ≠ some bt := by
  rcases hown.2 with ⟨rfl, _⟩ | ⟨g, cap, cur, rfl, _, hgg, _⟩
  · simp [Value.ownBlock]
  · simp only [Value.ownBlock]
    intro h
    have h := Option.some.inj h
    subst h
    rw [hbt] at hgg
    simp at hgg

/-- What Write leaves. -/
def Wrote (w w' : World) (bt base : Nat) (v : Value) (xs : List Int) : Prop :=
  ∃ ao' n' cap', n' = xs.length ∧ w'.heap[bt]? = some (.cells #[.slice ao' n' cap'] 27 (0, 0)) ∧ w'.ownsRow base 5 1 (.slice ao' n' cap') n' (bv xs) ∧
    ((Value.slice ao' n' cap').ownBlock = v.ownBlock ∨ ∃ g, (Value.slice ao' n' cap').ownBlock = some g ∧ w.heap.size ≤ g) ∧ Upto w w' bt v.ownBlock

theorem wrote_one {w w1 : World} {bt base N cap' : Nat} {v : Value} {ao' : Option Addr} {u : Value} {xs zs : List Int} (hx : xs.length + zs.length = N)
    (hown1 : w1.ownsRow base 5 1 (.slice ao' N cap') N (bv xs ++ bv zs)) (hgrow1 : w.grownBy w1 v.ownBlock) (hat1 : (Value.slice ao' N cap').ownBlock = v.ownBlock ∨ (Value.slice ao' N cap').ownBlock = some w.heap.size)
    (hbt1 : w1.heap[bt]? = some (.cells #[u] 27 (0, 0))) : Wrote w (w1.setCell ⟨bt, 0, none⟩ (.slice ao' N cap')) bt base v (xs ++ zs) := by
  refine ⟨ao', N, cap', by simp [← hx], one_setCell hbt1, ?_, ?_, hgrow1.os, hgrow1.tape, hgrow1.output, by simpa [World.setCell] using hgrow1.size, fun k hk h1 h2 => ?_⟩
  · rw [bv_append]
    exact ownsRow_setCell_other hown1 (own_ne hown1 hbt1) _
  · rcases hat1 with h | h
    · exact .inl h
    · exact .inr ⟨_, h, Nat.le_refl _⟩
  · rw [Below.heap_setCell _ _ _ _ h1]
    exact hgrow1.block k hk h2

/-- The second append of Write: onto the same array, cut to nothing. -/
theorem wrote_two {w w2 w3 : World} {bt base g N cap' cap3 : Nat} {ao3 : Option Addr} {v : Value} {u : Value} {ys : List Int} (hy : ys.length = 4096)
    (hat2 : (Value.slice (some ⟨g, 0, none⟩) N cap').ownBlock = v.ownBlock ∨ (Value.slice (some ⟨g, 0, none⟩) N cap').ownBlock = some w.heap.size)
    (hup2 : Upto w w2 bt v.ownBlock)
    (hown3 : w3.ownsRow base 5 1 (.slice ao3 4096 cap3) 4096 (bv [] ++ bv ys)) (hgrow3 : w2.grownBy w3 (Value.slice (some ⟨g, 0, none⟩) 0 cap').ownBlock)
    (hat3 : (Value.slice ao3 4096 cap3).ownBlock = (Value.slice (some ⟨g, 0, none⟩) 0 cap').ownBlock ∨ (Value.slice ao3 4096 cap3).ownBlock = some w2.heap.size)
    (hbt3 : w3.heap[bt]? = some (.cells #[u] 27 (0, 0))) : Wrote w (w3.setCell ⟨bt, 0, none⟩ (.slice ao3 4096 cap3)) bt base v ys := by
  have hsz := hup2.size
  have hsz3 := hgrow3.size
  refine ⟨ao3, 4096, cap3, hy.symm, one_setCell hbt3, ?_, ?_, hgrow3.os.trans hup2.os, hgrow3.tape.trans hup2.tape, hgrow3.output.trans hup2.output, ?_, fun k hk h1 h2 => ?_⟩
  · have := ownsRow_setCell_other (a := ⟨bt, 0, none⟩) hown3 (own_ne hown3 hbt3) (Value.slice ao3 4096 cap3)
    simpa [bv] using this
  · rcases hat3 with h | h
    · rw [h]
      simp only [Value.ownBlock] at hat2 ⊢
      rcases hat2 with h2 | h2
      · exact .inl h2
      · have := Option.some.inj h2
        exact .inr ⟨g, rfl, by omega⟩
    · exact .inr ⟨_, h, hsz⟩
  · have : (w3.setCell ⟨bt, 0, none⟩ (.slice ao3 4096 cap3)).heap.size = w3.heap.size := by simp [World.setCell]
    omega
  · rw [Below.heap_setCell _ _ _ _ h1, hgrow3.block k (by omega) ?_]
    · exact hup2.block k hk h1 h2
    · simp only [Value.ownBlock] at hat2 ⊢
      intro e
      have e := Option.some.inj e
      subst e
      rcases hat2 with h3 | h3
      · exact h2 h3
      · have := Option.some.inj h3; omega

set_option maxHeartbeats 400000 in
set_option maxRecDepth 100000 in
theorem write_small (bt base n cap : Nat) (ao : Option Addr) (xs zs : List Int) (ap : Option Addr) (m c : Nat) (w : World) (hbase : base ≤ w.heap.size) (hx : xs.length = n)
    (hbt : w.heap[bt]? = some (.cells #[.slice ao n cap] 27 (0, 0))) (hown : w.ownsRow base 5 1 (.slice ao n cap) n (bv xs)) (hsrc : SrcAt w ap m c (bv zs)) (hnm : n + m ≤ 4096) :
    Calls Yba.prog 9 #[.pointer (some ⟨bt, 0, none⟩), .slice ap m c] w fun e w' => e = .returned (.tuple #[.int .i64 m, .nilIface]) ∧ Wrote w w' bt base (.slice ao n cap) (kept (xs ++ zs)) := by
  obtain ⟨i0, hi0, hz0, hz1, hz2⟩ := info_parts Yba.info5
  have hc0 := cell_of_one hbt
  have hf0 := free_of_one hbt
  have HZ : Hid (xs.length + zs.length = n + m) := by have := hsrc.1; rw [bv_length] at this; show _ = _; omega
  have hkp : kept (xs ++ zs) = xs ++ zs := kept_small _ (by rw [List.length_append, HZ.out]; exact hnm)
  rw [hkp]
  clear hx hkp
  obtain ⟨N, hN⟩ : ∃ N, n + m = N := ⟨_, rfl⟩
  have HN : Hid (n + m = N) := hN
  have hN1 : N ≤ 4096 := by omega
  rw [hN] at HZ
  clear hN hnm
  go_enter Yba.func9, Yba.ntmps9
  go_wp2_with (at_builtin; refine wpList_append_any _ rfl (.tmp 10) (.tmp 11) 22 rfl base 5 i0 (.int .u8 0) 1 Yba.underlying22 hi0 hz0 hz1 hz2 rfl _ _ _ rfl hown _ _ _ _ rfl hsrc (bv_one _) N HN.out (by unfold maxLen; omega) (by omega) hbase ?_; intro ao' cap' w1 hown1 hgrow1 hat1; have hbt1 := one_kept hown hbt hgrow1; have hc1 := cell_of_one hbt1; have hf1 := free_of_one hbt1)
  go_ret2
  exact ⟨rfl, wrote_one HZ.out hown1 hgrow1 hat1 hbt1⟩

theorem kept_get (N : Nat) (L : List Int) (hL : L.length = N) (j : Nat) (u : Value) (h : (bv (keptN 4096 L))[j]? = some u) : (bv L)[N - 4096 + j]? = some u := by
  simp only [bv, keptN, List.getElem?_map, List.getElem?_drop, hL] at h ⊢
  exact h

set_option maxHeartbeats 400000 in
set_option maxRecDepth 100000 in
theorem write_large (bt base n cap : Nat) (ao : Option Addr) (xs zs : List Int) (ap : Option Addr) (m c : Nat) (w : World) (hbase : base ≤ w.heap.size) (hx : xs.length = n)
    (hbt : w.heap[bt]? = some (.cells #[.slice ao n cap] 27 (0, 0))) (hown : w.ownsRow base 5 1 (.slice ao n cap) n (bv xs)) (hsrc : SrcAt w ap m c (bv zs)) (hnm : 4096 < n + m) (hbd : n + m ≤ 1000000000) :
    Calls Yba.prog 9 #[.pointer (some ⟨bt, 0, none⟩), .slice ap m c] w fun e w' => e = .returned (.tuple #[.int .i64 m, .nilIface]) ∧ Wrote w w' bt base (.slice ao n cap) (kept (xs ++ zs)) := by
  obtain ⟨i0, hi0, hz0, hz1, hz2⟩ := info_parts Yba.info5
  have hc0 := cell_of_one hbt
  have hf0 := free_of_one hbt
  have HZ : Hid (xs.length + zs.length = n + m) := by have := hsrc.1; rw [bv_length] at this; show _ = _; omega
  have HK : Hid ((kept (xs ++ zs)).length = 4096) := by show _ = _; rw [kept_length, List.length_append, HZ.out]; omega
  clear hx
  obtain ⟨N, hN⟩ : ∃ N, n + m = N := ⟨_, rfl⟩
  have HN : Hid (n + m = N) := hN
  have hN1 : 4096 < N := by omega
  have hN2 : N ≤ 1000000000 := by omega
  rw [hN] at HZ
  clear hN hnm hbd
  go_enter Yba.func9, Yba.ntmps9
  go_wp2_with (at_builtin; refine wpList_append_any _ rfl (.tmp 10) (.tmp 11) 22 rfl base 5 i0 (.int .u8 0) 1 Yba.underlying22 hi0 hz0 hz1 hz2 rfl _ _ _ rfl hown _ _ _ _ rfl hsrc (bv_one _) N HN.out (by unfold maxLen; omega) (by omega) hbase ?_; intro ao' cap' w1 hown1 hgrow1 hat1; have hbt1 := one_kept hown hbt hgrow1; have hc1 := cell_of_one hbt1; have hf1 := free_of_one hbt1)
  have hlt := lt_of_block hbt
  have hbt2 := one_setCell (u := .slice ao' N cap') hbt1
  have hown2 := ownsRow_setCell_other (a := ⟨bt, 0, none⟩) hown1 (own_ne hown1 hbt1) (.slice ao' N cap')
  have hup2 : Upto w (w1.setCell ⟨bt, 0, none⟩ (.slice ao' N cap')) bt (Value.slice ao n cap).ownBlock := by
    obtain ⟨_, _, _, _, _, _, _, h⟩ := wrote_one HZ.out hown1 hgrow1 hat1 hbt1
    exact h
  clear hown1 hgrow1 hbt1 hc1 hf1 hc0 hf0 hown hbt hsrc
  generalize w1.setCell ⟨bt, 0, none⟩ (.slice ao' N cap') = w2 at *
  obtain ⟨g, cap2, hv, hgb, hg2⟩ := hown2.form (by omega)
  obtain ⟨rfl, rfl⟩ : ao' = some ⟨g, 0, none⟩ ∧ cap' = cap2 := by simpa using hv
  clear hv
  have hcap : N ≤ cap' := by
    rcases hown2.2 with ⟨h, _⟩ | ⟨_, _, _, h, _, _, h2, _⟩
    · simp at h
    · simp at h; omega
  have hcapm : cap' ≤ maxLen := by
    rcases hown2.2 with ⟨h, _⟩ | ⟨_, _, _, h, _, _, _, h2, _⟩
    · simp at h
    · simp at h; omega
  unfold maxLen at hcapm
  have hownz : w2.drew.ownsRow base 5 1 (.slice (some ⟨g, 0, none⟩) 0 cap') 0 (bv []) := by
    rcases hown2.2 with ⟨h, _⟩ | ⟨g', c', cur, h, h1, h2, h3, h4, h5, h6⟩
    · simp at h
    · simp at h
      obtain ⟨rfl, rfl⟩ := h
      exact ⟨by simp [bv], .inr ⟨_, _, cur, rfl, h1, h2, Nat.zero_le _, h4, h5, by simp [bv]⟩⟩
  have hsrc2 : SrcAt w2.drew (some ⟨g, N - 4096, none⟩) 4096 (cap' - (N - 4096)) (bv (kept (xs ++ zs))) := by
    refine ⟨by rw [bv_length]; exact HK.out, .inr ⟨_, rfl, fun j u hu => ?_⟩⟩
    have hj : j < 4096 := by
      have := (List.getElem?_eq_some_iff.1 hu).1
      rw [bv_length, HK.out] at this; exact this
    have := kept_get N (xs ++ zs) (by rw [List.length_append]; exact HZ.out) j u hu
    rw [Addr.add_lit]
    show w2.cell? _ = _
    rw [hown2.cellAt (N - 4096 + j) (by omega), ← bv_append]
    exact this
  have hc2 := cell_of_one hbt2
  have hf2 := free_of_one hbt2
  clear hown2
  obtain ⟨k, hk⟩ : ∃ k, N - 4096 = k := ⟨_, rfl⟩
  rw [hk] at hsrc2
  have hwr : IntKind.i64.wrap ((N : Int) - 4096) = (k : Int) := by rw [IntKind.wrap_i64]; omega
  have hkN : k ≤ N := by omega
  have hNk : N - k = 4096 := by omega
  have hne : ¬ cap' = k := by omega
  have hup3 : Upto w w2.drew bt (Value.slice ao n cap).ownBlock := ⟨hup2.os, hup2.tape, hup2.output, hup2.size, hup2.block⟩
  have hsz := hup2.size
  have hs2 : base ≤ w2.heap.size := by omega
  clear hk
  go_region_law (refine step_append_any _ rfl (.tmp 26) (.tmp 37) 22 rfl base 5 i0 (.int .u8 0) 1 Yba.underlying22 hi0 hz0 hz1 hz2 rfl _ _ _ (by simp [Act.eval, Act.put]) hownz _ _ _ _ (by simp [Act.eval, Act.put]) hsrc2 (bv_one _) 4096 rfl (by unfold maxLen; omega) (by omega) hs2 ?_; intro ao3 cap3 w3 hown3 hgrow3 hat3; have hbt3 := one_kept hownz hbt2 hgrow3; have hc3 := cell_of_one hbt3; have hf3 := free_of_one hbt3)
  all_goals go_wp2
  all_goals go_ret2
  all_goals exact ⟨rfl, wrote_two HK.out hat1 hup3 hown3 hgrow3 hat3 hbt3⟩
theorem write_any (bt base n cap : Nat) (ao : Option Addr) (xs zs : List Int) (ap : Option Addr) (m c : Nat) (w : World) (hbase : base ≤ w.heap.size) (hx : xs.length = n)
    (hbt : w.heap[bt]? = some (.cells #[.slice ao n cap] 27 (0, 0))) (hown : w.ownsRow base 5 1 (.slice ao n cap) n (bv xs)) (hsrc : SrcAt w ap m c (bv zs)) (hbd : n + m ≤ 1000000000) :
    Calls Yba.prog 9 #[.pointer (some ⟨bt, 0, none⟩), .slice ap m c] w fun e w' => e = .returned (.tuple #[.int .i64 m, .nilIface]) ∧ Wrote w w' bt base (.slice ao n cap) (kept (xs ++ zs)) := by
  by_cases h : n + m ≤ 4096
  · exact write_small bt base n cap ao xs zs ap m c w hbase hx hbt hown hsrc h
  · exact write_large bt base n cap ao xs zs ap m c w hbase hx hbt hown hsrc (by omega) hbd

end Go.Proofs.Ybulkcxiq
