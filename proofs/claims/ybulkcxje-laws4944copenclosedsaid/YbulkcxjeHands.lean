import Derived.Test.YbulkcxjeDraw
namespace Go.Proofs.Ybulkcxje
open Go.RowKit Go.Conc Go.MuLone
set_option linter.unusedSimpArgs false

/-- What the mesh's call leaves, seen from the law. -/
theorem after_mesh {w w1 w2 w3 wc w5 : World} {bm gi cr cd bi f : Nat} {ro dob ro' : Obj} {v v3 : Value} {cs cs' : List (Int × Int)} (hro : ∃ a b c d e g, ro = .chan a b c d e g) (hdo : ∃ a b c d e g, dob = .chan a b c d e g)
    (hB1 : Below w.heap.size w w1) (hB2 : Below w1.heap.size w1 w2) (hB3 : Below w2.heap.size w2 w3) (hB4 : Below w3.heap.size w3 wc)
    (hin : InB w1 bi 0 0 v) (hown : Own w1 w.heap.size v cs) (hbb : w.heap.size ≤ bi) (hown3 : Own w3 w2.heap.size v3 cs') (hcrl : w3.heap.size ≤ cr) (hM : MeshSt wc bm gi cr cd bi f ro dob) (hD : MeshDone wc w5 bi w.heap.size cr 0 v cs' ro') :
    ∃ ao5 cp5, InB w5 bi 0 0 (.slice ao5 cs'.length cp5) ∧ Own w5 w.heap.size (.slice ao5 cs'.length cp5) cs' ∧ Own w5 w2.heap.size v3 cs' ∧ w5.heap[cr]? = some ro' ∧ w5.cell? ⟨bm, 20, none⟩ = some (.chan (some cr)) ∧ bm ≠ bi ∧ cr ≠ bi ∧ Below w.heap.size w w5 := by
  have hs1 := hB1.size
  have hs2 := hB2.size
  have hs3 := hB3.size
  have hs4 := hB4.size
  have hbi := hin.lt
  have hBc : Below w1.heap.size w1 wc := belowB (belowB hB2 rfl hB3) rfl hB4
  have hinc : InB wc bi 0 0 v := hin.keep (hBc.block _ hbi)
  have hownc : Own wc w.heap.size v cs := hown.keep fun k hk => hBc.block k (hown.lt k hk).2
  obtain ⟨v5, hin5, hown5, hcr5, ho, ht, hu, hsz, hk⟩ := hD
  obtain ⟨ao5, cp5, rfl⟩ := hown5.shape
  have hap := hM.apart hro hdo hinc hownc
  have hbm : bm ≠ cr := by
    intro e
    subst e
    obtain ⟨mc, h1, _⟩ := hM.mb
    have h2 := hM.hr
    obtain ⟨a, b, c, d, e, g, rfl⟩ := hro
    rw [h1] at h2
    simp at h2
  refine ⟨ao5, cp5, hin5, hown5, hown3.keep fun k hk3 => ?_, hcr5, ?_, (hap bm (.inl rfl)).2.1, (hap cr (.inr (.inr (.inl rfl)))).2.1, (hB1.trans (hBc.mono hs1)).trans ⟨ho, ht, hu, hsz, fun k hkw => hk k (by omega) (by omega) (by omega) (fun e => by have := (hown.lt k e.symm).1; omega)⟩⟩
  · obtain ⟨h1, h2⟩ := hown3.lt k hk3
    exact (hk k (by omega) (by omega) (by omega) (fun e => by have := (hown.lt k e.symm).2; omega)).trans (hB4.block k h2)
  · rw [World.cell?_of_block (w := wc) (hk bm (hap bm (.inl rfl)).1 (hap bm (.inl rfl)).2.1 hbm (hap bm (.inl rfl)).2.2)]
    exact hM.c20

set_option maxHeartbeats 1600000 in
set_option maxRecDepth 100000 in
theorem hands_small (oa : Option Addr) (n cap f : Nat) (fr inc seq : Int) (ops : List (Int × Int)) (w : World) (hr : Reads2 w oa ops) (hl : ops.length = n) (hn : n ≤ 1024) (hf : fr.tmod 3 = f) (hf3 : f < 3) :
    Calls Yba.prog 3 #[.slice oa n cap, .int .u8 fr, .int .u64 inc, .int .u64 seq] w fun e w' => e = .returned (.bool true) ∧ Below w.heap.size w w' := by
  have hni : (n : Int) ≤ 1024 := by omega
  have hff : (f : Int) < 3 := by omega
  refine calls_of_wpN Yba.func3 rfl ?_
  simp only [Yba.ntmps3, List.size_toArray, List.length_cons, List.length_nil, Nat.reduceAdd, Nat.reduceSub, Array.replicate_succ, Array.replicate_zero, List.push_toArray, List.append_toArray, List.nil_append, List.cons_append]
  refine wpN_seq_k fun K hK => ?_
  go_wp2_with fail
  refine wpN_seq_k fun K hK => ?_
  go_wp2_with fail
  refine wpN_seq_k fun K hK => ?_
  go_wp2_with (go_at_call 5; refine (build_any oa n cap ops w hr hl hn).mono ?_; rintro e w1 ⟨bi, rfl, hL, hB1⟩)
  refine wpN_seq_k fun K hK => ?_
  go_wp2_with fail
  refine wpN_seq_k fun K hK => ?_
  go_wp2_with fail
  obtain ⟨ao, N, cp, hin, hown, hlN, hN8, hbase, hbb⟩ := hL
  generalize hcs : runC [] ops = cs at *
  generalize hinc : inc.tmod 12 = k at *
  have hc2 := hin.c2
  refine wpN_seq_k fun K hK => ?_
  go_wp2_with (at_builtin; refine wpList_append_copy rfl (.tmp 30) rfl w.heap.size (.slice ao N cp) cs N hlN rfl hown hN8 ?_; intro ao2 cp2 w2 hown2 hB2)
  refine wpN_seq_k fun K hK => ?_
  go_wp2_with (go_at_call 6; refine (model_any ao2 N cp2 _ cs k seq w2 hown2.reads hlN hN8 rfl).mono ?_; rintro e w3 ⟨v3, rfl, hown3, hB3⟩)
  refine wpN_seq_k fun K hK => ?_
  clear hc2
  go_cut [15] from 39 to 45 (fun v wc => ∃ bm gi cr cd, v = .pointer (some ⟨bm, 0, none⟩) ∧ MeshSt wc bm gi cr cd bi f (.chan 1 #[] false 0 0 false) (.chan 0 #[] false 0 0 false) ∧ w3.heap.size ≤ cr ∧ Below w3.heap.size w3 wc)
  case first =>
    rename_i J K1 hJ hK1
    refine region_mesh hf3 rfl rfl rfl (fun c a d v w h => by cases d <;> exact h) (by kernel_rfl) rfl (by kernel_rfl) (by kernel_rfl) (by kernel_rfl) (by kernel_rfl) (by kernel_rfl) (by kernel_rfl) (by kernel_rfl) (by kernel_rfl) (by kernel_rfl) (by kernel_rfl) (by kernel_rfl) (by kernel_rfl) (by kernel_rfl) (by kernel_rfl) (by kernel_rfl) ⟨_, rfl, rfl, rfl, rfl⟩ ⟨_, rfl, rfl, rfl, rfl⟩ ⟨_, rfl, rfl, rfl, rfl⟩ ⟨_, rfl, rfl, rfl, rfl⟩ ⟨_, rfl, rfl, rfl, rfl⟩ ⟨_, rfl, rfl, rfl, rfl⟩ ⟨_, rfl, rfl, rfl, rfl⟩ ⟨_, rfl, rfl, rfl, rfl⟩ ?_
    rintro _ w' bm gi cr cd ⟨v39, v40, v41, v42, v43, v44, v45, rfl⟩ h1 h2 h3
    refine hK1 _ _ (Met.intro (hJ _ _ ?_))
    simp only [Act.put, List.setIfInBounds_toArray, List.set_cons_zero, List.set_cons_succ]
    exact ⟨_, _, _, _, _, _, _, _, ⟨bm, gi, cr, cd, rfl, h1, h2, h3⟩, rfl⟩
  case rest =>
    obtain ⟨bm, gi, cr, cd, rfl, hM, hcrl, hB4⟩ := hcut
    refine hK _ _ ?_
    clear hK K
    have hBc : Below w1.heap.size w1 wc := belowB (belowB hB2 rfl hB3) rfl hB4
    have hinc : InB wc bi 0 0 (.slice ao N cp) := hin.keep (hBc.block _ hin.lt)
    have hownc : Own wc w.heap.size (.slice ao N cp) cs := hown.keep fun k hk => hBc.block k (hown.lt k hk).2
    have hbasec : w.heap.size ≤ wc.heap.size := by have := hBc.size; omega
    have hlen8 := stepC_len cs k seq (by omega)
    have hcrw : w.heap.size ≤ cr := by have := hB2.size; have := hB3.size; omega
    refine wpN_seq_k fun K hK => ?_
    go_wp2_with (go_at_call 8; refine (mesh_hands bm gi cr cd bi f w.heap.size N cp 0 k seq ao cs wc hf3 hM hinc hownc hlN hN8 hbasec).mono ?_; rintro e w5 ⟨rfl, hD⟩)
    obtain ⟨ao5, cp5, hin5, hown5, hown35, hcr5, hbm5, hne1, hne2, hB5⟩ := after_mesh ⟨_, _, _, _, _, _, rfl⟩ ⟨_, _, _, _, _, _, rfl⟩ hB1 hB2 hB3 hB4 hin hown hbb hown3 hcrl hM hD
    clear hD hM hinc hownc
    generalize hst : stepC cs k seq = st at *
    obtain ⟨cs', gap⟩ := st
    dsimp only at *
    obtain ⟨ao3, cp3, rfl⟩ := hown3.shape
    have hc2 := hin5.c2
    refine wpN_seq_k fun K hK => ?_
    go_wp2_with (go_at_call 9; refine (eq_any ao5 ao3 cs'.length cp5 cp3 cs' w5 hown5.reads hown35.reads rfl hlen8).mono ?_; rintro e w6 ⟨rfl, hB6, hh6⟩)
    have hin6 : InB w6 bi 0 0 (.slice ao5 cs'.length cp5) := hin5.keep (by rw [hh6])
    have hcr6 : w6.heap[cr]? = some (handed gap f) := by rw [hh6]; exact hcr5
    have hbm6 : w6.cell? ⟨bm, 20, none⟩ = some (.chan (some cr)) := by rw [World.cell?_of_block (w := w5) (by rw [hh6])]; exact hbm5
    have hB6' : Below w.heap.size w w6 := hB5.trans (hB6.mono hB5.size)
    clear hh6 hB6 hB5 hbm5 hcr5 hin5 hown5 hown35 hc2 hown3 hown hin hB1 hB2 hB3 hB4 hBc
    have h0 := hin6.c0
    have h1 := hin6.fz 0
    refine wpN_seq_k fun K hK => ?_
    go_wp2_with (go_at_call 10; refine (tryLockF bi w6 h0 h1).mono ?_; rintro e w7 ⟨rfl, rfl⟩)
    obtain ⟨w7, hw7⟩ : ∃ w7, w7 = w6.setCell ⟨bi, 0, none⟩ (.int .i32 1) := ⟨_, rfl⟩
    rw [← hw7]
    have hin7 : InB w7 bi 1 0 (.slice ao5 cs'.length cp5) := by rw [hw7]; exact hin6.put0 1
    have hcr7 : w7.heap[cr]? = some (handed gap f) := by rw [hw7, Below.heap_setCell _ _ _ _ hne2]; exact hcr6
    have hbm7 : w7.cell? ⟨bm, 20, none⟩ = some (.chan (some cr)) := by rw [hw7, World.cell?_of_block (w := w6) (Below.heap_setCell _ _ _ _ hne1)]; exact hbm6
    have hB7 : Below w.heap.size w w7 := by rw [hw7]; exact hB6'.setCell hbb _
    clear hw7 hin6 hcr6 hbm6 hB6' h0 h1
    have h0 := hin7.c0
    have h1 := hin7.fz 0
    refine wpN_seq_k fun K hK => ?_
    go_wp2_with (go_at_call 11; refine (unlockF bi w7 h0 h1).mono ?_; rintro e w8 ⟨rfl, rfl⟩)
    obtain ⟨w8, hw8⟩ : ∃ w8, w8 = w7.setCell ⟨bi, 0, none⟩ (.int .i32 0) := ⟨_, rfl⟩
    rw [← hw8]
    have hcr8 : w8.heap[cr]? = some (handed gap f) := by rw [hw8, Below.heap_setCell _ _ _ _ hne2]; exact hcr7
    have hbm8 : w8.cell? ⟨bm, 20, none⟩ = some (.chan (some cr)) := by rw [hw8, World.cell?_of_block (w := w7) (Below.heap_setCell _ _ _ _ hne1)]; exact hbm7
    have hB8 : Below w.heap.size w w8 := by rw [hw8]; exact hB7.setCell hbb _
    clear hw8 hin7 hcr7 hbm7 hB7 h0 h1
    cases gap with
    | false =>
      have hlen := fun ty => run_len_chan (P := Yba.prog) 41 ty Yba.underlying41 (w := w8) (c := cr) (cap := 1) (buf := #[]) (closed := false) (s := 0) (r := 0) hcr8
      refine wpN_seq_k fun K hK => ?_
      go_wp2_with fail
      refine wpN_seq_k fun K hK => ?_
      go_wp2_with fail
      refine wpN_of_wp ?_
      go_wp2
      go_ret
      exact ⟨rfl, hB8⟩
    | true =>
      have hlen := fun ty => run_len_chan (P := Yba.prog) 41 ty Yba.underlying41 (w := w8) (c := cr) (cap := 1) (buf := #[gapFrame f]) (closed := false) (s := 1) (r := 0) hcr8
      refine wpN_seqN ?_
      refine wpN_seq_k fun K hK => ?_
      go_wp2_with fail
      refine wpN_cond (t := true) rfl ?_
      simp only [if_true]
      refine wpN_seq_k fun K hK => ?_
      go_wp2_with fail
      refine wpN_seqN (wpN_region ?_)
      refine sem_value (i := 0) (rest := [1, 2, 3, 4, 5, 6]) (v := .pointer (some ⟨bm, 0, none⟩)) (w2 := w8) rfl rfl (by simp [go_sem, execOp, Act.eval]) ?_
      refine sem_value (i := 1) (v := .pointer (some ⟨bm, 0, none⟩)) (w2 := w8) rfl rfl (by simp [go_sem, execOp, Act.eval, Act.put]) ?_
      refine sem_value (i := 2) (v := .pointer (some ⟨bm, 20, none⟩)) (w2 := w8) rfl rfl (by simp [go_sem, execOp, Act.eval, Act.put]) ?_
      refine sem_value (i := 3) (v := .chan (some cr)) (w2 := w8) rfl rfl (by simp [go_sem, execOp, Act.eval, Act.put, hbm8]) ?_
      refine sem_recv (i := 4) (c := cr) (cap := 1) (s := 1) (r := 0) (buf := #[gapFrame f]) (closed := false) (tm := false) (z := .agg #[.int .i64 0, .slice none 0 0, .bool false]) rfl rfl (by simp [go_sem, execOp, rcase, Act.eval, Act.put]) hcr8 (by simp) ?_
      obtain ⟨w9, hw9⟩ : ∃ w9, w9 = w8.setChan cr 1 (#[gapFrame f].extract 1 #[gapFrame f].size) false 1 (0 + 1) false := ⟨_, rfl⟩
      rw [← hw9]
      have hB9 : Below w.heap.size w w9 := by
        have hlt : w.heap.size ≤ cr := hcrw
        rw [hw9]
        refine hB8.trans ⟨rfl, rfl, rfl, by rw [size_setChan]; exact Nat.le_refl _, fun k hk => ?_⟩
        simp only [World.setChan]
        exact Array.getElem?_setIfInBounds_ne (fun e => by omega)
      clear hw9
      refine sem_value (i := 5) (v := .pointer (some ⟨w9.heap.size, 0, none⟩)) (w2 := w9.alloc (.cells #[.int .i64 0, .slice none 0 0, .bool false] 76)) rfl rfl (by simp [go_sem, execOp, Act.eval, Act.put]) ?_
      refine sem_skip (i := 6) (w2 := w9.alloc (.cells #[.int .i64 f, .slice none 0 0, .bool true] 76)) rfl rfl (by simp [go_sem, execOp, Act.eval, Act.put, gapFrame]) ?_
      refine sem_end ?_
      refine wpN_of_wp ?_
      have hBe := (hB9.alloc hB9.size (.cells #[.int .i64 f, .slice none 0 0, .bool true] 76))
      have heq : ∀ w : World, (binOp .eql 47 (.slice none 0 0) (.slice none 0 0)).run Yba.prog w = .ok (.bool true) w := fun _ => rfl
      go_wp2
      go_ret
      exact ⟨rfl, hBe⟩

set_option maxRecDepth 100000 in
theorem hands_big (oa : Option Addr) (n cap : Nat) (fr inc seq : Int) (w : World) (hn : 1024 < n) :
    Calls Yba.prog 3 #[.slice oa n cap, .int .u8 fr, .int .u64 inc, .int .u64 seq] w fun e w' => e = .returned (.bool true) ∧ Below w.heap.size w w' := by
  have hni : (1024 : Int) < n := by omega
  refine calls_of_wpN Yba.func3 rfl ?_
  simp only [Yba.ntmps3, List.size_toArray, List.length_cons, List.length_nil, Nat.reduceAdd, Nat.reduceSub, Array.replicate_succ, Array.replicate_zero, List.push_toArray, List.append_toArray, List.nil_append, List.cons_append]
  refine wpN_seq_k fun K hK => ?_
  go_wp2_with fail
  refine wpN_seq_k fun K hK => ?_
  go_wp2_with fail
  go_ret
  exact ⟨rfl, Below.refl _ _⟩

theorem law_hands (oa : Option Addr) (n cap : Nat) (fr inc seq : Int) (ops : List (Int × Int)) (w : World) (hr : Reads2 w oa ops) (hl : ops.length = n) (hfr : 0 ≤ fr) :
    Calls Yba.prog 3 #[.slice oa n cap, .int .u8 fr, .int .u64 inc, .int .u64 seq] w fun e w' => e = .returned (.bool true) ∧ Below w.heap.size w w' := by
  by_cases hn : n ≤ 1024
  · have h1 := Int.tmod_nonneg 3 hfr
    have h2 : fr.tmod 3 < 3 := Int.tmod_lt_of_pos fr (by decide)
    exact hands_small oa n cap (fr.tmod 3).toNat fr inc seq ops w hr hl hn (by omega) (by omega)
  · exact hands_big oa n cap fr inc seq w (by omega)
end Go.Proofs.Ybulkcxje
