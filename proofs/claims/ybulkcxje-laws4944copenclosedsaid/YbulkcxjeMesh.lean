import Derived.Test.YbulkcxjeComm
import Derived.Test.YbulkcxjeLocks
namespace Go.Proofs.Ybulkcxje
open Go.RowKit Go.Conc Go.MuLone
set_option linter.unusedSimpArgs false

/-- The mesh: its links, its two channels. -/
structure MeshSt (w : World) (bm gi cr cd bi f : Nat) (ro dob : Obj) : Prop where
  mb : ∃ mc, w.heap[bm]? = some (.cells mc 71 (0, 0)) ∧ mc[28]? = some (.slice (some ⟨gi, 0, none⟩) 3 3) ∧ mc[20]? = some (.chan (some cr)) ∧ mc[21]? = some (.chan (some cd))
  gb : ∃ gc, w.heap[gi]? = some (.cells gc 24 (0, 0)) ∧ gc[f]? = some (.pointer (some ⟨bi, 0, none⟩))
  hr : w.heap[cr]? = some ro
  hd : w.heap[cd]? = some dob

theorem MeshSt.keep {w w' : World} {bm gi cr cd bi f : Nat} {ro dob : Obj} (h : MeshSt w bm gi cr cd bi f ro dob) (hk : ∀ k, k = bm ∨ k = gi ∨ k = cr ∨ k = cd → w'.heap[k]? = w.heap[k]?) : MeshSt w' bm gi cr cd bi f ro dob := by
  obtain ⟨⟨mc, h1, h2⟩, ⟨gc, h3, h4⟩, h5, h6⟩ := h
  exact ⟨⟨mc, (hk _ (.inl rfl)).trans h1, h2⟩, ⟨gc, (hk _ (.inr (.inl rfl))).trans h3, h4⟩, (hk _ (.inr (.inr (.inl rfl)))).trans h5, (hk _ (.inr (.inr (.inr rfl)))).trans h6⟩
theorem MeshSt.c28 {w : World} {bm gi cr cd bi f : Nat} {ro dob : Obj} (h : MeshSt w bm gi cr cd bi f ro dob) : w.cell? ⟨bm, 28, none⟩ = some (.slice (some ⟨gi, 0, none⟩) 3 3) := by
  obtain ⟨mc, h1, h2, _⟩ := h.mb; rw [cell_of_row _ _ _ _ 71 (0, 0) h1]; exact h2
theorem MeshSt.c20 {w : World} {bm gi cr cd bi f : Nat} {ro dob : Obj} (h : MeshSt w bm gi cr cd bi f ro dob) : w.cell? ⟨bm, 20, none⟩ = some (.chan (some cr)) := by
  obtain ⟨mc, h1, _, h2, _⟩ := h.mb; rw [cell_of_row _ _ _ _ 71 (0, 0) h1]; exact h2
theorem MeshSt.c21 {w : World} {bm gi cr cd bi f : Nat} {ro dob : Obj} (h : MeshSt w bm gi cr cd bi f ro dob) : w.cell? ⟨bm, 21, none⟩ = some (.chan (some cd)) := by
  obtain ⟨mc, h1, _, _, h2⟩ := h.mb; rw [cell_of_row _ _ _ _ 71 (0, 0) h1]; exact h2
theorem MeshSt.cf {w : World} {bm gi cr cd bi f : Nat} {ro dob : Obj} (h : MeshSt w bm gi cr cd bi f ro dob) : w.cell? ⟨gi, f, none⟩ = some (.pointer (some ⟨bi, 0, none⟩)) := by
  obtain ⟨gc, h1, h2⟩ := h.gb; rw [cell_of_row _ _ _ _ 24 (0, 0) h1]; exact h2

/-- None of the mesh's blocks is the link's, nor the counts' row. -/
theorem MeshSt.apart {w : World} {bm gi cr cd bi f base : Nat} {ro dob : Obj} {m0 m1 : Int} {v : Value} {cs : List (Int × Int)} (h : MeshSt w bm gi cr cd bi f ro dob) (hro : ∃ a b c d e g, ro = .chan a b c d e g) (hdo : ∃ a b c d e g, dob = .chan a b c d e g)
    (hin : InB w bi m0 m1 v) (hown : Own w base v cs) : ∀ k, k = bm ∨ k = gi ∨ k = cr ∨ k = cd → k < w.heap.size ∧ k ≠ bi ∧ some k ≠ v.ownBlock := by
  obtain ⟨⟨mc, h1, _⟩, ⟨gc, h3, _⟩, h5, h6⟩ := h
  obtain ⟨a, b, c, d, e, g, rfl⟩ := hro
  obtain ⟨a', b', c', d', e', g', rfl⟩ := hdo
  have key : ∀ k o, w.heap[k]? = some o → (∀ cur t, o = .cells cur t (0, 0) → t ≠ 35 ∧ t ≠ 82) → k < w.heap.size ∧ k ≠ bi ∧ some k ≠ v.ownBlock := by
    intro k o hk ht
    refine ⟨lt_of_block hk, fun e => ?_, fun e => ?_⟩
    · subst e
      unfold InB at hin
      rw [hin] at hk
      exact (ht _ 35 (Option.some.inj hk).symm).1 rfl
    · rcases hown with ⟨rfl, _⟩ | ⟨g, off, cap, cur, rfl, _, hg, _⟩
      · simp [Value.ownBlock] at e
      · simp only [Value.ownBlock] at e
        have e := Option.some.inj e
        subst e
        rw [hg] at hk
        exact (ht _ 82 (Option.some.inj hk).symm).2 rfl
  intro k hk
  rcases hk with rfl | rfl | rfl | rfl
  · exact key _ _ h1 (fun cur t e => by injection e with _ e2 _; subst e2; decide)
  · exact key _ _ h3 (fun cur t e => by injection e with _ e2 _; subst e2; decide)
  · exact key _ _ h5 (fun cur t e => by simp at e)
  · exact key _ _ h6 (fun cur t e => by simp at e)

/-- What Mesh.open leaves. -/
def MeshDone (w w' : World) (bi base cr : Nat) (m1 : Int) (v : Value) (cs' : List (Int × Int)) (ro' : Obj) : Prop :=
  ∃ v', InB w' bi 0 m1 v' ∧ Own w' base v' cs' ∧ w'.heap[cr]? = some ro' ∧ w'.os = w.os ∧ w'.tape = w.tape ∧ w'.output = w.output ∧ w.heap.size ≤ w'.heap.size ∧ ∀ k, k < w.heap.size → k ≠ bi → k ≠ cr → some k ≠ v.ownBlock → w'.heap[k]? = w.heap[k]?

/-- Behind the lock and inLink.open. -/
theorem mesh_mid {w w2 : World} {bm gi cr cd bi f base : Nat} {ro dob : Obj} {m1 : Int} {v : Value} {cs cs' : List (Int × Int)} (hM : MeshSt w bm gi cr cd bi f ro dob) (hro : ∃ a b c d e g, ro = .chan a b c d e g) (hdo : ∃ a b c d e g, dob = .chan a b c d e g)
    (hin : InB w bi 0 m1 v) (hown : Own w base v cs) (hO : Opened (w.setCell ⟨bi, 0, none⟩ (.int .i32 1)) w2 bi base 1 m1 v cs') :
    MeshSt w2 bm gi cr cd bi f ro dob ∧ ∃ v', InB w2 bi 1 m1 v' ∧ Own w2 base v' cs' ∧ w2.os = w.os ∧ w2.tape = w.tape ∧ w2.output = w.output ∧ w.heap.size ≤ w2.heap.size ∧ ∀ k, k < w.heap.size → k ≠ bi → some k ≠ v.ownBlock → w2.heap[k]? = w.heap[k]? := by
  obtain ⟨v', hin2, hown2, hup, hat⟩ := hO
  have hs : (w.setCell ⟨bi, 0, none⟩ (.int .i32 1)).heap.size = w.heap.size := by simp [World.setCell]
  have hk : ∀ k, k < w.heap.size → k ≠ bi → some k ≠ v.ownBlock → w2.heap[k]? = w.heap[k]? := fun k h1 h2 h3 => (hup.block k (by omega) h2 h3).trans (Below.heap_setCell _ _ _ _ h2)
  refine ⟨hM.keep fun k h => ?_, v', hin2, hown2, hup.os, hup.tape, hup.output, by rw [← hs]; exact hup.size, hk⟩
  obtain ⟨h1, h2, h3⟩ := hM.apart hro hdo hin hown k h
  exact hk k h1 h2 h3

/-- The lock let go, nothing said. -/
theorem mesh_quiet {w w2 : World} {bm gi cr cd bi f base : Nat} {ro dob : Obj} {m1 : Int} {v : Value} {cs' : List (Int × Int)} (hM2 : MeshSt w2 bm gi cr cd bi f ro dob)
    (h : ∃ v', InB w2 bi 1 m1 v' ∧ Own w2 base v' cs' ∧ w2.os = w.os ∧ w2.tape = w.tape ∧ w2.output = w.output ∧ w.heap.size ≤ w2.heap.size ∧ ∀ k, k < w.heap.size → k ≠ bi → some k ≠ v.ownBlock → w2.heap[k]? = w.heap[k]?) (hcr : cr ≠ bi) :
    MeshDone w (w2.setCell ⟨bi, 0, none⟩ (.int .i32 0)) bi base cr m1 v cs' ro := by
  obtain ⟨v', hin2, hown2, h1, h2, h3, h4, h5⟩ := h
  refine ⟨v', hin2.put0 0, hown2.keep fun k hk => Below.heap_setCell _ _ _ _ (fun e => ?_), (Below.heap_setCell _ _ _ _ hcr).trans hM2.hr, h1, h2, h3, by simpa [World.setCell] using h4, fun k a b _ d => (Below.heap_setCell _ _ _ _ b).trans (h5 k a b d)⟩
  have e' : k = bi := e
  subst e'
  exact hown2.ne hin2 hk

/-- What Recv holds behind the call. -/
def gapFrame (f : Nat) : Value := .agg #[.int .i64 f, .slice none 0 0, .bool true]
def handed (gap : Bool) (f : Nat) : Obj := if gap then .chan 1 #[gapFrame f] false 1 0 false else .chan 1 #[] false 0 0 false

/-- The lock let go, one frame said. -/
theorem mesh_said {w w2 : World} {cr bi base : Nat} {m1 : Int} {v : Value} {cs' : List (Int × Int)} {ro ro' : Obj} (w3 : World) (hk : ∀ k, k ≠ cr → w3.heap[k]? = w2.heap[k]?) (hr : w3.heap[cr]? = some ro') (hro : w2.heap[cr]? = some ro) (hch : ∃ a b c d e g, ro = .chan a b c d e g)
    (hos : w3.os = w2.os) (htp : w3.tape = w2.tape) (hou : w3.output = w2.output) (hsz : w3.heap.size = w2.heap.size)
    (h : ∃ v', InB w2 bi 1 m1 v' ∧ Own w2 base v' cs' ∧ w2.os = w.os ∧ w2.tape = w.tape ∧ w2.output = w.output ∧ w.heap.size ≤ w2.heap.size ∧ ∀ k, k < w.heap.size → k ≠ bi → some k ≠ v.ownBlock → w2.heap[k]? = w.heap[k]?) (hcr : cr ≠ bi) :
    InB w3 bi 1 m1 (h.choose) ∧ MeshDone w (w3.setCell ⟨bi, 0, none⟩ (.int .i32 0)) bi base cr m1 v cs' ro' := by
  obtain ⟨hin2, hown2, h1, h2, h3, h4, h5⟩ := h.choose_spec
  generalize h.choose = v' at *
  have hin3 : InB w3 bi 1 m1 v' := hin2.keep (hk bi (fun e => hcr e.symm))
  have hown3 : Own w3 base v' cs' := hown2.keep fun k e => hk k (fun e2 => by
    subst e2
    obtain ⟨a, b, c, d, e', g, rfl⟩ := hch
    rcases hown2 with ⟨rfl, _⟩ | ⟨g, off, cap, cur, rfl, _, hg, _⟩
    · simp [Value.ownBlock] at e
    · simp only [Value.ownBlock] at e
      have e := Option.some.inj e
      subst e
      rw [hg] at hro
      simp at hro)
  refine ⟨hin3, v', hin3.put0 0, hown3.keep fun k hkk => Below.heap_setCell _ _ _ _ (fun e => ?_), (Below.heap_setCell _ _ _ _ hcr).trans hr, hos.trans h1, htp.trans h2, hou.trans h3, ?_, fun k a b c d => (Below.heap_setCell _ _ _ _ b).trans ((hk k c).trans (h5 k a b d))⟩
  · have e' : k = bi := e
    subst e'
    exact hown3.ne hin3 hkk
  · have : (w3.setCell ⟨bi, 0, none⟩ (.int .i32 0)).heap.size = w3.heap.size := by simp [World.setCell]
    omega

set_option maxHeartbeats 800000 in
set_option maxRecDepth 100000 in
theorem mesh_hands (bm gi cr cd bi f base n cap : Nat) (m1 inc seq : Int) (ao : Option Addr) (cs : List (Int × Int)) (w : World) (hf : f < 3)
    (hM : MeshSt w bm gi cr cd bi f (.chan 1 #[] false 0 0 false) (.chan 0 #[] false 0 0 false)) (hin : InB w bi 0 m1 (.slice ao n cap)) (hown : Own w base (.slice ao n cap) cs) (hl : cs.length = n) (hn : n ≤ 8) (hbase : base ≤ w.heap.size) :
    Calls Yba.prog 8 #[.pointer (some ⟨bm, 0, none⟩), .int .i64 f, .int .u64 inc, .int .u64 seq] w fun e w' => e = .returned (.bool true) ∧
      MeshDone w w' bi base cr m1 (.slice ao n cap) (stepC cs inc seq).1 (handed (stepC cs inc seq).2 f) := by
  have h28 := hM.c28
  have hcf := hM.cf
  have hi0 := hin.c0
  have hz0 := hin.fz 0
  have hff : (f : Int) < 3 := by omega
  have hcr : cr ≠ bi := (hM.apart ⟨_, _, _, _, _, _, rfl⟩ ⟨_, _, _, _, _, _, rfl⟩ hin hown cr (.inr (.inr (.inl rfl)))).2.1
  refine calls_of_wpN_defers Yba.func8 rfl ?_
  simp only [Yba.ntmps8, List.size_toArray, List.length_cons, List.length_nil, Nat.reduceAdd, Nat.reduceSub, Array.replicate_succ, Array.replicate_zero, List.push_toArray, List.append_toArray, List.nil_append, List.cons_append]
  refine wpN_seq_k fun K hK => ?_
  go_wp2_with fail
  refine wpN_seq_k fun K hK => ?_
  go_wp2_with fail
  refine wpN_seq_k fun K hK => ?_
  go_wp2_with (go_at_call 13; refine (lockF bi _ hi0 hz0).mono ?_; rintro e w' ⟨rfl, rfl⟩)
  refine wpN_seq_k fun K hK => ?_
  go_wp2_with fail
  refine wpN_seq_k fun K hK => ?_
  go_wp2_with fail
  refine (open_any bi base n cap 1 m1 inc seq ao cs _ (hin.put0 1) (hown.keep fun k hk => Below.heap_setCell _ _ _ _ (fun e => hown.ne hin (by rw [hk]; exact congrArg some e))) hl hn (by simpa [World.setCell] using hbase)).mono ?_
  rintro e w2 ⟨rfl, hO⟩
  obtain ⟨hM2, hD⟩ := mesh_mid hM ⟨_, _, _, _, _, _, rfl⟩ ⟨_, _, _, _, _, _, rfl⟩ hin hown hO
  have HD := hD
  obtain ⟨v', hin2, _⟩ := hD
  have hl0 := hin2.c0
  have hl1 := hin2.fz 0
  have h20 := hM2.c20
  have h21 := hM2.c21
  have hr2 := hM2.hr
  have hd2 := hM2.hd
  clear hO h28 hcf hi0 hz0
  cases hgap : (stepC cs inc seq).2 with
  | false =>
    go_wp2_with fail
    refine leaves_cons (f := 11) (args := #[.pointer (some ⟨bi, 0, none⟩)]) (by simp) (by simp [go_sem]) ?_
    refine (unlock_deferred muLib ⟨bi, 0, none⟩ .returning _ hl0 hl1).mono ?_
    rintro e u' w'' ⟨rfl, rfl, rfl⟩
    exact ⟨_, results_tmp rfl _ _ _, rfl, by rw [hgap]; exact mesh_quiet hM2 HD hcr⟩
  | true =>
    go_wp2_with fail
    refine wpN_seq_k fun K hK => ?_
    go_wp2_with fail
    refine wpN_seqN (wpN_region ?_)
    refine sem_sel_send (i := 0) (rest := [1, 2, 3]) (c := cr) (d := cd) (v := gapFrame f) (z := .agg #[.int .i64 0, .slice none 0 0, .bool false]) (z' := .agg #[]) rfl rfl (by simp [go_sem, execOp, rcase, scase, Act.eval, gapFrame]) hr2 (by decide) hd2 ?_
    refine sem_value (v := goInt 0) (w2 := w2.setChan cr 1 #[gapFrame f] false 1 0 false) rfl rfl (by simp [go_sem, execOp, Act.eval, Act.put]) ?_
    refine sem_value (v := .bool true) (w2 := w2.setChan cr 1 #[gapFrame f] false 1 0 false) rfl rfl (by simp [go_sem, execOp, Act.eval, Act.put, goInt]) ?_
    refine sem_value (v := .bool false) (w2 := w2.setChan cr 1 #[gapFrame f] false 1 0 false) rfl rfl (by simp [go_sem, execOp, Act.eval, Act.put, goInt]) ?_
    refine sem_end ?_
    have hlt : cr < w2.heap.size := lt_of_block hr2
    obtain ⟨hin3, hDone⟩ := mesh_said (w2.setChan cr 1 #[gapFrame f] false 1 0 false) (fun k hk => by simp only [World.setChan]; exact Array.getElem?_setIfInBounds_ne (fun e => hk e.symm)) (heap_setChan w2 cr 1 #[gapFrame f] false 1 0 false hlt) hr2 ⟨_, _, _, _, _, _, rfl⟩ rfl rfl rfl (size_setChan _ _ _ _ _ _ _ _) HD hcr
    have hl0 := hin3.c0
    have hl1 := hin3.fz 0
    generalize w2.setChan cr 1 #[gapFrame f] false 1 0 false = w3 at *
    refine wpN_of_wp ?_
    go_wp2_with fail
    refine leaves_cons (f := 11) (args := #[.pointer (some ⟨bi, 0, none⟩)]) (by simp) (by simp [go_sem]) ?_
    refine (unlock_deferred muLib ⟨bi, 0, none⟩ .returning _ hl0 hl1).mono ?_
    rintro e u' w'' ⟨rfl, rfl, rfl⟩
    exact ⟨_, results_tmp rfl _ _ _, rfl, by rw [hgap]; exact hDone⟩

set_option maxHeartbeats 800000 in
set_option maxRecDepth 100000 in
theorem mesh_closed (bm gi cr cd bi f base n cap : Nat) (m1 inc seq : Int) (ao : Option Addr) (cs : List (Int × Int)) (x : Value) (w : World) (hf : f < 3)
    (hM : MeshSt w bm gi cr cd bi f (.chan 1 #[x] false 1 0 false) (.chan 0 #[] true 0 0 false)) (hin : InB w bi 0 m1 (.slice ao n cap)) (hown : Own w base (.slice ao n cap) cs) (hl : cs.length = n) (hn : n ≤ 8) (hbase : base ≤ w.heap.size) :
    Calls Yba.prog 8 #[.pointer (some ⟨bm, 0, none⟩), .int .i64 f, .int .u64 inc, .int .u64 seq] w fun e w' => e = .returned (.bool (!(stepC cs inc seq).2)) ∧
      MeshDone w w' bi base cr m1 (.slice ao n cap) (stepC cs inc seq).1 (.chan 1 #[x] false 1 0 false) := by
  have h28 := hM.c28
  have hcf := hM.cf
  have hi0 := hin.c0
  have hz0 := hin.fz 0
  have hff : (f : Int) < 3 := by omega
  have hcr : cr ≠ bi := (hM.apart ⟨_, _, _, _, _, _, rfl⟩ ⟨_, _, _, _, _, _, rfl⟩ hin hown cr (.inr (.inr (.inl rfl)))).2.1
  refine calls_of_wpN_defers Yba.func8 rfl ?_
  simp only [Yba.ntmps8, List.size_toArray, List.length_cons, List.length_nil, Nat.reduceAdd, Nat.reduceSub, Array.replicate_succ, Array.replicate_zero, List.push_toArray, List.append_toArray, List.nil_append, List.cons_append]
  refine wpN_seq_k fun K hK => ?_
  go_wp2_with fail
  refine wpN_seq_k fun K hK => ?_
  go_wp2_with fail
  refine wpN_seq_k fun K hK => ?_
  go_wp2_with (go_at_call 13; refine (lockF bi _ hi0 hz0).mono ?_; rintro e w' ⟨rfl, rfl⟩)
  refine wpN_seq_k fun K hK => ?_
  go_wp2_with fail
  refine wpN_seq_k fun K hK => ?_
  go_wp2_with fail
  refine (open_any bi base n cap 1 m1 inc seq ao cs _ (hin.put0 1) (hown.keep fun k hk => Below.heap_setCell _ _ _ _ (fun e => hown.ne hin (by rw [hk]; exact congrArg some e))) hl hn (by simpa [World.setCell] using hbase)).mono ?_
  rintro e w2 ⟨rfl, hO⟩
  obtain ⟨hM2, hD⟩ := mesh_mid hM ⟨_, _, _, _, _, _, rfl⟩ ⟨_, _, _, _, _, _, rfl⟩ hin hown hO
  have HD := hD
  obtain ⟨v', hin2, _⟩ := hD
  have hl0 := hin2.c0
  have hl1 := hin2.fz 0
  have h20 := hM2.c20
  have h21 := hM2.c21
  have hr2 := hM2.hr
  have hd2 := hM2.hd
  clear hO h28 hcf hi0 hz0
  cases hgap : (stepC cs inc seq).2 with
  | false =>
    go_wp2_with fail
    refine leaves_cons (f := 11) (args := #[.pointer (some ⟨bi, 0, none⟩)]) (by simp) (by simp [go_sem]) ?_
    refine (unlock_deferred muLib ⟨bi, 0, none⟩ .returning _ hl0 hl1).mono ?_
    rintro e u' w'' ⟨rfl, rfl, rfl⟩
    exact ⟨_, results_tmp rfl _ _ _, by rw [hgap]; rfl, mesh_quiet hM2 HD hcr⟩
  | true =>
    go_wp2_with fail
    refine wpN_seq_k fun K hK => ?_
    go_wp2_with fail
    refine wpN_seqN (wpN_region ?_)
    refine sem_sel_shut (i := 0) (rest := [1, 2, 3]) (c := cr) (d := cd) (v := gapFrame f) (z := .agg #[.int .i64 0, .slice none 0 0, .bool false]) (z' := .agg #[]) rfl rfl (by simp [go_sem, execOp, rcase, scase, Act.eval, gapFrame]) hr2 (by simp) hd2 ?_
    refine sem_value (v := goInt 1) (w2 := w2) rfl rfl (by simp [go_sem, execOp, Act.eval, Act.put]) ?_
    refine sem_value (v := .bool false) (w2 := w2) rfl rfl (by simp [go_sem, execOp, Act.eval, Act.put, goInt]) ?_
    refine sem_value (v := .bool true) (w2 := w2) rfl rfl (by simp [go_sem, execOp, Act.eval, Act.put, goInt]) ?_
    refine sem_end ?_
    refine wpN_of_wp ?_
    go_wp2_with fail
    refine leaves_cons (f := 11) (args := #[.pointer (some ⟨bi, 0, none⟩)]) (by simp) (by simp [go_sem]) ?_
    refine (unlock_deferred muLib ⟨bi, 0, none⟩ .returning _ hl0 hl1).mono ?_
    rintro e u' w'' ⟨rfl, rfl, rfl⟩
    exact ⟨_, results_tmp rfl _ _ _, by rw [hgap]; rfl, mesh_quiet hM2 HD hcr⟩
end Go.Proofs.Ybulkcxje
