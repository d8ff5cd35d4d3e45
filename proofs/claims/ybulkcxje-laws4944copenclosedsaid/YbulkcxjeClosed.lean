import Derived.Test.YbulkcxjeHands
namespace Go.Proofs.Ybulkcxje
open Go.RowKit Go.Conc Go.MuLone
set_option linter.unusedSimpArgs false

section
variable {P : Program} {ops : Array Oper} {Q : Exit → Act → World → Prop} {a : Act} {w : World} {i : Nat} {rest : List Nat}
theorem ops_value {v : Value} {w2 : World} {op : Op} {d : Nat} (ho : At ops i op d) (hr : ∀ o : Oper, o.op = op → (execOp a.eval o).run P w = .ok (.value v) w2) (h : wpOps P ops Q rest (a.put (some d) v) w2) : wpOps P ops Q (i :: rest) a w := by
  obtain ⟨o, ho, hop, hd, hg⟩ := ho
  simp only [wpOps, ho]
  rw [if_pos (by simp [Region.wanted, hg])]
  refine .inl ?_
  unfold Oper.wp
  rw [hr o hop, Oper.upon_value, hd]
  exact h
theorem ops_call {f : FuncId} {args : Array Value} {S : Value → World → Prop} {op : Op} {d : Nat} (ho : At ops i op d) (hr : ∀ o : Oper, o.op = op → (execOp a.eval o).run P w = .ok (.enter f args) w)
    (hc : Calls P f args w fun e w' => ∃ v, e = .returned v ∧ S v w') (h : ∀ v w', S v w' → wpOps P ops Q rest (a.put (some d) v) w') : wpOps P ops Q (i :: rest) a w := by
  obtain ⟨o, ho, hop, hd, hg⟩ := ho
  simp only [wpOps, ho]
  rw [if_pos (by simp [Region.wanted, hg])]
  refine .inl ?_
  unfold Oper.wp
  rw [hr o hop, Oper.upon_enter]
  refine hc.mono ?_
  rintro e w' ⟨v, rfl, hS⟩
  show wpOps P ops Q rest (a.put o.dst v) w'
  rw [hd]
  exact h v w' hS
end
theorem op_move {P : Program} {a : Act} {w : World} {x : Operand} {vx : Value} (hx : a.eval x = vx) (o : Oper) (hop : o.op = .move x) : (execOp a.eval o).run P w = .ok (.value vx) w := by
  unfold execOp; simp [hop, hx]

/-- The frame behind the region. -/
def MeshFr2 (a : Act) (bm : Nat) (a' : Act) : Prop := ∃ v47 v48 v49 v50 v51 v52 v53, a' = (((((((a.put (some 47) v47).put (some 48) v48).put (some 49) v49).put (some 50) v50).put (some 51) v51).put (some 52) v52).put (some 53) v53).put (some 17) (.pointer (some ⟨bm, 0, none⟩))


theorem region_build {id : Nat} {ops : Array Oper} {K : Act → World → Prop} {Q : Exit → Act → World → Prop} {a : Act} {w : World} {bi f cr cd : Nat} {ro dob : Obj} (hf3 : f < 3) (hsz : a.tmps.size = 97)
    (he9 : a.eval (.tmp 9) = .pointer (some ⟨bi, 0, none⟩)) (he10 : a.eval (.tmp 10) = .int .i64 f) (he15 : a.eval (.tmp 15) = .chan (some cr)) (he16 : a.eval (.tmp 16) = .chan (some cd)) (h8 : ops.size = 8)
    (hcr : w.heap[cr]? = some ro) (hcd : w.heap[cd]? = some dob)
    (o0 : At ops 0 (.move (.tmp 10)) 47) (o1 : At ops 1 (.move (.tmp 9)) 48) (o2 : At ops 2 (.call { callee := .value (.func 7), args := #[.tmp 47, .tmp 48], argTypes := #[3, 24] }) 49)
    (o3 : At ops 3 (.move (.tmp 15)) 50) (o4 : At ops 4 (.move (.tmp 16)) 51) (o5 : At ops 5 (.build 71 #[(19, .tmp 49), (13, .tmp 50), (14, .tmp 51)]) 52) (o6 : At ops 6 (.box 71 (.tmp 52)) 53) (o7 : At ops 7 (.assign (.tmp 53)) 17)
    (hK : ∀ a' w' bm gi, MeshFr2 a bm a' → MeshSt w' bm gi cr cd bi f ro dob → Below w.heap.size w w' → K a' w') :
    (Code.region id ops false).wp Yba.prog (Exit.then K Q) a w := by
  obtain ⟨mc, hmb, hmx, hmg⟩ := mesh_build
  refine wp_region ?_
  rw [h8]
  change wpOps _ _ _ [0, 1, 2, 3, 4, 5, 6, 7] _ _
  refine ops_value o0 (op_move he10) ?_
  refine ops_value o1 (op_move (vx := .pointer (some ⟨bi, 0, none⟩)) (by simp [Act.eval_put_ne, Act.eval_put_same, Act.size_put, hsz, he9, he10, he15, he16])) ?_
  refine ops_call o2 (op_call2 (vx := .int .i64 f) (vy := .pointer (some ⟨bi, 0, none⟩)) Yba.func7 (by kernel_rfl) rfl (by simp [Act.eval_put_ne, Act.eval_put_same, Act.size_put, hsz, he9, he10, he15, he16]) (by simp [Act.eval_put_ne, Act.eval_put_same, Act.size_put, hsz, he9, he10, he15, he16])) (ins_any' f bi _ hf3) ?_
  rintro _ w4 ⟨gi, gc, rfl, hg4, hgf4, hB4⟩
  refine ops_value o3 (op_move (vx := .chan (some cr)) (by simp [Act.eval_put_ne, Act.eval_put_same, Act.size_put, hsz, he9, he10, he15, he16])) ?_
  refine ops_value o4 (op_move (vx := .chan (some cd)) (by simp [Act.eval_put_ne, Act.eval_put_same, Act.size_put, hsz, he9, he10, he15, he16])) ?_
  refine ops_value o5 (op_build3 (vx := .slice (some ⟨gi, 0, none⟩) 3 3) (vy := .chan (some cr)) (vz := .chan (some cd)) (by simp [Act.eval_put_ne, Act.eval_put_same, Act.size_put, hsz, he9, he10, he15, he16]) (by simp [Act.eval_put_ne, Act.eval_put_same, Act.size_put, hsz, he9, he10, he15, he16]) (by simp [Act.eval_put_ne, Act.eval_put_same, Act.size_put, hsz, he9, he10, he15, he16]) (hmb gi cr cd _)) ?_
  refine ops_value o6 (op_box (vx := .agg (mc gi cr cd)) (by simp [Act.eval_put_ne, Act.eval_put_same, Act.size_put, hsz, he9, he10, he15, he16]) (hmx gi cr cd _)) ?_
  refine ops_value o7 (v := .pointer (some ⟨w4.heap.size, 0, none⟩)) (op_assign (by simp [Act.eval_put_ne, Act.eval_put_same, Act.size_put, hsz, he9, he10, he15, he16])) ?_
  obtain ⟨h1, h2⟩ := mesh_made hmg (W := w.heap.size) (gi := gi) (cr := cr) (cd := cd) (w3 := w) (wx := w4) rfl hg4 hgf4 (keepB hB4 hcr) (keepB hB4 hcd) hB4
  exact hK _ _ _ gi ⟨_, _, _, _, _, _, _, rfl⟩ h1 h2

theorem setChan_keep {w : World} {c k cap s r : Nat} {buf : Array Value} {cl tm : Bool} (h : k ≠ c) : (w.setChan c cap buf cl s r tm).heap[k]? = w.heap[k]? := by
  simp only [World.setChan]
  exact Array.getElem?_setIfInBounds_ne (fun e => h e.symm)

def firstFrame : Value := .agg #[.int .i64 (-1), .slice none 0 0, .bool false]

set_option maxHeartbeats 1600000 in
set_option maxRecDepth 100000 in
theorem closed_small (oa : Option Addr) (n cap f : Nat) (fr inc seq : Int) (ops : List (Int × Int)) (w : World) (hr : Reads2 w oa ops) (hl : ops.length = n) (hn : n ≤ 1024) (hf : fr.tmod 3 = f) (hf3 : f < 3) :
    Calls Yba.prog 4 #[.slice oa n cap, .int .u8 fr, .int .u64 inc, .int .u64 seq] w fun e w' => e = .returned (.bool true) ∧ Below w.heap.size w w' := by
  have hni : (n : Int) ≤ 1024 := by omega
  have hff : (f : Int) < 3 := by omega
  have hmk1 := mk41
  have hmk0 := mk42
  refine calls_of_wpN Yba.func4 rfl ?_
  simp only [Yba.ntmps4, List.size_toArray, List.length_cons, List.length_nil, Nat.reduceAdd, Nat.reduceSub, Array.replicate_succ, Array.replicate_zero, List.push_toArray, List.append_toArray, List.nil_append, List.cons_append]
  refine wpN_seq_k fun K hK => ?_
  go_wp2_with fail
  refine wpN_seq_k fun K hK => ?_
  go_wp2_with fail
  refine wpN_seq_k fun K hK => ?_
  go_wp2_with (go_at_call 5; refine (build_any oa n cap ops w hr hl hn).mono ?_; rintro e w1 ⟨bi, rfl, hL, hB1⟩)
  refine wpN_seq_k fun K hK => ?_
  go_wp2_with fail
  refine wpN_seq_k fun K hK => ?_
  go_wp2_with fail
  obtain ⟨ao, N, cp, hin, hown, hlN, hN8, hbase, hbb⟩ := hL
  generalize hcs : runC [] ops = cs at *
  generalize hinc : inc.tmod 12 = k at *
  have hc2 := hin.c2
  refine wpN_seq_k fun K hK => ?_
  go_wp2_with (at_builtin; refine wpList_append_copy rfl (.tmp 33) rfl w.heap.size (.slice ao N cp) cs N hlN rfl hown hN8 ?_; intro ao2 cp2 w2 hown2 hB2)
  refine wpN_seq_k fun K hK => ?_
  go_wp2_with (go_at_call 6; refine (model_any ao2 N cp2 _ cs k seq w2 hown2.reads hlN hN8 rfl).mono ?_; rintro e w3 ⟨v3, rfl, hown3, hB3⟩)
  clear hc2
  refine wpN_seq_k fun K hK => ?_
  go_wp2_with fail
  refine wpN_seqN (wpN_region ?_)
  have hnew := heap_alloc_new w3 (.chan 1 #[] false 0 0 false)
  refine sem_value (i := 0) (rest := [1, 2]) (v := .chan (some w3.heap.size)) (w2 := w3.alloc (.chan 1 #[] false 0 0 false)) rfl rfl (by simp [go_sem, execOp, Act.eval]) ?_
  refine sem_value (i := 1) (v := firstFrame) (w2 := w3.alloc (.chan 1 #[] false 0 0 false)) rfl rfl (by simp [go_sem, execOp, Act.eval, Act.put, firstFrame]) ?_
  refine sem_send (i := 2) (c := w3.heap.size) (cap := 1) (s := 0) (r := 0) (buf := #[]) (tm := false) (v := firstFrame) (z := .tuple #[]) rfl rfl (by simp [go_sem, execOp, scase, Act.eval, Act.put]) hnew (by decide) ?_
  refine sem_end ?_
  show WpN _ _ _ _ _
  simp only [Act.put, List.getElem_toArray, List.getElem_cons_zero, List.getElem_cons_succ, List.setIfInBounds_toArray, List.set_cons_zero, List.set_cons_succ]
  obtain ⟨w4, hw4⟩ : ∃ w4, w4 = (w3.alloc (.chan 1 #[] false 0 0 false)).setChan w3.heap.size 1 (#[].push firstFrame) false (0 + 1) 0 false := ⟨_, rfl⟩
  rw [← hw4]
  have hs4 : Hid (w4.heap.size = w3.heap.size + 1) := by show _ = _; rw [hw4, size_setChan]; simp
  have hcr4 : w4.heap[w3.heap.size]? = some (.chan 1 #[firstFrame] false 1 0 false) := by rw [hw4]; exact heap_setChan _ _ 1 #[firstFrame] false 1 0 false (by simp)
  have hB4 : Below w3.heap.size w3 w4 := by
    rw [hw4]
    exact ⟨rfl, rfl, rfl, by rw [size_setChan]; simp, fun k hk => (setChan_keep (by omega)).trans (Below.heap_alloc _ _ _ hk)⟩
  clear hw4
  refine wpN_seq_k fun K hK => ?_
  go_wp2_with fail
  obtain ⟨w5, hcl, hcd5, hB5⟩ : ∃ w5, (∀ ty, (Builtin.close_ #[42] ty #[.chan (some w4.heap.size)]).run Yba.prog (w4.alloc (.chan 0 #[] false 0 0 false)) = .ok (.tuple #[]) w5) ∧ w5.heap[w4.heap.size]? = some (.chan 0 #[] true 0 0 false) ∧ Below w4.heap.size w4 w5 :=
    ⟨_, fun ty => run_close_open (P := Yba.prog) #[42] ty (heap_alloc_new w4 (.chan 0 #[] false 0 0 false)), by simp, ⟨rfl, rfl, rfl, by simp, fun k hk => (Array.getElem?_setIfInBounds_ne (by omega)).trans (Below.heap_alloc _ _ _ hk)⟩⟩
  refine wpN_seq_k fun K hK => ?_
  go_wp2_with fail
  have hcr5 := keepB hB5 hcr4
  have hB5' : Below w3.heap.size w3 w5 := belowB hB4 rfl hB5
  clear hcl hcr4 hs4 hB4 hB5
  generalize hcd : w4.heap.size = cd at *
  generalize hcr : w3.heap.size = cr at hcr5 ⊢
  have hcrl : w3.heap.size ≤ cr := by omega
  clear hcd
  refine wpN_seq_k fun K hK => ?_
  go_cut [17] from 47 to 53 (fun v wc => ∃ bm gi, v = .pointer (some ⟨bm, 0, none⟩) ∧ MeshSt wc bm gi cr cd bi f (.chan 1 #[firstFrame] false 1 0 false) (.chan 0 #[] true 0 0 false) ∧ Below w5.heap.size w5 wc)
  case first =>
    rename_i J K1 hJ hK1
    refine region_build hf3 rfl rfl rfl rfl rfl rfl hcr5 hcd5 ⟨_, rfl, rfl, rfl, rfl⟩ ⟨_, rfl, rfl, rfl, rfl⟩ ⟨_, rfl, rfl, rfl, rfl⟩ ⟨_, rfl, rfl, rfl, rfl⟩ ⟨_, rfl, rfl, rfl, rfl⟩ ⟨_, rfl, rfl, rfl, rfl⟩ ⟨_, rfl, rfl, rfl, rfl⟩ ⟨_, rfl, rfl, rfl, rfl⟩ ?_
    rintro _ w' bm gi ⟨v47, v48, v49, v50, v51, v52, v53, rfl⟩ h1 h2
    refine hK1 _ _ (Met.intro (hJ _ _ ?_))
    simp only [Act.put, List.setIfInBounds_toArray, List.set_cons_zero, List.set_cons_succ]
    exact ⟨_, _, _, _, _, _, _, _, ⟨bm, gi, rfl, h1, h2⟩, rfl⟩
  case rest =>
    obtain ⟨bm, gi, rfl, hM, hBx⟩ := hcut
    refine hK _ _ ?_
    clear hK K
    have hB4 : Below w3.heap.size w3 wc := belowB hB5' rfl hBx
    have hBc : Below w1.heap.size w1 wc := belowB (belowB hB2 rfl hB3) rfl hB4
    have hinc : InB wc bi 0 0 (.slice ao N cp) := hin.keep (hBc.block _ hin.lt)
    have hownc : Own wc w.heap.size (.slice ao N cp) cs := hown.keep fun k hk => hBc.block k (hown.lt k hk).2
    have hbasec : w.heap.size ≤ wc.heap.size := by have := hBc.size; omega
    have hlen8 := stepC_len cs k seq (by omega)
    have hcrw : w.heap.size ≤ cr := by have := hB2.size; have := hB3.size; omega
    clear hcr5 hcd5
    refine wpN_seq_k fun K hK => ?_
    go_wp2_with (go_at_call 8; refine (mesh_closed bm gi cr cd bi f w.heap.size N cp 0 k seq ao cs firstFrame wc hf3 hM hinc hownc hlN hN8 hbasec).mono ?_; rintro e w5 ⟨rfl, hD⟩)
    obtain ⟨ao5, cp5, hin5, hown5, hown35, hcr5, _, hne1, hne2, hB5⟩ := after_mesh ⟨_, _, _, _, _, _, rfl⟩ ⟨_, _, _, _, _, _, rfl⟩ hB1 hB2 hB3 hB4 hin hown hbb hown3 hcrl hM hD
    clear hD hM hinc hownc
    generalize hst : stepC cs k seq = st at *
    obtain ⟨cs', gap⟩ := st
    dsimp only at *
    obtain ⟨ao3, cp3, rfl⟩ := hown3.shape
    have hc2 := hin5.c2
    refine wpN_seq_k fun K hK => ?_
    go_wp2_with fail
    refine wpN_seq_k fun K hK => ?_
    go_wp2_with (go_at_call 9; refine (eq_any ao5 ao3 cs'.length cp5 cp3 cs' w5 hown5.reads hown35.reads rfl hlen8).mono ?_; rintro e w6 ⟨rfl, hB6, hh6⟩)
    have hin6 : InB w6 bi 0 0 (.slice ao5 cs'.length cp5) := hin5.keep (by rw [hh6])
    have hcr6 : w6.heap[cr]? = some (.chan 1 #[firstFrame] false 1 0 false) := by rw [hh6]; exact hcr5
    have hB6' : Below w.heap.size w w6 := hB5.trans (hB6.mono hB5.size)
    clear hh6 hB6 hB5 hcr5 hin5 hown5 hown35 hc2 hown3 hown hin hB1 hB2 hB3 hB4 hBc
    have h0 := hin6.c0
    have h1 := hin6.fz 0
    refine wpN_seq_k fun K hK => ?_
    go_wp2_with (go_at_call 10; refine (tryLockF bi w6 h0 h1).mono ?_; rintro e w7 ⟨rfl, rfl⟩)
    obtain ⟨w7, hw7⟩ : ∃ w7, w7 = w6.setCell ⟨bi, 0, none⟩ (.int .i32 1) := ⟨_, rfl⟩
    rw [← hw7]
    have hin7 : InB w7 bi 1 0 (.slice ao5 cs'.length cp5) := by rw [hw7]; exact hin6.put0 1
    have hcr7 : w7.heap[cr]? = some (.chan 1 #[firstFrame] false 1 0 false) := by rw [hw7, Below.heap_setCell _ _ _ _ hne2]; exact hcr6
    have hB7 : Below w.heap.size w w7 := by rw [hw7]; exact hB6'.setCell hbb _
    clear hw7 hin6 hcr6 hB6' h0 h1
    have h0 := hin7.c0
    have h1 := hin7.fz 0
    refine wpN_seq_k fun K hK => ?_
    go_wp2_with (go_at_call 11; refine (unlockF bi w7 h0 h1).mono ?_; rintro e w8 ⟨rfl, rfl⟩)
    obtain ⟨w8, hw8⟩ : ∃ w8, w8 = w7.setCell ⟨bi, 0, none⟩ (.int .i32 0) := ⟨_, rfl⟩
    rw [← hw8]
    have hcr8 : w8.heap[cr]? = some (.chan 1 #[firstFrame] false 1 0 false) := by rw [hw8, Below.heap_setCell _ _ _ _ hne2]; exact hcr7
    have hB8 : Below w.heap.size w w8 := by rw [hw8]; exact hB7.setCell hbb _
    clear hw8 hin7 hcr7 hB7 h0 h1
    have hlen := fun ty => run_len_chan (P := Yba.prog) 41 ty Yba.underlying41 (w := w8) (c := cr) (cap := 1) (buf := #[firstFrame]) (closed := false) (s := 1) (r := 0) hcr8
    refine wpN_seq_k fun K hK => ?_
    go_wp2_with fail
    refine wpN_seqN (wpN_region ?_)
    refine sem_value (i := 0) (rest := [1, 2, 3]) (v := .chan (some cr)) (w2 := w8) rfl rfl (by simp [go_sem, execOp, Act.eval]) ?_
    refine sem_recv (i := 1) (c := cr) (cap := 1) (s := 1) (r := 0) (buf := #[firstFrame]) (closed := false) (tm := false) (z := .agg #[.int .i64 0, .slice none 0 0, .bool false]) rfl rfl (by simp [go_sem, execOp, rcase, Act.eval, Act.put]) hcr8 (by simp) ?_
    obtain ⟨w9, hw9⟩ : ∃ w9, w9 = w8.setChan cr 1 (#[firstFrame].extract 1 #[firstFrame].size) false 1 (0 + 1) false := ⟨_, rfl⟩
    rw [← hw9]
    have hB9 : Below w.heap.size w w9 := by
      rw [hw9]
      exact hB8.trans ⟨rfl, rfl, rfl, by rw [size_setChan]; exact Nat.le_refl _, fun k hk => setChan_keep (by omega)⟩
    clear hw9
    refine sem_value (i := 2) (v := .pointer (some ⟨w9.heap.size, 0, none⟩)) (w2 := w9.alloc (.cells #[.int .i64 0, .slice none 0 0, .bool false] 76)) rfl rfl (by simp [go_sem, execOp, Act.eval, Act.put]) ?_
    refine sem_skip (i := 3) (w2 := w9.alloc (.cells #[.int .i64 (-1), .slice none 0 0, .bool false] 76)) rfl rfl (by simp [go_sem, execOp, Act.eval, Act.put, firstFrame]) ?_
    refine sem_end ?_
    refine wpN_of_wp ?_
    have hBe := (hB9.alloc hB9.size (.cells #[.int .i64 (-1), .slice none 0 0, .bool false] 76))
    have heq : ∀ w : World, (binOp .eql 47 (.slice none 0 0) (.slice none 0 0)).run Yba.prog w = .ok (.bool true) w := fun _ => rfl
    go_wp2
    go_ret
    exact ⟨rfl, hBe⟩

set_option maxRecDepth 100000 in
theorem closed_big (oa : Option Addr) (n cap : Nat) (fr inc seq : Int) (w : World) (hn : 1024 < n) :
    Calls Yba.prog 4 #[.slice oa n cap, .int .u8 fr, .int .u64 inc, .int .u64 seq] w fun e w' => e = .returned (.bool true) ∧ Below w.heap.size w w' := by
  have hni : (1024 : Int) < n := by omega
  refine calls_of_wpN Yba.func4 rfl ?_
  simp only [Yba.ntmps4, List.size_toArray, List.length_cons, List.length_nil, Nat.reduceAdd, Nat.reduceSub, Array.replicate_succ, Array.replicate_zero, List.push_toArray, List.append_toArray, List.nil_append, List.cons_append]
  refine wpN_seq_k fun K hK => ?_
  go_wp2_with fail
  refine wpN_seq_k fun K hK => ?_
  go_wp2_with fail
  go_ret
  exact ⟨rfl, Below.refl _ _⟩

theorem law_closed (oa : Option Addr) (n cap : Nat) (fr inc seq : Int) (ops : List (Int × Int)) (w : World) (hr : Reads2 w oa ops) (hl : ops.length = n) (hfr : 0 ≤ fr) :
    Calls Yba.prog 4 #[.slice oa n cap, .int .u8 fr, .int .u64 inc, .int .u64 seq] w fun e w' => e = .returned (.bool true) ∧ Below w.heap.size w w' := by
  by_cases hn : n ≤ 1024
  · have h1 := Int.tmod_nonneg 3 hfr
    have h2 : fr.tmod 3 < 3 := Int.tmod_lt_of_pos fr (by decide)
    exact closed_small oa n cap (fr.tmod 3).toNat fr inc seq ops w hr hl hn (by omega) (by omega)
  · exact closed_big oa n cap fr inc seq w (by omega)
end Go.Proofs.Ybulkcxje
