/-
  Communication in one goroutine beside the walk: 'WpN': what Code.wp says, of frames of ordinary calls alone; a region with one send, receive or select, step by step.
-/
import Derived.Test.YbulkcxjeEq
import Derived.Conc.LoneCalls
import Derived.Conc.LoneSelectN
import Derived.Defers
namespace Go.Proofs.Ybulkcxje
open Go.RowKit Go.Conc
set_option linter.unusedSimpArgs false

def WpN (P : Program) (c : Code) (Q : Exit → Act → World → Prop) (a : Act) (w : World) : Prop :=
  ∀ (b : Frame) (k : List Item) (cs : List Frame), b.kind = .normal → ∃ e a' w', Q e a' w' ∧ Arrives P (lone (b.at a (.code c :: k)) cs w) b k cs e a' w'
def SemOps (P : Program) (ops : Array Oper) (Q : Exit → Act → World → Prop) (l : List Nat) (a : Act) (w : World) : Prop :=
  ∀ (b : Frame) (k : List Item) (cs : List Frame), b.kind = .normal → ∃ e a' w', Q e a' w' ∧ Arrives P (lone (b.at a (.inRegion ops l :: k)) cs w) b k cs e a' w'

section
variable {P : Program} {Q : Exit → Act → World → Prop} {a : Act} {w : World}

theorem wpN_of_wp {c : Code} (h : c.wp P Q a w) : WpN P c Q a w := fun b k cs _ => h b k cs

theorem wpN_seqN {x y : Code} (h : WpN P x (Exit.then (WpN P y Q) Q) a w) : WpN P (Code.seq x y) Q a w := by
  intro b k cs hb
  obtain ⟨e, a1, w1, hq, harr⟩ := h b (.code y :: k) cs hb
  have hp : e ≠ .normal → Q e a1 w1 → ∃ e a' w', Q e a' w' ∧ Arrives P (lone (b.at a (.code (Code.seq x y) :: k)) cs w) b k cs e a' w' := fun hne hQ =>
    ⟨e, a1, w1, hQ, .of_steps (.one step_seq) (.pass (x := .code y) rfl (fun _ _ => .inl hne) harr)⟩
  cases e with
  | normal =>
    obtain ⟨e2, a2, w2, hq2, harr2⟩ := hq b k cs hb
    exact ⟨e2, a2, w2, hq2, .of_steps (.head step_seq harr) harr2⟩
  | exit id => exact hp (by simp) hq
  | goto l => exact hp (by simp) hq
  | ret => exact hp (by simp) hq
  | panic ch => exact hp (by simp) hq
  | outgrown => exact hp (by simp) hq

/-- A statement without communication, then the rest. -/
theorem wpN_seq_k {x y : Code} (h : ∀ K : Act → World → Prop, (∀ a w, WpN P y Q a w → K a w) → x.wp P (Exit.then K Q) a w) : WpN P (Code.seq x y) Q a w :=
  wpN_seqN (wpN_of_wp (h _ fun _ _ h => h))

theorem wpN_cond {c : Operand} {x y : Code} {t : Bool} (hc : a.eval c = .bool t) (h : WpN P (if t then x else y) Q a w) : WpN P (Code.cond c x y) Q a w :=
  fun b k cs hb => let ⟨e, a', w', q, r⟩ := h b k cs hb; ⟨e, a', w', q, .of_steps (.one (step_cond hc)) r⟩

theorem wpN_region {id : Nat} {ops : Array Oper} (h : SemOps P ops Q (List.range ops.size) a w) : WpN P (Code.region id ops false) Q a w :=
  fun b k cs hb => let ⟨e, a', w', q, r⟩ := h b k cs hb; ⟨e, a', w', q, .of_steps (.one step_region) r⟩

theorem sem_end {ops : Array Oper} (h : Q .normal a w) : SemOps P ops Q [] a w := fun _ _ _ _ => ⟨.normal, a, w, h, .one step_region_end⟩

theorem sem_step {ops : Array Oper} {i : Nat} {rest : List Nat} {o : Oper} {v : Value} {w2 : World} (ho : ops[i]? = some o)
    (hstep : ∀ (b : Frame) (k : List Item) (cs : List Frame), b.kind = .normal → step P (lone (b.at a (.inRegion ops (i :: rest) :: k)) cs w) = .next (lone ((b.at a (.inRegion ops (i :: rest) :: k)).finish v) cs w2))
    (h : SemOps P ops Q rest (a.put o.dst v) w2) : SemOps P ops Q (i :: rest) a w := by
  intro b k cs hb
  obtain ⟨e, a', w', hq, harr⟩ := h b k cs hb
  have hs := hstep b k cs hb
  rw [Frame.finish_at, ho] at hs
  exact ⟨e, a', w', hq, .of_steps (.one hs) harr⟩

theorem sem_value {ops : Array Oper} {i : Nat} {rest : List Nat} {o : Oper} {v : Value} {w2 : World} (ho : ops[i]? = some o) (hw : Region.wanted o (yielded ops a.tmps) = true)
    (hr : (execOp a.eval o).run P w = .ok (.value v) w2) (h : SemOps P ops Q rest (a.put o.dst v) w2) : SemOps P ops Q (i :: rest) a w :=
  sem_step ho (fun b k cs _ => step_lone_go (by rw [stepG_op ho hw]; simp [stepG.apply, hr])) h

theorem sem_skip {ops : Array Oper} {i : Nat} {rest : List Nat} {o : Oper} {w2 : World} (ho : ops[i]? = some o) (hw : Region.wanted o (yielded ops a.tmps) = true)
    (hr : (execOp a.eval o).run P w = .ok .skip w2) (h : SemOps P ops Q rest (a.put o.dst undef) w2) : SemOps P ops Q (i :: rest) a w :=
  sem_step ho (fun b k cs _ => step_lone_go (by rw [stepG_op ho hw]; simp [stepG.apply, hr])) h

theorem notEarly {b : Frame} (hb : b.kind = .normal) : b.kind ≠ .early := by rw [hb]; decide

theorem sem_send {ops : Array Oper} {i : Nat} {rest : List Nat} {o : Oper} {c cap s r : Nat} {buf : Array Value} {tm : Bool} {v z : Value} (ho : ops[i]? = some o) (hw : Region.wanted o (yielded ops a.tmps) = true)
    (hr : (execOp a.eval o).run P w = .ok (.comm #[scase c v z] true .send) w) (hc : w.heap[c]? = some (.chan cap buf false s r tm)) (hroom : buf.size < cap)
    (h : SemOps P ops Q rest (a.put o.dst undef) (w.setChan c cap (buf.push v) false (s + 1) r tm)) : SemOps P ops Q (i :: rest) a w :=
  sem_step ho (fun b k cs hb => by rw [lone_eq_solo, lone_eq_solo]; exact step_lone_send_room (stepG_comm ho hw (notEarly hb) hr) hc hroom) h

theorem sem_recv {ops : Array Oper} {i : Nat} {rest : List Nat} {o : Oper} {c cap s r : Nat} {buf : Array Value} {closed tm : Bool} {z : Value} (ho : ops[i]? = some o) (hw : Region.wanted o (yielded ops a.tmps) = true)
    (hr : (execOp a.eval o).run P w = .ok (.comm #[rcase c z] true (.recv false)) w) (hc : w.heap[c]? = some (.chan cap buf closed s r tm)) (hsome : 0 < buf.size)
    (h : SemOps P ops Q rest (a.put o.dst (buf.getD 0 undef)) (w.setChan c cap (buf.extract 1 buf.size) closed s (r + 1) tm)) : SemOps P ops Q (i :: rest) a w :=
  sem_step ho (fun b k cs hb => by rw [lone_eq_solo, lone_eq_solo]; exact step_lone_recv_buf false (stepG_comm ho hw (notEarly hb) hr) hc hsome) h

theorem res_sr0 (c d : Nat) (v z z' : Value) : commResult #[scase c v z, rcase d z'] .select ((0 : Nat) : Int) undef false = .tuple #[goInt 0, .bool false, z'] := by
  simp [commResult, rcase, scase, List.zipIdx_cons]
theorem res_sr1 (c d : Nat) (v z z' u : Value) (ok : Bool) : commResult #[scase c v z, rcase d z'] .select ((1 : Nat) : Int) u ok = .tuple #[goInt 1, .bool ok, u] := by
  simp [commResult, rcase, scase, List.zipIdx_cons]

/-- A select of a send with room and a receive that cannot proceed: the send. -/
theorem sem_sel_send {ops : Array Oper} {i : Nat} {rest : List Nat} {o : Oper} {c d cap s r cap' s' r' : Nat} {buf : Array Value} {tm tm' : Bool} {v z z' : Value} (ho : ops[i]? = some o) (hw : Region.wanted o (yielded ops a.tmps) = true)
    (hr : (execOp a.eval o).run P w = .ok (.comm #[scase c v z, rcase d z'] true .select) w) (hc : w.heap[c]? = some (.chan cap buf false s r tm)) (hroom : buf.size < cap) (hd : w.heap[d]? = some (.chan cap' #[] false s' r' tm'))
    (h : SemOps P ops Q rest (a.put o.dst (.tuple #[goInt 0, .bool false, z'])) (w.setChan c cap (buf.push v) false (s + 1) r tm)) : SemOps P ops Q (i :: rest) a w := by
  refine sem_step ho (fun b k cs hb => ?_) h
  rw [lone_eq_solo, lone_eq_solo, ← res_sr0 c d v z z']
  refine step_lone_sel_send_room (k := 0) (stepG_comm ho hw (notEarly hb) hr) rfl (fun m c' hm hc' => ?_) hc hroom
  rcases m with _ | _ | m
  · exact absurd rfl hm
  · simp only [List.getElem?_toArray, List.getElem?_cons_succ, List.getElem?_cons_zero, Option.some.injEq] at hc'
    subst hc'
    exact noWay_recv hd
  · simp at hc'

/-- A select of a send without room and a receive from a closed channel: the receive. -/
theorem sem_sel_shut {ops : Array Oper} {i : Nat} {rest : List Nat} {o : Oper} {c d cap s r cap' s' r' : Nat} {buf : Array Value} {tm tm' : Bool} {v z z' : Value} (ho : ops[i]? = some o) (hw : Region.wanted o (yielded ops a.tmps) = true)
    (hr : (execOp a.eval o).run P w = .ok (.comm #[scase c v z, rcase d z'] true .select) w) (hc : w.heap[c]? = some (.chan cap buf false s r tm)) (hfull : cap ≤ buf.size) (hd : w.heap[d]? = some (.chan cap' #[] true s' r' tm'))
    (h : SemOps P ops Q rest (a.put o.dst (.tuple #[goInt 1, .bool false, z'])) w) : SemOps P ops Q (i :: rest) a w := by
  refine sem_step ho (fun b k cs hb => ?_) h
  rw [lone_eq_solo, lone_eq_solo, ← res_sr1 c d v z z' z' false]
  refine step_lone_sel_recv_shut (k := 1) (stepG_comm ho hw (notEarly hb) hr) rfl (fun m c' hm hc' => ?_) hd
  rcases m with _ | _ | m
  · simp only [List.getElem?_toArray, List.getElem?_cons_zero, Option.some.injEq] at hc'
    subst hc'
    exact noWay_send hc hfull
  · exact absurd rfl hm
  · simp at hc'

theorem calls_of_wpN {f : FuncId} {fn : Func} {c : Code} {args : Array Value} {R : Ending → World → Prop} (hf : P.funcs[f]? = some fn) (hb : fn.body = some c)
    (h : WpN P c (bodyPost P fn R) { tmps := args ++ Array.replicate (fn.ntmps - args.size) undef, defers := [] } w) : Calls P f args w R := by
  intro cs
  let b : Frame := { (default : Frame) with fn := f, kind := .normal }
  have henter : Frame.enter P f args .normal = b.at { tmps := args ++ Array.replicate (fn.ntmps - args.size) undef, defers := [] } [.code c] := by
    simp [Frame.enter, Frame.at, hf, hb, b]
  obtain ⟨e, a', w', hq, harr⟩ := h b [] cs rfl
  rw [← henter] at harr
  cases e with
  | normal =>
    obtain ⟨hd, v, hr, hR⟩ := hq
    exact ⟨.returned v, w', _, hR, Steps.trans harr (.one step_end), rfl, rfl, hd, rfl, fn, hf, hr⟩
  | ret =>
    obtain ⟨hd, v, hr, hR⟩ := hq
    obtain ⟨todo, hs⟩ := harr
    exact ⟨.returned v, w', _, hR, hs, rfl, rfl, hd, rfl, fn, hf, hr⟩
  | panic chain =>
    obtain ⟨hd, hR⟩ := hq
    obtain ⟨todo, hs⟩ := harr
    exact ⟨.panicked chain, w', _, hR, hs, rfl, rfl, hd, fn, hf⟩
  | exit id => exact hq.elim
  | goto l => exact hq.elim
  | outgrown => exact ⟨.outgrown, w', b, hq, harr.resolve_left (by simp [b]), rfl, trivial⟩

theorem calls_of_wpN_defers {f : FuncId} {fn : Func} {c : Code} {args : Array Value} {R : Ending → World → Prop} (hf : P.funcs[f]? = some fn) (hb : fn.body = some c)
    (h : WpN P c (bodyPostD P fn R) { tmps := args ++ Array.replicate (fn.ntmps - args.size) undef, defers := [] } w) : Calls P f args w R := by
  intro cs
  let b : Frame := { (default : Frame) with fn := f, kind := .normal }
  have henter : Frame.enter P f args .normal = b.at { tmps := args ++ Array.replicate (fn.ntmps - args.size) undef, defers := [] } [.code c] := by
    simp [Frame.enter, Frame.at, hf, hb, b]
  obtain ⟨e, a', w', hq, harr⟩ := h b [] cs rfl
  rw [← henter] at harr
  cases e with
  | normal =>
    obtain ⟨e', w'', fr', hR, hs, hfn, hl⟩ := leaves_steps a'.defers .returning w' { b.at a' [] with mode := .returning } cs rfl rfl rfl hf rfl hq
    exact ⟨e', w'', fr', hR, Comes.of_steps (Steps.trans harr (.one step_end)) hs, hfn, hl⟩
  | ret =>
    obtain ⟨todo, hs0⟩ := harr
    obtain ⟨e', w'', fr', hR, hs, hfn, hl⟩ := leaves_steps a'.defers .returning w' { b.at a' todo with mode := .returning } cs rfl rfl rfl hf rfl hq
    exact ⟨e', w'', fr', hR, Comes.of_steps hs0 hs, hfn, hl⟩
  | panic chain =>
    obtain ⟨todo, hs0⟩ := harr
    obtain ⟨e', w'', fr', hR, hs, hfn, hl⟩ := leaves_steps a'.defers (.panicking chain) w' { b.at a' todo with mode := .panicking chain } cs rfl rfl rfl hf rfl hq
    exact ⟨e', w'', fr', hR, Comes.of_steps hs0 hs, hfn, hl⟩
  | exit id => exact hq.elim
  | goto l => exact hq.elim
  | outgrown => exact ⟨.outgrown, w', b, hq, harr.resolve_left (by simp [b]), rfl, trivial⟩
end
end Go.Proofs.Ybulkcxje
