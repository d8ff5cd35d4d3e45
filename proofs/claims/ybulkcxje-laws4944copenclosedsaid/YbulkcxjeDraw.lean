/-
  The region of 'm := &Mesh{in: .., Recv: make(..), done: make(..)}', which draws its order: six orders, one end.
-/
import Derived.Test.YbulkcxjeChan
import Derived.Great.Frames
namespace Go.Proofs.Ybulkcxje
open Go.RowKit Go.Conc Go.MuLone
set_option linter.unusedSimpArgs false

section
variable {P : Program} {md : Region.Mode} {ops : Array Oper} {Q : Exit → Act → World → Prop} {fuel : Nat} {listed l' : Array Bool} {a : Act} {w : World} {i : Nat} {rs : List Nat}
/-- What the region holds at place i. -/
def At (ops : Array Oper) (i : Nat) (op : Op) (d : Nat) : Prop := ∃ o, ops[i]? = some o ∧ o.op = op ∧ o.dst = some d ∧ o.guard = none
theorem any_value {v : Value} {w2 : World} {op : Op} {d : Nat} (ho : At ops i op d) (hl : listed.setIfInBounds i true = l') (hr : ∀ o : Oper, o.op = op → (execOp a.eval o).run P w = .ok (.value v) w2)
    (h : wpAny P md ops Q fuel l' (a.put (some d) v) w2) (hs : AllReady P md ops Q fuel listed a w rs) : AllReady P md ops Q fuel listed a w (i :: rs) := by
  subst hl
  obtain ⟨o, ho, hop, hd, hg⟩ := ho
  refine AllReady.cons ho (fun K hK => ?_) hs
  rw [if_pos (by simp [Region.wanted, hg])]
  unfold Oper.wp
  rw [hr o hop]
  refine hK _ _ ?_
  rw [hd]
  exact h
theorem any_call {f : FuncId} {args : Array Value} {S : Value → World → Prop} {op : Op} {d : Nat} (ho : At ops i op d) (hl : listed.setIfInBounds i true = l') (hr : ∀ o : Oper, o.op = op → (execOp a.eval o).run P w = .ok (.enter f args) w)
    (hc : Calls P f args w fun e w' => ∃ v, e = .returned v ∧ S v w') (h : ∀ v w', S v w' → wpAny P md ops Q fuel l' (a.put (some d) v) w') (hs : AllReady P md ops Q fuel listed a w rs) : AllReady P md ops Q fuel listed a w (i :: rs) := by
  subst hl
  obtain ⟨o, ho, hop, hd, hg⟩ := ho
  refine AllReady.cons ho (fun K hK => ?_) hs
  rw [if_pos (by simp [Region.wanted, hg])]
  unfold Oper.wp
  rw [hr o hop, Oper.upon_enter]
  refine hc.mono ?_
  rintro e w' ⟨v, rfl, hS⟩
  refine hK _ _ ?_
  rw [hd]
  exact h v w' hS
theorem any_move {v : Value} {x : Operand} {d : Nat} (ho : At ops i (.move x) d) (hl : listed.setIfInBounds i true = l') (hx : a.eval x = v) (hs : Region.noSelect ops = true) (hf : Region.free md ops listed i = true) (hr : (Region.ready md ops listed).contains i = true)
    (hQ : ∀ c a d v w, Q (.panic c) (a.put d v) w → Q (.panic c) a w) (h : wpAny P md ops Q fuel l' (a.put (some d) v) w) : wpAny P md ops Q (fuel + 1) listed a w := by
  subst hl
  obtain ⟨o, ho, hop, hd, hg⟩ := ho
  refine wpAny_take (v := v) ho hs hf hr (fun c a w h => hQ c a _ _ w h) (Or.inl ⟨by simp [Region.wanted, hg], fun w => ?_⟩) (by rw [hd]; exact h)
  unfold execOp
  simp [hop, hx]
end

theorem op_mk {P : Program} {a : Act} {w w2 : World} {t : TypeId} {n v : Value} (hr : (Instr.makeChan t n).run P w = .ok v w2) (o : Oper) (hop : o.op = .makeChan t (.const n)) : (execOp a.eval o).run P w = .ok (.value v) w2 := by
  have hc : a.eval (.const n) = n := rfl
  unfold execOp; simp [hop, hc, hr]
theorem op_build3 {P : Program} {a : Act} {w w2 : World} {t : TypeId} {i j k : Nat} {x y z : Operand} {vx vy vz v : Value} (hx : a.eval x = vx) (hy : a.eval y = vy) (hz : a.eval z = vz)
    (hr : (Instr.build t #[(i, vx), (j, vy), (k, vz)]).run P w = .ok v w2) (o : Oper) (hop : o.op = .build t #[(i, x), (j, y), (k, z)]) : (execOp a.eval o).run P w = .ok (.value v) w2 := by
  unfold execOp; simp [hop, hx, hy, hz, hr]
theorem op_box {P : Program} {a : Act} {w w2 : World} {t : TypeId} {x : Operand} {vx v : Value} (hx : a.eval x = vx)
    (hr : (Instr.box t vx).run P w = .ok v w2) (o : Oper) (hop : o.op = .box t x) : (execOp a.eval o).run P w = .ok (.value v) w2 := by
  unfold execOp; simp only [hop, hx, Sem.run_bind, hr, Result.andThen_ok, Sem.run_pure]
theorem op_assign {P : Program} {a : Act} {w : World} {x : Operand} {vx : Value} (hx : a.eval x = vx) (o : Oper) (hop : o.op = .assign x) : (execOp a.eval o).run P w = .ok (.value vx) w := by
  unfold execOp; simp [hop, hx]
theorem op_call2 {P : Program} {a : Act} {w : World} {f : FuncId} {fn : Func} {c : Code} {x y : Operand} {vx vy : Value} {ts : Array TypeId} (hf : P.funcs[f]? = some fn) (hname : (fn.name == "runtime.NumGoroutine") = false) (hb : fn.body = some c) (hx : a.eval x = vx) (hy : a.eval y = vy)
    (o : Oper) (hop : o.op = .call { callee := .value (.func f), args := #[x, y], argTypes := ts }) : (execOp a.eval o).run P w = .ok (.enter f #[vx, vy]) w := by
  have hc : a.eval (.func f) = .func (.func f) #[] #[] := rfl
  have he := run_callFunc_enter (P := P) hf hname hb #[vx, vy] w
  unfold execOp
  simp [hop, hx, hy, hc, resolve, invoke, Deferred.ofValue, he]
theorem keepA {w : World} {o x : Obj} {k : Nat} (h : w.heap[k]? = some x) : (w.alloc o).heap[k]? = some x := (Below.heap_alloc w o k (lt_of_block h)).trans h
theorem keepB {w w' : World} {x : Obj} {k : Nat} (hB : Below w.heap.size w w') (h : w.heap[k]? = some x) : w'.heap[k]? = some x := (hB.block k (lt_of_block h)).trans h
theorem belowB {W : Nat} {w w1 w2 : World} (h : Below W w w1) (hW : w.heap.size = W) (hB : Below w1.heap.size w1 w2) : Below W w w2 := h.trans (hB.mono (by have := h.size; omega))
theorem belowA {W : Nat} {w w1 : World} (h : Below W w w1) (hW : w.heap.size = W) (o : Obj) : Below W w (w1.alloc o) := h.alloc (by have := h.size; omega) o

/-- The mesh made. -/
theorem mesh_made {mc : Nat → Nat → Nat → Array Value} (hmg : ∀ gi cr cd, (mc gi cr cd)[28]? = some (.slice (some ⟨gi, 0, none⟩) 3 3) ∧ (mc gi cr cd)[20]? = some (.chan (some cr)) ∧ (mc gi cr cd)[21]? = some (.chan (some cd)))
    {W gi cr cd bi f : Nat} {w3 wx : World} {gc : Array Value} {ro dob : Obj} (hW : w3.heap.size = W) (hg : wx.heap[gi]? = some (.cells gc 24 (0, 0))) (hgf : gc[f]? = some (.pointer (some ⟨bi, 0, none⟩)))
    (hr : wx.heap[cr]? = some ro) (hd : wx.heap[cd]? = some dob) (hB : Below W w3 wx) :
    MeshSt (wx.alloc (.cells (mc gi cr cd) 71)) wx.heap.size gi cr cd bi f ro dob ∧ Below W w3 (wx.alloc (.cells (mc gi cr cd) 71)) :=
  ⟨⟨⟨_, heap_alloc_new _ _, hmg gi cr cd⟩, ⟨gc, keepA hg, hgf⟩, keepA hr, keepA hd⟩, belowA hB hW _⟩

def InsS (f bi : Nat) (w : World) (v : Value) (w' : World) : Prop := ∃ g gc, v = .slice (some ⟨g, 0, none⟩) 3 3 ∧ w'.heap[g]? = some (.cells gc 24 (0, 0)) ∧ gc[f]? = some (.pointer (some ⟨bi, 0, none⟩)) ∧ Below w.heap.size w w'
theorem ins_any' (f bi : Nat) (w : World) (hf : f < 3) : Calls Yba.prog 7 #[.int .i64 f, .pointer (some ⟨bi, 0, none⟩)] w fun e w' => ∃ v, e = .returned v ∧ InsS f bi w v w' :=
  (ins_any f bi w hf).mono (by rintro e w' ⟨g, rfl, ⟨gc, h1, h2⟩, _, h3⟩; exact ⟨_, rfl, g, gc, rfl, h1, h2, h3⟩)

theorem pcomm (a : Act) (d e : Nat) (v u : Value) (h : d ≠ e) : (a.put (some d) v).put (some e) u = (a.put (some e) u).put (some d) v := Act.put_comm a v u (fun x hx hy => h (by rw [← Option.some.inj hx] at *; exact (Option.some.inj hy).symm ▸ rfl))
theorem size_alloc (w : World) (o : Obj) : (w.alloc o).heap.size = w.heap.size + 1 := by simp
/-- The frame behind the region. -/
def MeshFr (a : Act) (bm : Nat) (a' : Act) : Prop := ∃ v39 v40 v41 v42 v43 v44 v45, a' = (((((((a.put (some 39) v39).put (some 40) v40).put (some 41) v41).put (some 42) v42).put (some 43) v43).put (some 44) v44).put (some 45) v45).put (some 15) (.pointer (some ⟨bm, 0, none⟩))

set_option maxHeartbeats 1600000 in
theorem region_mesh {id : Nat} {ops : Array Oper} {K : Act → World → Prop} {Q : Exit → Act → World → Prop} {a : Act} {w3 : World} {bi f : Nat} (hf3 : f < 3) (hsz : a.tmps.size = 99)
    (he9 : a.eval (.tmp 9) = .pointer (some ⟨bi, 0, none⟩)) (he10 : a.eval (.tmp 10) = .int .i64 f) (hQ : ∀ c a d v w, Q (.panic c) (a.put d v) w → Q (.panic c) a w)
    (hno : Region.noSelect ops = true) (h8 : ops.size = 8)
    (hf0 : Region.free .any ops #[false, false, false, false, false, false, false, false] 0 = true) (hc0 : (Region.ready .any ops #[false, false, false, false, false, false, false, false]).contains 0 = true)
    (hf1 : Region.free .any ops #[true, false, false, false, false, false, false, false] 1 = true) (hc1 : (Region.ready .any ops #[true, false, false, false, false, false, false, false]).contains 1 = true)
    (hr1 : Region.ready .any ops #[true, true, false, false, false, false, false, false] = [2, 3, 4])
    (hr2 : Region.ready .any ops #[true, true, true, false, false, false, false, false] = [3, 4])
    (hr3 : Region.ready .any ops #[true, true, false, true, false, false, false, false] = [2, 4])
    (hr4 : Region.ready .any ops #[true, true, false, false, true, false, false, false] = [2, 3])
    (hr5 : Region.ready .any ops #[true, true, true, true, false, false, false, false] = [4])
    (hr6 : Region.ready .any ops #[true, true, true, false, true, false, false, false] = [3])
    (hr7 : Region.ready .any ops #[true, true, false, true, true, false, false, false] = [2])
    (hr9 : Region.ready .any ops #[true, true, true, true, true, false, false, false] = [5])
    (hr10 : Region.ready .any ops #[true, true, true, true, true, true, false, false] = [6])
    (hr11 : Region.ready .any ops #[true, true, true, true, true, true, true, false] = [7])
    (hr12 : Region.ready .any ops #[true, true, true, true, true, true, true, true] = [])
    (o0 : At ops 0 (.move (.tmp 10)) 39) (o1 : At ops 1 (.move (.tmp 9)) 40) (o2 : At ops 2 (.call { callee := .value (.func 7), args := #[.tmp 39, .tmp 40], argTypes := #[3, 24] }) 41)
    (o3 : At ops 3 (.makeChan 41 (.const (.int .i64 1))) 42) (o4 : At ops 4 (.makeChan 42 (.const (.int .i64 0))) 43) (o5 : At ops 5 (.build 71 #[(19, .tmp 41), (13, .tmp 42), (14, .tmp 43)]) 44) (o6 : At ops 6 (.box 71 (.tmp 44)) 45) (o7 : At ops 7 (.assign (.tmp 45)) 15)
    (hK : ∀ a' w' bm gi cr cd, MeshFr a bm a' →
      MeshSt w' bm gi cr cd bi f (.chan 1 #[] false 0 0 false) (.chan 0 #[] false 0 0 false) → w3.heap.size ≤ cr → Below w3.heap.size w3 w' → K a' w') :
    (Code.region id ops true).wp Yba.prog (Exit.then K Q) a w3 := by
  obtain ⟨mc, hmb, hmx, hmg⟩ := mesh_build
  refine wp_region_any (by kernel_rfl) ?_
  change wpAny _ _ _ _ _ _ _ (World.drew _)
  rw [h8]
  have hBd : Below w3.heap.size w3 w3.drew := (Below.refl _ _).drew
  generalize w3.drew = wd at *
  change wpAny _ _ _ _ _ #[false, false, false, false, false, false, false, false] _ _
  refine any_move o0 (l' := #[true, false, false, false, false, false, false, false]) rfl he10 hno hf0 hc0 hQ ?_
  refine any_move o1 (l' := #[true, true, false, false, false, false, false, false]) rfl (v := .pointer (some ⟨bi, 0, none⟩)) (by simp [Act.eval_put_ne, Act.eval_put_same, Act.size_put, hsz, he9, he10]) hno hf1 hc1 hQ ?_
  refine wpAny_ready (rs := [2, 3, 4]) hr1 (by simp) ?_
  refine any_call o2 (l' := #[true, true, true, false, false, false, false, false]) rfl (op_call2 (vx := .int .i64 f) (vy := .pointer (some ⟨bi, 0, none⟩)) Yba.func7 (by kernel_rfl) rfl (by simp [Act.eval_put_ne, Act.eval_put_same, Act.size_put, hsz, he9, he10]) (by simp [Act.eval_put_ne, Act.eval_put_same, Act.size_put, hsz, he9, he10])) (ins_any' f bi _ hf3) ?_ ?_
  · rintro _ w4 ⟨gi, gc, rfl, hg4, hgf4, hB4⟩
    refine wpAny_ready (rs := [3, 4]) hr2 (by simp) ?_
    refine any_value o3 (l' := #[true, true, true, true, false, false, false, false]) rfl (op_mk (mk41 _)) ?_ ?_
    · refine wpAny_ready (rs := [4]) hr5 (by simp) ?_
      refine any_value o4 (l' := #[true, true, true, true, true, false, false, false]) rfl (op_mk (mk42 _)) ?_ ?_
      · refine wpAny_ready (rs := [5]) hr9 (by simp) ?_
        refine any_value o5 (l' := #[true, true, true, true, true, true, false, false]) rfl (op_build3 (vx := .slice (some ⟨gi, 0, none⟩) 3 3) (vy := .chan (some w4.heap.size)) (vz := .chan (some (w4.alloc (.chan 1 #[] false 0 0 false)).heap.size)) (by simp [Act.eval_put_ne, Act.eval_put_same, Act.size_put, hsz, he9, he10]) (by simp [Act.eval_put_ne, Act.eval_put_same, Act.size_put, hsz, he9, he10]) (by simp [Act.eval_put_ne, Act.eval_put_same, Act.size_put, hsz, he9, he10]) (hmb gi w4.heap.size (w4.alloc (.chan 1 #[] false 0 0 false)).heap.size _)) ?_ AllReady.nil
        refine wpAny_ready (rs := [6]) hr10 (by simp) ?_
        refine any_value o6 (l' := #[true, true, true, true, true, true, true, false]) rfl (op_box (vx := .agg (mc gi w4.heap.size (w4.alloc (.chan 1 #[] false 0 0 false)).heap.size)) (by simp [Act.eval_put_ne, Act.eval_put_same, Act.size_put, hsz, he9, he10]) (hmx gi w4.heap.size (w4.alloc (.chan 1 #[] false 0 0 false)).heap.size _)) ?_ AllReady.nil
        refine wpAny_ready (rs := [7]) hr11 (by simp) ?_
        refine any_value o7 (l' := #[true, true, true, true, true, true, true, true]) (v := .pointer (some ⟨((w4.alloc (.chan 1 #[] false 0 0 false)).alloc (.chan 0 #[] false 0 0 false)).heap.size, 0, none⟩)) rfl (op_assign (by simp [Act.eval_put_ne, Act.eval_put_same, Act.size_put, hsz, he9, he10])) ?_ AllReady.nil
        refine wpAny_done hr12 ?_ _
        obtain ⟨h1, h2⟩ := mesh_made hmg (W := w3.heap.size) (gi := gi) (cr := w4.heap.size) (cd := (w4.alloc (.chan 1 #[] false 0 0 false)).heap.size) (w3 := w3) (wx := ((w4.alloc (.chan 1 #[] false 0 0 false)).alloc (.chan 0 #[] false 0 0 false))) rfl (by (repeat (first | exact hg4 | exact heap_alloc_new _ _ | apply keepA | apply keepB hB4))) hgf4 (by (repeat (first | exact hg4 | exact heap_alloc_new _ _ | apply keepA | apply keepB hB4))) (by (repeat (first | exact hg4 | exact heap_alloc_new _ _ | apply keepA | apply keepB hB4))) (by (repeat (first | exact hBd | (refine belowA ?_ rfl _) | (refine belowB ?_ rfl hB4))))
        refine hK _ _ _ gi _ _ ?_ h1 (by (have hs1 := hBd.size; have hs2 := hB4.size; (try simp only [size_alloc] at hs1); (try simp only [size_alloc] at hs2); (try simp only [size_alloc]); omega)) h2
        exact ⟨_, _, _, _, _, _, _, rfl⟩
      exact AllReady.nil
    refine any_value o4 (l' := #[true, true, true, false, true, false, false, false]) rfl (op_mk (mk42 _)) ?_ ?_
    · refine wpAny_ready (rs := [3]) hr6 (by simp) ?_
      refine any_value o3 (l' := #[true, true, true, true, true, false, false, false]) rfl (op_mk (mk41 _)) ?_ ?_
      · refine wpAny_ready (rs := [5]) hr9 (by simp) ?_
        refine any_value o5 (l' := #[true, true, true, true, true, true, false, false]) rfl (op_build3 (vx := .slice (some ⟨gi, 0, none⟩) 3 3) (vy := .chan (some (w4.alloc (.chan 0 #[] false 0 0 false)).heap.size)) (vz := .chan (some w4.heap.size)) (by simp [Act.eval_put_ne, Act.eval_put_same, Act.size_put, hsz, he9, he10]) (by simp [Act.eval_put_ne, Act.eval_put_same, Act.size_put, hsz, he9, he10]) (by simp [Act.eval_put_ne, Act.eval_put_same, Act.size_put, hsz, he9, he10]) (hmb gi (w4.alloc (.chan 0 #[] false 0 0 false)).heap.size w4.heap.size _)) ?_ AllReady.nil
        refine wpAny_ready (rs := [6]) hr10 (by simp) ?_
        refine any_value o6 (l' := #[true, true, true, true, true, true, true, false]) rfl (op_box (vx := .agg (mc gi (w4.alloc (.chan 0 #[] false 0 0 false)).heap.size w4.heap.size)) (by simp [Act.eval_put_ne, Act.eval_put_same, Act.size_put, hsz, he9, he10]) (hmx gi (w4.alloc (.chan 0 #[] false 0 0 false)).heap.size w4.heap.size _)) ?_ AllReady.nil
        refine wpAny_ready (rs := [7]) hr11 (by simp) ?_
        refine any_value o7 (l' := #[true, true, true, true, true, true, true, true]) (v := .pointer (some ⟨((w4.alloc (.chan 0 #[] false 0 0 false)).alloc (.chan 1 #[] false 0 0 false)).heap.size, 0, none⟩)) rfl (op_assign (by simp [Act.eval_put_ne, Act.eval_put_same, Act.size_put, hsz, he9, he10])) ?_ AllReady.nil
        refine wpAny_done hr12 ?_ _
        obtain ⟨h1, h2⟩ := mesh_made hmg (W := w3.heap.size) (gi := gi) (cr := (w4.alloc (.chan 0 #[] false 0 0 false)).heap.size) (cd := w4.heap.size) (w3 := w3) (wx := ((w4.alloc (.chan 0 #[] false 0 0 false)).alloc (.chan 1 #[] false 0 0 false))) rfl (by (repeat (first | exact hg4 | exact heap_alloc_new _ _ | apply keepA | apply keepB hB4))) hgf4 (by (repeat (first | exact hg4 | exact heap_alloc_new _ _ | apply keepA | apply keepB hB4))) (by (repeat (first | exact hg4 | exact heap_alloc_new _ _ | apply keepA | apply keepB hB4))) (by (repeat (first | exact hBd | (refine belowA ?_ rfl _) | (refine belowB ?_ rfl hB4))))
        refine hK _ _ _ gi _ _ ?_ h1 (by (have hs1 := hBd.size; have hs2 := hB4.size; (try simp only [size_alloc] at hs1); (try simp only [size_alloc] at hs2); (try simp only [size_alloc]); omega)) h2
        rw [pcomm _ 43 42 _ _ (by decide)]; exact ⟨_, _, _, _, _, _, _, rfl⟩
      exact AllReady.nil
    exact AllReady.nil
  refine any_value o3 (l' := #[true, true, false, true, false, false, false, false]) rfl (op_mk (mk41 _)) ?_ ?_
  · refine wpAny_ready (rs := [2, 4]) hr3 (by simp) ?_
    refine any_call o2 (l' := #[true, true, true, true, false, false, false, false]) rfl (op_call2 (vx := .int .i64 f) (vy := .pointer (some ⟨bi, 0, none⟩)) Yba.func7 (by kernel_rfl) rfl (by simp [Act.eval_put_ne, Act.eval_put_same, Act.size_put, hsz, he9, he10]) (by simp [Act.eval_put_ne, Act.eval_put_same, Act.size_put, hsz, he9, he10])) (ins_any' f bi _ hf3) ?_ ?_
    · rintro _ w4 ⟨gi, gc, rfl, hg4, hgf4, hB4⟩
      refine wpAny_ready (rs := [4]) hr5 (by simp) ?_
      refine any_value o4 (l' := #[true, true, true, true, true, false, false, false]) rfl (op_mk (mk42 _)) ?_ ?_
      · refine wpAny_ready (rs := [5]) hr9 (by simp) ?_
        refine any_value o5 (l' := #[true, true, true, true, true, true, false, false]) rfl (op_build3 (vx := .slice (some ⟨gi, 0, none⟩) 3 3) (vy := .chan (some wd.heap.size)) (vz := .chan (some w4.heap.size)) (by simp [Act.eval_put_ne, Act.eval_put_same, Act.size_put, hsz, he9, he10]) (by simp [Act.eval_put_ne, Act.eval_put_same, Act.size_put, hsz, he9, he10]) (by simp [Act.eval_put_ne, Act.eval_put_same, Act.size_put, hsz, he9, he10]) (hmb gi wd.heap.size w4.heap.size _)) ?_ AllReady.nil
        refine wpAny_ready (rs := [6]) hr10 (by simp) ?_
        refine any_value o6 (l' := #[true, true, true, true, true, true, true, false]) rfl (op_box (vx := .agg (mc gi wd.heap.size w4.heap.size)) (by simp [Act.eval_put_ne, Act.eval_put_same, Act.size_put, hsz, he9, he10]) (hmx gi wd.heap.size w4.heap.size _)) ?_ AllReady.nil
        refine wpAny_ready (rs := [7]) hr11 (by simp) ?_
        refine any_value o7 (l' := #[true, true, true, true, true, true, true, true]) (v := .pointer (some ⟨(w4.alloc (.chan 0 #[] false 0 0 false)).heap.size, 0, none⟩)) rfl (op_assign (by simp [Act.eval_put_ne, Act.eval_put_same, Act.size_put, hsz, he9, he10])) ?_ AllReady.nil
        refine wpAny_done hr12 ?_ _
        obtain ⟨h1, h2⟩ := mesh_made hmg (W := w3.heap.size) (gi := gi) (cr := wd.heap.size) (cd := w4.heap.size) (w3 := w3) (wx := (w4.alloc (.chan 0 #[] false 0 0 false))) rfl (by (repeat (first | exact hg4 | exact heap_alloc_new _ _ | apply keepA | apply keepB hB4))) hgf4 (by (repeat (first | exact hg4 | exact heap_alloc_new _ _ | apply keepA | apply keepB hB4))) (by (repeat (first | exact hg4 | exact heap_alloc_new _ _ | apply keepA | apply keepB hB4))) (by (repeat (first | exact hBd | (refine belowA ?_ rfl _) | (refine belowB ?_ rfl hB4))))
        refine hK _ _ _ gi _ _ ?_ h1 (by (have hs1 := hBd.size; have hs2 := hB4.size; (try simp only [size_alloc] at hs1); (try simp only [size_alloc] at hs2); (try simp only [size_alloc]); omega)) h2
        rw [pcomm _ 42 41 _ _ (by decide)]; exact ⟨_, _, _, _, _, _, _, rfl⟩
      exact AllReady.nil
    refine any_value o4 (l' := #[true, true, false, true, true, false, false, false]) rfl (op_mk (mk42 _)) ?_ ?_
    · refine wpAny_ready (rs := [2]) hr7 (by simp) ?_
      refine any_call o2 (l' := #[true, true, true, true, true, false, false, false]) rfl (op_call2 (vx := .int .i64 f) (vy := .pointer (some ⟨bi, 0, none⟩)) Yba.func7 (by kernel_rfl) rfl (by simp [Act.eval_put_ne, Act.eval_put_same, Act.size_put, hsz, he9, he10]) (by simp [Act.eval_put_ne, Act.eval_put_same, Act.size_put, hsz, he9, he10])) (ins_any' f bi _ hf3) ?_ ?_
      · rintro _ w4 ⟨gi, gc, rfl, hg4, hgf4, hB4⟩
        refine wpAny_ready (rs := [5]) hr9 (by simp) ?_
        refine any_value o5 (l' := #[true, true, true, true, true, true, false, false]) rfl (op_build3 (vx := .slice (some ⟨gi, 0, none⟩) 3 3) (vy := .chan (some wd.heap.size)) (vz := .chan (some (wd.alloc (.chan 1 #[] false 0 0 false)).heap.size)) (by simp [Act.eval_put_ne, Act.eval_put_same, Act.size_put, hsz, he9, he10]) (by simp [Act.eval_put_ne, Act.eval_put_same, Act.size_put, hsz, he9, he10]) (by simp [Act.eval_put_ne, Act.eval_put_same, Act.size_put, hsz, he9, he10]) (hmb gi wd.heap.size (wd.alloc (.chan 1 #[] false 0 0 false)).heap.size _)) ?_ AllReady.nil
        refine wpAny_ready (rs := [6]) hr10 (by simp) ?_
        refine any_value o6 (l' := #[true, true, true, true, true, true, true, false]) rfl (op_box (vx := .agg (mc gi wd.heap.size (wd.alloc (.chan 1 #[] false 0 0 false)).heap.size)) (by simp [Act.eval_put_ne, Act.eval_put_same, Act.size_put, hsz, he9, he10]) (hmx gi wd.heap.size (wd.alloc (.chan 1 #[] false 0 0 false)).heap.size _)) ?_ AllReady.nil
        refine wpAny_ready (rs := [7]) hr11 (by simp) ?_
        refine any_value o7 (l' := #[true, true, true, true, true, true, true, true]) (v := .pointer (some ⟨w4.heap.size, 0, none⟩)) rfl (op_assign (by simp [Act.eval_put_ne, Act.eval_put_same, Act.size_put, hsz, he9, he10])) ?_ AllReady.nil
        refine wpAny_done hr12 ?_ _
        obtain ⟨h1, h2⟩ := mesh_made hmg (W := w3.heap.size) (gi := gi) (cr := wd.heap.size) (cd := (wd.alloc (.chan 1 #[] false 0 0 false)).heap.size) (w3 := w3) (wx := w4) rfl (by (repeat (first | exact hg4 | exact heap_alloc_new _ _ | apply keepA | apply keepB hB4))) hgf4 (by (repeat (first | exact hg4 | exact heap_alloc_new _ _ | apply keepA | apply keepB hB4))) (by (repeat (first | exact hg4 | exact heap_alloc_new _ _ | apply keepA | apply keepB hB4))) (by (repeat (first | exact hBd | (refine belowA ?_ rfl _) | (refine belowB ?_ rfl hB4))))
        refine hK _ _ _ gi _ _ ?_ h1 (by (have hs1 := hBd.size; have hs2 := hB4.size; (try simp only [size_alloc] at hs1); (try simp only [size_alloc] at hs2); (try simp only [size_alloc]); omega)) h2
        rw [pcomm _ 43 41 _ _ (by decide), pcomm _ 42 41 _ _ (by decide)]; exact ⟨_, _, _, _, _, _, _, rfl⟩
      exact AllReady.nil
    exact AllReady.nil
  refine any_value o4 (l' := #[true, true, false, false, true, false, false, false]) rfl (op_mk (mk42 _)) ?_ ?_
  · refine wpAny_ready (rs := [2, 3]) hr4 (by simp) ?_
    refine any_call o2 (l' := #[true, true, true, false, true, false, false, false]) rfl (op_call2 (vx := .int .i64 f) (vy := .pointer (some ⟨bi, 0, none⟩)) Yba.func7 (by kernel_rfl) rfl (by simp [Act.eval_put_ne, Act.eval_put_same, Act.size_put, hsz, he9, he10]) (by simp [Act.eval_put_ne, Act.eval_put_same, Act.size_put, hsz, he9, he10])) (ins_any' f bi _ hf3) ?_ ?_
    · rintro _ w4 ⟨gi, gc, rfl, hg4, hgf4, hB4⟩
      refine wpAny_ready (rs := [3]) hr6 (by simp) ?_
      refine any_value o3 (l' := #[true, true, true, true, true, false, false, false]) rfl (op_mk (mk41 _)) ?_ ?_
      · refine wpAny_ready (rs := [5]) hr9 (by simp) ?_
        refine any_value o5 (l' := #[true, true, true, true, true, true, false, false]) rfl (op_build3 (vx := .slice (some ⟨gi, 0, none⟩) 3 3) (vy := .chan (some w4.heap.size)) (vz := .chan (some wd.heap.size)) (by simp [Act.eval_put_ne, Act.eval_put_same, Act.size_put, hsz, he9, he10]) (by simp [Act.eval_put_ne, Act.eval_put_same, Act.size_put, hsz, he9, he10]) (by simp [Act.eval_put_ne, Act.eval_put_same, Act.size_put, hsz, he9, he10]) (hmb gi w4.heap.size wd.heap.size _)) ?_ AllReady.nil
        refine wpAny_ready (rs := [6]) hr10 (by simp) ?_
        refine any_value o6 (l' := #[true, true, true, true, true, true, true, false]) rfl (op_box (vx := .agg (mc gi w4.heap.size wd.heap.size)) (by simp [Act.eval_put_ne, Act.eval_put_same, Act.size_put, hsz, he9, he10]) (hmx gi w4.heap.size wd.heap.size _)) ?_ AllReady.nil
        refine wpAny_ready (rs := [7]) hr11 (by simp) ?_
        refine any_value o7 (l' := #[true, true, true, true, true, true, true, true]) (v := .pointer (some ⟨(w4.alloc (.chan 1 #[] false 0 0 false)).heap.size, 0, none⟩)) rfl (op_assign (by simp [Act.eval_put_ne, Act.eval_put_same, Act.size_put, hsz, he9, he10])) ?_ AllReady.nil
        refine wpAny_done hr12 ?_ _
        obtain ⟨h1, h2⟩ := mesh_made hmg (W := w3.heap.size) (gi := gi) (cr := w4.heap.size) (cd := wd.heap.size) (w3 := w3) (wx := (w4.alloc (.chan 1 #[] false 0 0 false))) rfl (by (repeat (first | exact hg4 | exact heap_alloc_new _ _ | apply keepA | apply keepB hB4))) hgf4 (by (repeat (first | exact hg4 | exact heap_alloc_new _ _ | apply keepA | apply keepB hB4))) (by (repeat (first | exact hg4 | exact heap_alloc_new _ _ | apply keepA | apply keepB hB4))) (by (repeat (first | exact hBd | (refine belowA ?_ rfl _) | (refine belowB ?_ rfl hB4))))
        refine hK _ _ _ gi _ _ ?_ h1 (by (have hs1 := hBd.size; have hs2 := hB4.size; (try simp only [size_alloc] at hs1); (try simp only [size_alloc] at hs2); (try simp only [size_alloc]); omega)) h2
        rw [pcomm _ 43 41 _ _ (by decide), pcomm _ 43 42 _ _ (by decide)]; exact ⟨_, _, _, _, _, _, _, rfl⟩
      exact AllReady.nil
    refine any_value o3 (l' := #[true, true, false, true, true, false, false, false]) rfl (op_mk (mk41 _)) ?_ ?_
    · refine wpAny_ready (rs := [2]) hr7 (by simp) ?_
      refine any_call o2 (l' := #[true, true, true, true, true, false, false, false]) rfl (op_call2 (vx := .int .i64 f) (vy := .pointer (some ⟨bi, 0, none⟩)) Yba.func7 (by kernel_rfl) rfl (by simp [Act.eval_put_ne, Act.eval_put_same, Act.size_put, hsz, he9, he10]) (by simp [Act.eval_put_ne, Act.eval_put_same, Act.size_put, hsz, he9, he10])) (ins_any' f bi _ hf3) ?_ ?_
      · rintro _ w4 ⟨gi, gc, rfl, hg4, hgf4, hB4⟩
        refine wpAny_ready (rs := [5]) hr9 (by simp) ?_
        refine any_value o5 (l' := #[true, true, true, true, true, true, false, false]) rfl (op_build3 (vx := .slice (some ⟨gi, 0, none⟩) 3 3) (vy := .chan (some (wd.alloc (.chan 0 #[] false 0 0 false)).heap.size)) (vz := .chan (some wd.heap.size)) (by simp [Act.eval_put_ne, Act.eval_put_same, Act.size_put, hsz, he9, he10]) (by simp [Act.eval_put_ne, Act.eval_put_same, Act.size_put, hsz, he9, he10]) (by simp [Act.eval_put_ne, Act.eval_put_same, Act.size_put, hsz, he9, he10]) (hmb gi (wd.alloc (.chan 0 #[] false 0 0 false)).heap.size wd.heap.size _)) ?_ AllReady.nil
        refine wpAny_ready (rs := [6]) hr10 (by simp) ?_
        refine any_value o6 (l' := #[true, true, true, true, true, true, true, false]) rfl (op_box (vx := .agg (mc gi (wd.alloc (.chan 0 #[] false 0 0 false)).heap.size wd.heap.size)) (by simp [Act.eval_put_ne, Act.eval_put_same, Act.size_put, hsz, he9, he10]) (hmx gi (wd.alloc (.chan 0 #[] false 0 0 false)).heap.size wd.heap.size _)) ?_ AllReady.nil
        refine wpAny_ready (rs := [7]) hr11 (by simp) ?_
        refine any_value o7 (l' := #[true, true, true, true, true, true, true, true]) (v := .pointer (some ⟨w4.heap.size, 0, none⟩)) rfl (op_assign (by simp [Act.eval_put_ne, Act.eval_put_same, Act.size_put, hsz, he9, he10])) ?_ AllReady.nil
        refine wpAny_done hr12 ?_ _
        obtain ⟨h1, h2⟩ := mesh_made hmg (W := w3.heap.size) (gi := gi) (cr := (wd.alloc (.chan 0 #[] false 0 0 false)).heap.size) (cd := wd.heap.size) (w3 := w3) (wx := w4) rfl (by (repeat (first | exact hg4 | exact heap_alloc_new _ _ | apply keepA | apply keepB hB4))) hgf4 (by (repeat (first | exact hg4 | exact heap_alloc_new _ _ | apply keepA | apply keepB hB4))) (by (repeat (first | exact hg4 | exact heap_alloc_new _ _ | apply keepA | apply keepB hB4))) (by (repeat (first | exact hBd | (refine belowA ?_ rfl _) | (refine belowB ?_ rfl hB4))))
        refine hK _ _ _ gi _ _ ?_ h1 (by (have hs1 := hBd.size; have hs2 := hB4.size; (try simp only [size_alloc] at hs1); (try simp only [size_alloc] at hs2); (try simp only [size_alloc]); omega)) h2
        rw [pcomm _ 43 42 _ _ (by decide), pcomm _ 43 41 _ _ (by decide), pcomm _ 42 41 _ _ (by decide)]; exact ⟨_, _, _, _, _, _, _, rfl⟩
      exact AllReady.nil
    exact AllReady.nil
  exact AllReady.nil
end Go.Proofs.Ybulkcxje
