/-
  What the two laws share: a copy by append, the two channels, the mesh made of them.
-/
import Derived.Test.YbulkcxjeMesh
import Derived.Laws.OwnMore
import Derived.Deep.CutRange
import Derived.Conc.SmallLaws
import Derived.Conc.EventLaws
import Derived.Deep.RegionWith
namespace Go.Proofs.Ybulkcxje
open Go.RowKit Go.Conc Go.MuLone
set_option linter.unusedSimpArgs false

/-- append([]count(nil), s...): a row of the call's own. -/
theorem run_append_copy (w : World) (base : Nat) (ty : TypeId) (v : Value) (cs : List (Int × Int)) (n : Nat) (hl : cs.length = n) (hown : Own w base v cs) (hn : n ≤ 8) :
    ∃ ao cap w', (Builtin.append_ #[26, 26] ty #[.slice none 0 0, v]).run Yba.prog w = .ok (.slice ao n cap) w' ∧ Own w' w.heap.size (.slice ao n cap) cs ∧ Below w.heap.size w w' := by
  subst hl
  obtain ⟨i0, hi0, hz0, hz1, hz2⟩ := info_parts Yba.info82
  rcases hown with ⟨rfl, rfl⟩ | ⟨g, off, cap, cur, rfl, hb, hg, hnc, hcm, hcs, hcell⟩
  · exact ⟨none, 0, w, run_append_owned_none (P := Yba.prog) w w.heap.size 26 ty 82 i0 2 Yba.underlying26 hi0 _ 0 [] (World.ownsRow_nil _ _ _ _), .inl ⟨rfl, rfl⟩, Below.refl _ _⟩
  · have hnews : ∀ j u, (pv cs)[j]? = some u → w.cell? ((⟨g, off, none⟩ : Addr).add j) = some u := by
      intro j u hu
      have hj := (List.getElem?_eq_some_iff.1 hu).1
      rw [pv_length] at hj
      rw [Addr.add_lit, cell_of_row w g _ cur 82 (0, 0) hg, hcell j hj, ← pv_get]
      exact hu
    obtain ⟨v', w', hr, h2, h3, _, _⟩ := run_append_own_at (P := Yba.prog) w w.heap.size 26 ty 82 i0 _ 2 16 Yba.underlying26 hi0 hz0 hz1 hz2 rfl (by decide) (.slice none 0 0) 0 [] (World.ownsRow_nil _ _ _ _) ⟨g, off, none⟩ cs.length cap (pv cs) (pv_length cs) hnews (pv_one _) (by unfold maxLen; omega) (by omega) (Nat.le_refl _)
    have ho : Own w' w.heap.size v' cs := own_of_row h2 (by omega)
    obtain ⟨ao, cap', rfl⟩ := ho.shape
    exact ⟨ao, cap', w', hr, ho, ⟨h3.os, h3.tape, h3.output, h3.size, fun k hk => h3.block k hk (by simp [Value.ownBlock])⟩⟩

theorem wpList_append_copy {w : World} {ops : Array Oper} {rest : List Oper} {o : Oper} {a : Act} {Q : Exit → Act → World → Prop} (hgd : o.guard = none) (x : Operand)
    (hop : o.op = Op.call { callee := Callee.builtin Builtin.append, args := #[.const (.slice none 0 0), x], argTypes := #[26, 26] })
    (base : Nat) (v : Value) (cs : List (Int × Int)) (N : Nat) (hN : cs.length = N) (hs : a.eval x = v) (hown : Own w base v cs) (hn : N ≤ 8)
    (hK : ∀ ao cap w', Own w' w.heap.size (.slice ao N cap) cs → Below w.heap.size w w' → wpList Yba.prog ops Q rest (a.put o.dst (.slice ao N cap)) w') : wpList Yba.prog ops Q (o :: rest) a w := by
  refine wpList_plain hgd fun K hK' => ?_
  obtain ⟨ao, cap, w', hr, h2, h3⟩ := run_append_copy w base o.type v cs N hN hown hn
  have hc : a.eval (.const (.slice none 0 0)) = .slice none 0 0 := rfl
  unfold Oper.wp execOp
  simp only [hop, resolve, invoke, builtin, Sem.run_bind, Sem.run_pure, Result.andThen_ok, List.map_toArray, List.map_cons, List.map_nil, hs, hc, hr]
  exact hK' _ _ (hK ao cap w' h2 h3)

theorem bytes76 : ∃ i, Yba.prog.info? 76 = some i ∧ i.bytes = 40 := by
  have h : (Yba.prog.info? 76).map (fun i => i.bytes) = some 40 := by kernel_rfl
  obtain ⟨i, hi, hb⟩ := Option.map_eq_some_iff.1 h
  exact ⟨i, hi, hb⟩
theorem bytes27 : ∃ i, Yba.prog.info? 27 = some i ∧ i.bytes = 0 := by
  have h : (Yba.prog.info? 27).map (fun i => i.bytes) = some 0 := by kernel_rfl
  obtain ⟨i, hi, hb⟩ := Option.map_eq_some_iff.1 h
  exact ⟨i, hi, hb⟩
theorem mk41 (w : World) : (Instr.makeChan 41 (.int .i64 1)).run Yba.prog w = .ok (.chan (some w.heap.size)) (w.alloc (.chan 1 #[] false 0 0 false)) := by
  obtain ⟨i, hi, hb⟩ := bytes76
  simpa using run_makeChan (P := Yba.prog) (w := w) Yba.underlying41 hi .i64 1 (by omega) (by rw [hb]; omega)
theorem mk42 (w : World) : (Instr.makeChan 42 (.int .i64 0)).run Yba.prog w = .ok (.chan (some w.heap.size)) (w.alloc (.chan 0 #[] false 0 0 false)) := by
  obtain ⟨i, hi, hb⟩ := bytes27
  simpa using run_makeChan (P := Yba.prog) (w := w) Yba.underlying42 hi .i64 0 (by omega) (by rw [hb]; omega)
theorem built71 (gi cr cd : Nat) : (Yba.prog.built 71 [(19, .slice (some ⟨gi, 0, none⟩) 3 3), (13, .chan (some cr)), (14, .chan (some cd))]).map (fun c => (c[28]?, c[20]?, c[21]?)) = some (some (.slice (some ⟨gi, 0, none⟩) 3 3), some (.chan (some cr)), some (.chan (some cd))) := by kernel_rfl
theorem mesh_build : ∃ mc : Nat → Nat → Nat → Array Value, (∀ gi cr cd w, (Instr.build 71 #[(19, .slice (some ⟨gi, 0, none⟩) 3 3), (13, .chan (some cr)), (14, .chan (some cd))]).run Yba.prog w = .ok (.agg (mc gi cr cd)) w) ∧
    (∀ gi cr cd w, (Instr.box 71 (.agg (mc gi cr cd))).run Yba.prog w = .ok (.pointer (some ⟨w.heap.size, 0, none⟩)) (w.alloc (.cells (mc gi cr cd) 71))) ∧
    ∀ gi cr cd, (mc gi cr cd)[28]? = some (.slice (some ⟨gi, 0, none⟩) 3 3) ∧ (mc gi cr cd)[20]? = some (.chan (some cr)) ∧ (mc gi cr cd)[21]? = some (.chan (some cd)) := by
  refine ⟨fun gi cr cd => (Yba.prog.built 71 [(19, .slice (some ⟨gi, 0, none⟩) 3 3), (13, .chan (some cr)), (14, .chan (some cd))]).getD #[], fun gi cr cd w => run_build w 71 _ _ ?_, fun gi cr cd w => ?_, fun gi cr cd => ?_⟩
  · obtain ⟨c, hc, _⟩ := Option.map_eq_some_iff.1 (built71 gi cr cd)
    simp only [hc, Option.getD_some]
  · simp [Instr.box, newVar, newRow, Value.cells]
  · obtain ⟨c, hc, he⟩ := Option.map_eq_some_iff.1 (built71 gi cr cd)
    simp only [Prod.mk.injEq] at he
    simpa only [hc, Option.getD_some] using he
end Go.Proofs.Ybulkcxje
