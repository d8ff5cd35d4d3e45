/-
  The map[uint64]Proposal: what a look-up gives, what a store leaves. An element is read as the value that it is.
-/
import Derived.Test.YbulkcxhoRows
import Derived.WalkKit
import Derived.Maps.OwnSet
namespace Go.Proofs.Ybulkcxho
open Go.RowKit
set_option linter.unusedSimpArgs false
set_option linter.unusedVariables false

/-- An element as it is. -/
def asIs (v : Value) : Option (DataW Value × List MemPlace) := some (.held v, [])
/-- Block b is a map of at most n entries, and M tells its elements. -/
def MapIs (w : World) (b n : Nat) (M : Nat → Option Value) : Prop :=
  ∃ D, w.ownsMap Yba.prog 23 asIs b n D ∧ ∀ k : Nat, k < 18446744073709551616 → Maps.has D (.int .u64 k) = (M k).isSome ∧ ∀ v, M k = some v → ∀ z, D.atKey (.int .u64 k) z = .held v

theorem keyed23 : Maps.Keyed Yba.prog 23 := Maps.int_keyed Yba.underlying23
theorem wf64 {k : Nat} (h : k < 18446744073709551616) : (Lit.int .u64 k).wf = true := by
  have h1 : (0 : Int) ≤ k := by omega
  have h2 : (k : Int) < 18446744073709551616 := by omega
  have e1 : IntKind.u64.min = 0 := by decide
  have e2 : IntKind.u64.max = 18446744073709551615 := by decide
  simp only [Lit.wf, Bool.and_eq_true, decide_eq_true_eq, e1, e2]
  omega

theorem MapIs.lt {w : World} {b n : Nat} {M : Nat → Option Value} (h : MapIs w b n M) : b < w.heap.size := by
  obtain ⟨D, h1, _⟩ := h
  exact h1.lt
theorem MapIs.kept {w w' : World} {b n : Nat} {M : Nat → Option Value} (h : MapIs w b n M) (hk : w'.heap[b]? = w.heap[b]?) : MapIs w' b n M := by
  obtain ⟨D, ⟨es, clock, hb, r⟩, h2⟩ := h
  exact ⟨D, ⟨es, clock, hk.trans hb, r⟩, h2⟩
theorem MapIs.made (w : World) : MapIs (w.alloc (.map #[] 0)) w.heap.size 0 (fun _ => none) :=
  ⟨.map [], World.ownsMap_made w _ _ _, fun k _ => ⟨rfl, fun v h => by cases h⟩⟩

theorem MapIs.look {w : World} {b n : Nat} {M : Nat → Option Value} (h : MapIs w b n M) {z : Value} (hz : (zeroValue 36).run Yba.prog w = .ok z w) {k : Nat} (hk : k < 18446744073709551616) :
    (Instr.lookup 28 (.map (some b)) (.int .u64 k) false).run Yba.prog w = .ok ((M k).getD z) w := by
  obtain ⟨D, h1, h2⟩ := h
  obtain ⟨v, ps, hrun, hv⟩ := h1.lookup keyed23 Yba.underlying28 hz (zd := .held z) (zp := []) rfl (Maps.keyOf_int_mk Yba.underlying23 (wf64 hk))
  obtain ⟨e1, e2⟩ := h2 k hk
  rw [hrun]
  cases hm : M k with
  | none =>
    rw [hm] at e1
    rw [Maps.atKey_of_not_has e1] at hv
    simp only [asIs, Option.some.injEq, Prod.mk.injEq, DataW.held.injEq] at hv
    rw [hv.1]; rfl
  | some u =>
    rw [e2 u hm] at hv
    simp only [asIs, Option.some.injEq, Prod.mk.injEq, DataW.held.injEq] at hv
    rw [hv.1]; rfl

theorem MapIs.look2 {w : World} {b n : Nat} {M : Nat → Option Value} (h : MapIs w b n M) {z : Value} (hz : (zeroValue 36).run Yba.prog w = .ok z w) {k : Nat} (hk : k < 18446744073709551616) :
    (Instr.lookup 28 (.map (some b)) (.int .u64 k) true).run Yba.prog w = .ok (.tuple #[(M k).getD z, .bool (M k).isSome]) w := by
  obtain ⟨D, h1, h2⟩ := h
  obtain ⟨v, ps, hrun, hv⟩ := h1.look_ok keyed23 Yba.underlying28 hz (zd := .held z) (zp := []) rfl (Maps.keyOf_int_mk Yba.underlying23 (wf64 hk))
  obtain ⟨e1, e2⟩ := h2 k hk
  rw [hrun, e1]
  cases hm : M k with
  | none =>
    rw [hm] at e1
    rw [Maps.atKey_of_not_has e1] at hv
    simp only [asIs, Option.some.injEq, Prod.mk.injEq, DataW.held.injEq] at hv
    rw [hv.1]; rfl
  | some u =>
    rw [e2 u hm] at hv
    simp only [asIs, Option.some.injEq, Prod.mk.injEq, DataW.held.injEq] at hv
    rw [hv.1]; rfl

/-- The map behind 'm[k] = v'. -/
def setAt (M : Nat → Option Value) (k : Nat) (v : Value) : Nat → Option Value := fun j => if j = k then some v else M j

theorem MapIs.put {w : World} {b n : Nat} {M : Nat → Option Value} (h : MapIs w b n M) (hn : n < maxLen) {k : Nat} (hk : k < 18446744073709551616) (v : Value) :
    ∃ w', (Instr.mapUpdate 28 (.map (some b)) (.int .u64 k) v).run Yba.prog w = .ok () w' ∧ MapIs w' b (n + 1) (setAt M k v) ∧ w.grownBy w' (some b) := by
  obtain ⟨D, h1, h2⟩ := h
  obtain ⟨w', hrun, r1, r2⟩ := h1.update keyed23 Yba.underlying28 hn (Maps.keyOf_int_mk Yba.underlying23 (wf64 hk)) (val := v) (d := .held v) (ps := []) rfl
  refine ⟨w', hrun, ⟨_, r1, fun j hj => ?_⟩, r2⟩
  by_cases e : j = k
  · subst e
    refine ⟨by rw [Maps.has_put_same h1.isMap (k := .int .u64 j) trivial]; simp [setAt], fun u hu z => ?_⟩
    simp only [setAt, if_true, Option.some.injEq] at hu
    rw [Maps.atKey_put_same h1.isMap (k := .int .u64 j) trivial, hu]
  · have hne : Lit.int .u64 (j : Int) ≠ Lit.int .u64 (k : Int) := fun h => e (by simp only [Lit.int.injEq, true_and] at h; omega)
    obtain ⟨e1, e2⟩ := h2 j hj
    refine ⟨by rw [Maps.has_put_other hne, e1]; simp [setAt, e], fun u hu z => ?_⟩
    simp only [setAt, if_neg e] at hu
    rw [Maps.atKey_put_other hne, e2 u hu z]

theorem wpList_put (w : World) {ops : Array Oper} {rest : List Oper} {o : Oper} {a : Act} {Q : Exit → Act → World → Prop}
    (hg : o.guard = none) (m x v : Operand) (hop : o.op = Op.mapUpdate 28 m x v) (b n : Nat) (M : Nat → Option Value)
    (hm : a.eval m = .map (some b)) (h : MapIs w b n M) (hn : n < maxLen) (k : Nat) (hk : k < 18446744073709551616) (val : Value) (hx : a.eval x = .int .u64 k) (hv : a.eval v = val)
    (hK : ∀ w', MapIs w' b (n + 1) (setAt M k val) → w.grownBy w' (some b) → wpList Yba.prog ops Q rest (a.put o.dst undef) w') :
    wpList Yba.prog ops Q (o :: rest) a w := by
  refine wpList_plain hg fun K' hK' => ?_
  obtain ⟨w', hrun, r1, r2⟩ := h.put hn hk val
  unfold Oper.wp
  simp [execOp, hop, hm, hx, hv, hrun, Result.andThen]
  exact hK' _ _ (hK w' r1 r2)
end Go.Proofs.Ybulkcxho
