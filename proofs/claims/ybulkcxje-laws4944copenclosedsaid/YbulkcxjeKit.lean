/-
  A slice of 'count' structs (two cells an element) in memory of the call's own, beginning anywhere in its block; append of one element, cutting the head off, deleting one element.
-/
import Derived.Test.YbulkcxjeRows
import Derived.WalkKit
import Derived.ArgAppend
import Derived.Maps.AppendAt
import Derived.Deep.AppendLies
import Derived.Laws.IdiomCopy
import Derived.Lib.SliceRun
namespace Go.Proofs.Ybulkcxje
open Go.RowKit

/-- An element's two cells, by the place in the row of cells. -/
def cellOf (cs : List (Int × Int)) (j : Nat) : Option Value := (cs[j / 2]?).map fun c => if j % 2 = 0 then .int .u64 c.1 else .int .u64 c.2
def pv : List (Int × Int) → List Value
  | [] => []
  | c :: cs => .int .u64 c.1 :: .int .u64 c.2 :: pv cs
theorem pv_length : ∀ cs : List (Int × Int), (pv cs).length = cs.length * 2
  | [] => rfl
  | _ :: cs => by simp [pv, pv_length cs]; omega
theorem pv_get : ∀ (cs : List (Int × Int)) (j : Nat), (pv cs)[j]? = cellOf cs j
  | [], j => by simp [pv, cellOf]
  | c :: cs, 0 => by simp [pv, cellOf]
  | c :: cs, 1 => by simp [pv, cellOf]
  | c :: cs, j + 2 => by
    have e1 : (j + 2) / 2 = j / 2 + 1 := by omega
    have e2 : (j + 2) % 2 = j % 2 := by omega
    simp [pv, pv_get cs j, cellOf, e1, e2]
theorem pv_append : ∀ a b : List (Int × Int), pv (a ++ b) = pv a ++ pv b
  | [], _ => rfl
  | _ :: a, b => by simp [pv, pv_append a b]
theorem pv_one (cs : List (Int × Int)) : ∀ u ∈ pv cs, u.oneCell' = true := by
  induction cs with
  | nil => simp [pv]
  | cons c cs ih =>
    intro u hu
    simp only [pv, List.mem_cons] at hu
    rcases hu with rfl | rfl | hu
    · rfl
    · rfl
    · exact ih u hu
theorem cellOf_lt {cs : List (Int × Int)} {j : Nat} (h : j < cs.length * 2) : ∃ u, cellOf cs j = some u := by
  have hj : j / 2 < cs.length := by omega
  exact ⟨_, by rw [cellOf, List.getElem?_eq_getElem hj]; rfl⟩

/-- The value v leads to the elements cs, in a block of the call's own (from 'base' on). -/
def Own (w : World) (base : Nat) (v : Value) (cs : List (Int × Int)) : Prop :=
  (v = .slice none 0 0 ∧ cs = []) ∨
  ∃ g off cap cur, v = .slice (some ⟨g, off, none⟩) cs.length cap ∧ base ≤ g ∧ w.heap[g]? = some (.cells cur 82 (0, 0)) ∧ cs.length ≤ cap ∧ cap ≤ maxLen ∧ off + cap * 2 ≤ cur.size ∧ ∀ j, j < cs.length * 2 → cur[off + j]? = cellOf cs j

theorem Own.shape {w : World} {base : Nat} {v : Value} {cs : List (Int × Int)} (h : Own w base v cs) : ∃ ao cap, v = .slice ao cs.length cap := by
  rcases h with ⟨rfl, rfl⟩ | ⟨g, off, cap, cur, rfl, _⟩
  · exact ⟨none, 0, rfl⟩
  · exact ⟨_, cap, rfl⟩

theorem Own.lt {w : World} {base : Nat} {v : Value} {cs : List (Int × Int)} (h : Own w base v cs) : ∀ k, v.ownBlock = some k → base ≤ k ∧ k < w.heap.size := by
  intro k hk
  rcases h with ⟨rfl, _⟩ | ⟨g, off, cap, cur, rfl, hb, hg, _⟩
  · simp [Value.ownBlock] at hk
  · simp [Value.ownBlock] at hk
    subst hk
    exact ⟨hb, lt_of_block hg⟩

theorem Own.keep {w w' : World} {base : Nat} {v : Value} {cs : List (Int × Int)} (h : Own w base v cs) (hk : ∀ k, v.ownBlock = some k → w'.heap[k]? = w.heap[k]?) : Own w' base v cs := by
  rcases h with h | ⟨g, off, cap, cur, rfl, hb, hg, r⟩
  · exact .inl h
  · exact .inr ⟨g, off, cap, cur, rfl, hb, by rw [hk g rfl]; exact hg, r⟩

/-- The element's cells as the walk asks them. -/
theorem Own.cells {w : World} {base : Nat} {g off n cap : Nat} {cs : List (Int × Int)} (h : Own w base (.slice (some ⟨g, off, none⟩) n cap) cs) {j : Nat} (hj : j < n * 2) : w.cell? ⟨g, off + j, none⟩ = cellOf cs j := by
  rcases h with ⟨h, _⟩ | ⟨g', off', cap', cur, h, _, hg, _, _, _, hc⟩
  · simp at h
  · simp only [Value.slice.injEq, Option.some.injEq, Addr.mk.injEq, and_true] at h
    obtain ⟨⟨rfl, rfl⟩, rfl, rfl⟩ := h
    rw [cell_of_row w g (off + j) cur 82 (0, 0) hg]
    exact hc j hj

/-- What a store of several cells makes of a row. -/
def putAt : Array Value → Nat → List Value → Array Value
  | cur, _, [] => cur
  | cur, o, v :: vs => putAt (cur.setIfInBounds o v) (o + 1) vs
theorem putAt_size : ∀ (vs : List Value) (cur : Array Value) (o : Nat), (putAt cur o vs).size = cur.size
  | [], _, _ => rfl
  | v :: vs, cur, o => by simp [putAt, putAt_size vs]
theorem putAt_get : ∀ (vs : List Value) (cur : Array Value) (o j : Nat), o + vs.length ≤ cur.size → (putAt cur o vs)[j]? = if o ≤ j ∧ j < o + vs.length then vs[j - o]? else cur[j]?
  | [], cur, o, j, _ => by simp [putAt]; omega
  | v :: vs, cur, o, j, h => by
    simp only [List.length_cons] at h
    rw [putAt, putAt_get vs _ _ _ (by simp; omega)]
    simp only [List.length_cons]
    by_cases h1 : o + 1 ≤ j ∧ j < o + 1 + vs.length
    · rw [if_pos h1, if_pos (by omega)]
      obtain ⟨d, hd⟩ : ∃ d, j - o = d + 1 := ⟨j - o - 1, by omega⟩
      rw [hd, show j - (o + 1) = d by omega]
      simp
    · rw [if_neg h1]
      by_cases h2 : j = o
      · subst h2
        rw [if_pos (by omega)]
        have hlt : j < cur.size := by omega
        simp [hlt]
      · rw [if_neg (by omega), Array.getElem?_setIfInBounds_ne (by omega)]
theorem setCells_heap (g : Nat) (e : TypeId) : ∀ (vs : List Value) (o : Nat) (w : World) (cur : Array Value), w.heap[g]? = some (.cells cur e (0, 0)) → (w.setCells g o vs).heap[g]? = some (.cells (putAt cur o vs) e (0, 0))
  | [], _, _, _, h => h
  | v :: vs, o, w, cur, h => setCells_heap g e vs (o + 1) _ _ (heap_setCell_same w g o cur e v h)
theorem setCells_grown (g : Nat) : ∀ (vs : List Value) (o : Nat) (w : World), w.grownBy (w.setCells g o vs) (some g)
  | [], _, w => World.grownBy.refl w _
  | v :: vs, o, w => by
    have h := setCells_grown g vs (o + 1) (w.setCell ⟨g, o, none⟩ v)
    have hs : (w.setCell ⟨g, o, none⟩ v).heap.size = w.heap.size := by simp [World.setCell]
    exact ⟨h.os, h.tape, h.output, by have := h.size; rw [hs] at this; exact this, fun k hk hne => (h.block k (by rw [hs]; exact hk) hne).trans (heap_setCell_other w ⟨g, o, none⟩ k v (fun e => hne (by rw [e])))⟩

theorem Yba.info82 : (Yba.prog.info? 82).map (fun i => (i.zero, i.size, i.bytes)) = some (some (.agg #[.int .u64 0, .int .u64 0]), 2, 16) := by kernel_rfl

/-- append of one element. -/
theorem run_append_one (w : World) (base : Nat) (ty : TypeId) (v : Value) (cs : List (Int × Int)) (hown : Own w base v cs) (ad : Addr) (c : Nat) (x : Int × Int)
    (h0 : w.cell? (ad.add 0) = some (.int .u64 x.1)) (h1 : w.cell? (ad.add 1) = some (.int .u64 x.2)) (hn : cs.length ≤ 1000000) (hbase : base ≤ w.heap.size) :
    ∃ ao cap w', (Builtin.append_ #[26, 26] ty #[v, .slice (some ad) 1 c]).run Yba.prog w = .ok (.slice ao (cs.length + 1) cap) w' ∧ Own w' base (.slice ao (cs.length + 1) cap) (cs ++ [x]) ∧ w.grownBy w' v.ownBlock ∧
      ((Value.slice ao (cs.length + 1) cap).ownBlock = v.ownBlock ∨ ∃ g, (Value.slice ao (cs.length + 1) cap).ownBlock = some g ∧ w.heap.size ≤ g) := by
  obtain ⟨i0, hi0, hz0, hz1, hz2⟩ := info_parts Yba.info82
  have hnews : ∀ j u, (pv [x])[j]? = some u → w.cell? (ad.add j) = some u := by
    intro j u hu
    match j, hu with
    | 0, hu => simp [pv] at hu; subst hu; exact h0
    | 1, hu => simp [pv] at hu; subst hu; exact h1
    | j + 2, hu => simp [pv] at hu
  rcases hown with ⟨rfl, rfl⟩ | ⟨g, off, cap, cur, rfl, hb, hg, hnc, hcm, hcs, hcell⟩
  · obtain ⟨v', w', hr, h2, h3, _, h5⟩ := run_append_own_at (P := Yba.prog) w base 26 ty 82 i0 _ 2 16 Yba.underlying26 hi0 hz0 hz1 hz2 rfl (by decide) (.slice none 0 0) 0 [] (World.ownsRow_nil _ _ _ _) ad 1 c (pv [x]) rfl hnews (pv_one _) (by unfold maxLen; omega) (by omega) hbase
    rcases h2.2 with ⟨_, h0⟩ | ⟨g, cap, cur, rfl, hb, hg, hnc, hcm, hcs, htake⟩
    · omega
    · refine ⟨_, cap, w', hr, .inr ⟨g, 0, cap, cur, rfl, hb, hg, hnc, hcm, by omega, fun j hj => ?_⟩, h3, h5.imp id (fun h => ⟨_, h, Nat.le_refl _⟩)⟩
      rw [← pv_get, Nat.zero_add]
      have e : (pv [x]) = cur.toList.take ((0 + 1) * 2) := by rw [htake]; rfl
      simp only [List.length_append, List.length_cons, List.length_nil] at hj
      rw [List.nil_append, e, List.getElem?_take, if_pos (by omega), Array.getElem?_toList]
  · by_cases hroom : cs.length + 1 ≤ cap
    · have hfit : ∀ j, j < (pv [x]).length → off + cs.length * i0.size + j < cur.size := by
        intro j hj
        rw [hz1]
        simp [pv] at hj
        omega
      have hr := run_append_room_cells (P := Yba.prog) w 26 ty 82 i0 Yba.underlying26 hi0 g off cs.length cap ad 1 c (pv [x]) (by rw [hz1]; rfl) hnews (pv_one _) hroom
        (fun j hj => by rw [cell_of_row w g _ cur 82 (0, 0) hg, Array.getElem?_eq_getElem (hfit j hj)]; rfl) (fun j hj => frozen_of_row w g _ cur 82 hg)
      rw [hz1] at hr
      refine ⟨_, cap, _, hr, .inr ⟨g, off, cap, putAt cur (off + cs.length * 2) (pv [x]), by simp, hb, setCells_heap g 82 _ _ _ _ hg, by simpa using hroom, hcm, by rw [putAt_size]; exact hcs, fun j hj => ?_⟩, setCells_grown g _ _ w, .inl rfl⟩
      simp only [List.length_append, List.length_cons, List.length_nil] at hj
      rw [putAt_get _ _ _ _ (by simp [pv]; omega), ← pv_get, pv_append]
      simp only [pv_length, List.length_cons, List.length_nil]
      by_cases hj2 : j < cs.length * 2
      · rw [if_neg (by omega), hcell j hj2, List.getElem?_append_left (by rw [pv_length]; exact hj2), pv_get]
      · rw [if_pos (by omega), List.getElem?_append_right (by rw [pv_length]; omega), pv_length]
        rw [show off + j - (off + cs.length * 2) = j - cs.length * 2 by omega]
    · have holds : ∀ j u, (pv cs)[j]? = some u → w.cell? ((⟨g, off, none⟩ : Addr).add j) = some u := by
        intro j u hu
        have hj := (List.getElem?_eq_some_iff.1 hu).1
        rw [pv_length] at hj
        rw [Addr.add_lit, cell_of_row w g _ cur 82 (0, 0) hg, hcell j hj, ← pv_get]
        exact hu
      obtain ⟨v', w', hr, h2, h3⟩ := run_append_arg_grows (P := Yba.prog) w 26 ty 82 i0 _ 2 16 Yba.underlying26 hi0 hz0 hz1 hz2 rfl (by decide) ⟨g, off, none⟩ cs.length cap (pv cs) (pv_length cs) holds ad 1 c (pv [x]) rfl hnews (by omega) (by unfold maxLen; omega) (by omega)
      rcases h2.2 with ⟨_, h0⟩ | ⟨g2, cap2, cur2, rfl, hb2, hg2, hnc2, hcm2, hcs2, htake2⟩
      · omega
      · have hsz := h3.size
        refine ⟨_, cap2, w', hr, .inr ⟨g2, 0, cap2, cur2, by simp, by omega, hg2, by simpa using hnc2, hcm2, by omega, fun j hj => ?_⟩, ⟨h3.os, h3.tape, h3.output, h3.size, fun k hk _ => h3.block k hk (by simp)⟩, ?_⟩
        · simp only [List.length_append, List.length_cons, List.length_nil] at hj
          rw [← pv_get, Nat.zero_add, pv_append, ← htake2, List.getElem?_take, if_pos (by omega), Array.getElem?_toList]
        · exact .inr ⟨g2, rfl, hb2⟩
end Go.Proofs.Ybulkcxje
