import Derived.Test.YbulkcxjeFind
import Derived.Deep.RegionLaw
namespace Go.Proofs.Ybulkcxje
open Go.RowKit

theorem step_append_cut {w : World} {ops : Array Oper} {o : Oper} {a : Act} {K : Act → World → Prop} {Q : Exit → Act → World → Prop} {E : Prop}
    (hg : o.guard = none) (s x : Operand) (hop : o.op = Op.call { callee := Callee.builtin Builtin.append, args := #[s, x], argTypes := #[26, 26] })
    (b off n cap : Nat) (hs : a.eval s = .slice (some ⟨b, off, none⟩) n cap)
    (ad : Addr) (m c : Nat) (news : List Value) (hx : a.eval x = .slice (some ad) m c) (hn : news.length = m * 2) (hc : ∀ j u, news[j]? = some u → w.cell? (ad.add j) = some u) (h1c : ∀ u ∈ news, u.oneCell' = true)
    (N : Nat) (hN : n + m = N) (hroom : N ≤ cap) (hspare : ∀ j, j < news.length → (w.cell? ⟨b, off + n * 2 + j, none⟩).isSome = true ∧ w.frozen? ⟨b, off + n * 2 + j, none⟩ = false)
    (hK : K (a.put o.dst (.slice (some ⟨b, off, none⟩) N cap)) (w.setCells b (off + n * 2) news)) :
    if Region.wanted o (yielded ops a.tmps) = true then Oper.wp Yba.prog o a w K Q else E := by
  obtain ⟨i0, hi0, hz0, hz1, hz2⟩ := info_parts Yba.info82
  subst hN
  exact step_append_room hg s x 26 hop 82 i0 2 Yba.underlying26 hi0 hz1 b off n cap hs ad m c news hx hn hc h1c hroom hspare hK

theorem zero82 (w : World) : (zeroValue 82).run Yba.prog w = .ok (.agg #[.int .u64 0, .int .u64 0]) w := by kernel_rfl

theorem run_clear_one (w : World) (ty : TypeId) (b o c : Nat) (hs : ∀ j, j < 2 → (w.cell? ⟨b, o + j, none⟩).isSome = true) (hf : ∀ j, j < 2 → w.frozen? ⟨b, o + j, none⟩ = false) :
    (Builtin.clear_ #[26] ty #[.slice (some ⟨b, o, none⟩) 1 c]).run Yba.prog w = .ok (.tuple #[]) (w.setCells b o [.int .u64 0, .int .u64 0]) := by
  have hst := run_storeCells_cells (P := Yba.prog) b o [.int .u64 0, .int .u64 0] 0 w (by simpa using hs) (by simpa using hf) (by intro u hu; simp at hu; subst hu; rfl)
  simp only [Nat.add_zero] at hst
  have hz : (Builtin.zeroCells #[Value.int .u64 0, .int .u64 0] 1).toList = [.int .u64 0, .int .u64 0] := by simp [Builtin.zeroCells, List.range, List.range.loop]
  simp [Builtin.clear_, run_underlying Yba.underlying26, Value.cells, hz, hst]

theorem wpList_clear {w : World} {ops : Array Oper} {rest : List Oper} {o : Oper} {a : Act} {Q : Exit → Act → World → Prop} (hgd : o.guard = none) (s : Operand)
    (ho : o.op = .call { callee := .builtin .clear, args := #[s], argTypes := #[26] }) (b off n c : Nat) (hsl : a.eval s = .slice (some ⟨b, off, none⟩) n c) (hn : n = 1)
    (hs : ∀ j, j < 2 → (w.cell? ⟨b, off + j, none⟩).isSome = true) (hf : ∀ j, j < 2 → w.frozen? ⟨b, off + j, none⟩ = false)
    (h : wpList Yba.prog ops Q rest (a.put o.dst (.tuple #[])) (w.setCells b off [.int .u64 0, .int .u64 0])) : wpList Yba.prog ops Q (o :: rest) a w := by
  subst hn
  refine wpList_plain hgd fun K hK => ?_
  have hr := run_clear_one w o.type b off c hs hf
  unfold Oper.wp execOp
  simp only [ho, resolve, invoke, builtin, Sem.run_bind, Sem.run_pure, Result.andThen_ok, List.map_toArray, List.map_cons, List.map_nil, hsl, hr]
  exact hK _ _ h

theorem cellOf_erase (cs : List (Int × Int)) (i j : Nat) : cellOf (cs.eraseIdx i) j = if j < i * 2 then cellOf cs j else cellOf cs (j + 2) := by
  simp only [cellOf, List.getElem?_eraseIdx]
  by_cases h : j < i * 2
  · rw [if_pos h, if_pos (by omega)]
  · rw [if_neg h, if_neg (by omega), show (j + 2) / 2 = j / 2 + 1 by omega, show (j + 2) % 2 = j % 2 by omega]

/-- The row behind the move and the clearing. -/
theorem deleted {w : World} {g off m cap i base : Nat} {cs : List (Int × Int)} {cur : Array Value} (hl : cs.length = m + 1) (hi : i ≤ m) (hown : Own w base (.slice (some ⟨g, off, none⟩) (m + 1) cap) cs) (hg : w.heap[g]? = some (.cells cur 82 (0, 0))) (hc : off + cap * 2 ≤ cur.size) :
    Own ((w.drew.setCells g (off + i * 2) (pv (cs.drop (i + 1)))).setCells g (off + m * 2) [.int .u64 0, .int .u64 0]) base (.slice (some ⟨g, off, none⟩) m cap) (cs.eraseIdx i) ∧
    w.grownBy ((w.drew.setCells g (off + i * 2) (pv (cs.drop (i + 1)))).setCells g (off + m * 2) [.int .u64 0, .int .u64 0]) (some g) := by
  have hlen : (cs.eraseIdx i).length = m := by rw [List.length_eraseIdx]; simp only [hl]; rw [if_pos (by omega)]; omega
  rcases hown with ⟨h, _⟩ | ⟨g', off', cap', cur', h, hb, hg', h3, h4, h5, hcell⟩
  · simp at h
  simp only [Value.slice.injEq, Option.some.injEq, Addr.mk.injEq, and_true] at h
  obtain ⟨⟨rfl, rfl⟩, _, rfl⟩ := h
  have hcc : cur' = cur := by rw [hg] at hg'; simpa using hg'.symm
  subst hcc
  have hpl : (pv (cs.drop (i + 1))).length = (m - i) * 2 := by rw [pv_length, List.length_drop]; omega
  refine ⟨.inr ⟨g, off, cap, _, by rw [hlen], hb, setCells_heap g 82 _ _ _ _ (setCells_heap g 82 _ _ _ _ hg'), by omega, h4, by rw [putAt_size, putAt_size]; exact hc, fun j hj => ?_⟩, ?_⟩
  · rw [hlen] at hj
    rw [putAt_get _ _ _ _ (by rw [putAt_size]; simp; omega), if_neg (by simp; omega), putAt_get _ _ _ _ (by rw [hpl]; omega), cellOf_erase, hpl]
    by_cases hj2 : j < i * 2
    · rw [if_neg (by omega), if_pos hj2]
      exact hcell j (by omega)
    · rw [if_pos (by omega), if_neg hj2, pv_get]
      simp only [cellOf, List.getElem?_drop]
      rw [show i + 1 + (off + j - (off + i * 2)) / 2 = (j + 2) / 2 by omega, show (off + j - (off + i * 2)) % 2 = (j + 2) % 2 by omega]
  · have h1 := setCells_grown g (pv (cs.drop (i + 1))) (off + i * 2) w.drew
    have h2 := setCells_grown g [.int .u64 0, .int .u64 0] (off + m * 2) (w.drew.setCells g (off + i * 2) (pv (cs.drop (i + 1))))
    exact ⟨h2.os.trans h1.os, h2.tape.trans h1.tape, h2.output.trans h1.output, Nat.le_trans h1.size h2.size, fun k hk hne => (h2.block k (Nat.lt_of_lt_of_le hk h1.size) hne).trans (h1.block k hk hne)⟩

set_option maxHeartbeats 400000 in
set_option maxRecDepth 100000 in
theorem delete_any (g off m cap i base : Nat) (cs : List (Int × Int)) (w : World) (hl : cs.length = m + 1) (hi : i ≤ m) (hm : m ≤ 1000000) (hown : Own w base (.slice (some ⟨g, off, none⟩) (m + 1) cap) cs) :
    Calls Yba.prog 18 #[.slice (some ⟨g, off, none⟩) (m + 1) cap, .int .i64 i, .int .i64 ((i : Int) + 1)] w fun e w' => e = .returned (.slice (some ⟨g, off, none⟩) m cap) ∧ Own w' base (.slice (some ⟨g, off, none⟩) m cap) (cs.eraseIdx i) ∧ w.grownBy w' (some g) := by
  have hcapN : m + 1 ≤ cap ∧ cap ≤ maxLen := by
    rcases hown with ⟨h, _⟩ | ⟨g', off', cap', cur, h, _, _, h3, h4, _⟩
    · simp at h
    · simp at h; omega
  obtain ⟨hcap, hcapm⟩ := hcapN
  unfold maxLen at hcapm
  have h1 : (0 : Int) ≤ (i : Int) + 1 := by omega
  have h2 : (i : Int) + 1 ≤ (m : Int) + 1 := by omega
  have h3 : ((i : Int) + 1).toNat = i + 1 := by omega
  have h4 : ((i : Int) == (i : Int) + 1) = false := by simp; omega
  have hic : i ≤ cap := by omega
  have HL : Hid (cs.length = m + 1) := hl
  have HO : Hid (Own w base (.slice (some ⟨g, off, none⟩) (m + 1) cap) cs) := hown
  obtain ⟨cur, hgc, hcur⟩ : ∃ cur, w.heap[g]? = some (.cells cur 82 (0, 0)) ∧ off + cap * 2 ≤ cur.size := by
    rcases hown with ⟨h, _⟩ | ⟨g', off', cap', cur, h, _, hg, _, _, h5, _⟩
    · simp at h
    · simp only [Value.slice.injEq, Option.some.injEq, Addr.mk.injEq, and_true] at h
      obtain ⟨⟨rfl, rfl⟩, _, rfl⟩ := h
      exact ⟨cur, hg, h5⟩
  obtain ⟨A, hA, hnews⟩ : ∃ A : Addr, (if cap = i + 1 then some (⟨g, off, none⟩ : Addr) else some ⟨g, off + (i + 1) * 2, none⟩) = some A ∧ Hid (∀ j u, (pv (cs.drop (i + 1)))[j]? = some u → w.drew.cell? (A.add j) = some u) := by
    by_cases h : cap = i + 1
    · refine ⟨⟨g, off, none⟩, by simp [h], fun j u hu => ?_⟩
      have h0 : cs.drop (i + 1) = [] := List.drop_of_length_le (by omega)
      rw [h0] at hu
      simp [pv] at hu
    · refine ⟨⟨g, off + (i + 1) * 2, none⟩, by simp [h], fun j u hu => ?_⟩
      have hj := (List.getElem?_eq_some_iff.1 hu).1
      rw [pv_length, List.length_drop] at hj
      rw [Addr.add_lit]
      show w.cell? _ = _
      rw [show off + (i + 1) * 2 + j = off + ((i + 1) * 2 + j) by omega, hown.cells (by omega)]
      rw [pv_get] at hu
      rw [← hu]
      simp only [cellOf, List.getElem?_drop]
      rw [show ((i + 1) * 2 + j) / 2 = i + 1 + j / 2 by omega, show ((i + 1) * 2 + j) % 2 = j % 2 by omega]
  have s1 : Hid ((pv (cs.drop (i + 1))).length = (m - i) * 2) := by show _ = _; rw [pv_length, List.length_drop]; omega
  have s2 : Hid (∀ j, j < (pv (cs.drop (i + 1))).length → (w.drew.cell? ⟨g, off + i * 2 + j, none⟩).isSome = true ∧ w.drew.frozen? ⟨g, off + i * 2 + j, none⟩ = false) := by
    intro j hj
    rw [s1.out] at hj
    constructor
    · show (w.cell? _).isSome = true
      rw [cell_of_row w g _ cur 82 (0, 0) hgc, Array.getElem?_eq_getElem (by omega)]
      rfl
    · exact frozen_of_row w g _ cur 82 hgc
  have HG : Hid (w.heap[g]? = some (.cells cur 82 (0, 0))) := hgc
  have HC : Hid (off + cap * 2 ≤ cur.size) := hcur
  clear hgc hown hl hcur
  go_enter Yba.func18, Yba.ntmps18
  go_wp2_with fail
  go_region_law (refine step_append_cut rfl (.tmp 22) (.tmp 25) rfl g off i cap (by simp [Act.eval, Act.put]) A (m - i) (cap - (i + 1)) (pv (cs.drop (i + 1))) (by simp [Act.eval, Act.put]) s1.out hnews.out (pv_one _) m (by omega) (by omega) s2.out ?_)
  have hD := deleted HL.out hi HO.out HG.out HC.out
  have hcl : Hid (∀ j, j < 2 → ((w.drew.setCells g (off + i * 2) (pv (cs.drop (i + 1)))).cell? ⟨g, off + m * 2 + j, none⟩).isSome = true) := by
    intro j hj
    rw [cell_of_row (w.drew.setCells g (off + i * 2) (pv (cs.drop (i + 1)))) g _ _ 82 (0, 0) (setCells_heap g 82 _ _ w.drew _ HG.out), Array.getElem?_eq_getElem (by rw [putAt_size]; have := HC.out; omega)]
    rfl
  have hfl : Hid (∀ j, j < 2 → (w.drew.setCells g (off + i * 2) (pv (cs.drop (i + 1)))).frozen? ⟨g, off + m * 2 + j, none⟩ = false) := by
    intro j hj
    exact frozen_of_row _ g _ _ 82 (setCells_heap g 82 _ _ w.drew _ HG.out)
  have hcm : ¬ cap = m := by omega
  have hmc : m ≤ cap := by omega
  generalize w.drew.setCells g (off + i * 2) (pv (cs.drop (i + 1))) = w3 at *
  clear HO HG HC hnews s1 s2 hA
  go_wp2_with (refine wpList_clear rfl (.tmp 31) rfl g (off + m * 2) _ _ rfl (by omega) hcl.out hfl.out ?_)
  go_ret
  exact ⟨rfl, hD⟩
end Go.Proofs.Ybulkcxje
