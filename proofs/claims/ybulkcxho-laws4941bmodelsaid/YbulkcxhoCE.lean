/-
  slices.Compact and slices.Equal at []uint64: the shelf's contracts laid at this program.
-/
import Derived.Test.YbulkcxhoRow
import Derived.Test.YbulkcxhoShelf
namespace Go.Proofs.Ybulkcxho
open Go.RowKit Go.Sort Go.Lib
set_option linter.unusedSimpArgs false
set_option linter.unusedVariables false

theorem Turn.putRow (blk off q : Nat) (w : World) (d : Array Int) : Turn blk w (putRow (Value.int .u64) (Sort.ahead w q) blk off d) :=
  ⟨rfl, rfl, rfl, by simp [Sort.ahead], fun k hk hne => by
    unfold Sort.putRow mapBlock
    simp only [Sort.ahead, Array.getElem?_modify]
    rw [if_neg (fun e => hne (by rw [e]))]⟩

/-- Compact: what is kept lies ahead in the row. -/
theorem compact64 (blk cap : Nat) (d : Array Int) (w : World) (hR : RowAt w blk 0 d) (hsz : d.size ≤ 1024) (hcap : d.size ≤ cap) :
    Calls Yba.prog 11 #[.slice (some ⟨blk, 0, none⟩) d.size cap] w fun e w' => e = .returned (.slice (some ⟨blk, 0, none⟩) (compactUpTo d d.size).length cap) ∧
      (∀ t, t < (compactUpTo d d.size).length → w'.cell? ⟨blk, t, none⟩ = some (.int .u64 (compactUpTo d d.size)[t]!)) ∧ Turn blk w w' := by
  have hH : Holds (Value.int .u64) w blk 0 d := fun j hj => ⟨hR.cell hj, hR.fz _⟩
  have hc := Yba.slices_Compact (Value.int .u64) (fun _ => rfl) (EqlAt.intD _ _ .u64) (NeqAt.intD _ _ .u64) 0 Yba.zeroValue23 blk 0 cap d w hH (by omega) hcap
  refine hc.mono ?_
  rintro e w' ⟨rfl, q, rfl⟩
  have hle : (compactUpTo d d.size).length ≤ d.size := by
    unfold compactUpTo
    rw [List.length_map]
    exact Nat.le_trans (List.length_filter_le _ _) (by simp)
  refine ⟨rfl, fun t ht => ?_, Turn.putRow _ _ _ _ _⟩
  have hs : (compactUpTo d d.size ++ List.replicate (d.size - (compactUpTo d d.size).length) 0).toArray.size = d.size := by simp; omega
  have h2 := cell?_putRow (Value.int .u64) (Sort.ahead w q) blk 0 d _ (fun j hj => hH j hj) hs t (by rw [hs]; omega)
  rw [Nat.zero_add] at h2
  rw [h2]
  congr 2
  simp only [List.getElem!_eq_getElem?_getD, Array.getElem!_eq_getD, Array.getD_eq_getD_getElem?, List.getElem?_toArray]
  rw [List.getElem?_append_left ht]

theorem compact_plain (d : Array Int) (N : Nat) (hs : SortedIn ltInt 0 N d) : ∀ m, m ≤ N → (compactUpTo d m).Pairwise (· < ·) ∧ ∀ x, x ∈ compactUpTo d m ↔ ∃ j, j < m ∧ d[j]! = x := by
  intro m
  induction m with
  | zero => intro _; simp [compactUpTo]
  | succ m ih =>
    intro hm
    obtain ⟨h1, h2⟩ := ih (by omega)
    rw [compactUpTo_succ]
    by_cases hk : keeps d m = true
    · rw [if_pos hk]
      refine ⟨List.pairwise_append.2 ⟨h1, by simp, ?_⟩, ?_⟩
      · intro x hx y hy
        obtain rfl := List.mem_singleton.1 hy
        obtain ⟨j, hj, rfl⟩ := (h2 x).1 hx
        simp only [keeps, decide_eq_true_eq] at hk
        have hne : d[m]! ≠ d[m - 1]! := by rcases hk with h | h; · omega
                                           · exact h
        have e1 : ltInt d[m]! d[m - 1]! = false := hs (m - 1) m (by omega) (by omega) (by omega)
        have e2 : ¬ d[m]! < d[m - 1]! := by simpa [ltInt] using e1
        rcases Nat.lt_or_ge j (m - 1) with h | h
        · have e3 : ltInt d[m - 1]! d[j]! = false := hs j (m - 1) (by omega) h (by omega)
          have e4 : ¬ d[m - 1]! < d[j]! := by simpa [ltInt] using e3
          omega
        · have : j = m - 1 := by omega
          subst this
          omega
      · intro x
        rw [List.mem_append, h2 x, List.mem_singleton]
        constructor
        · rintro (⟨j, hj, e⟩ | rfl)
          · exact ⟨j, by omega, e⟩
          · exact ⟨m, by omega, rfl⟩
        · rintro ⟨j, hj, e⟩
          rcases Nat.lt_or_ge j m with h | h
          · exact Or.inl ⟨j, h, e⟩
          · have : j = m := by omega
            subst this
            exact Or.inr e.symm
    · rw [if_neg hk, List.append_nil]
      refine ⟨h1, fun x => ?_⟩
      simp only [keeps, decide_eq_true_eq, not_or, Decidable.not_not] at hk
      rw [h2 x]
      constructor
      · rintro ⟨j, hj, e⟩; exact ⟨j, by omega, e⟩
      · rintro ⟨j, hj, e⟩
        rcases Nat.lt_or_ge j m with h | h
        · exact ⟨j, h, e⟩
        · have : j = m := by omega
          subst this
          exact ⟨j - 1, by omega, by rw [← hk.2]; exact e⟩

/-- Equal at two rows that hold the same. -/
theorem equal64 (xs : List Nat) (b1 c1 b2 c2 : Nat) (w : World) (hl : xs.length ≤ 1024) (h1 : ∀ j, j < xs.length → w.cell? ⟨b1, j, none⟩ = some (.int .u64 (xs[j]! : Nat))) (h2 : ∀ j, j < xs.length → w.cell? ⟨b2, j, none⟩ = some (.int .u64 (xs[j]! : Nat))) :
    Calls Yba.prog 9 #[.slice (some ⟨b1, 0, none⟩) xs.length c1, .slice (some ⟨b2, 0, none⟩) xs.length c2] w fun e w' => e = .returned (.bool true) ∧ ∃ q, w' = w.drewN q := by
  have e : ∀ j, j < (xs.map (fun x : Nat => (x : Int))).length → (xs.map (fun x : Nat => (x : Int)))[j]! = (xs[j]! : Nat) := fun j hj => by
    rw [List.length_map] at hj
    rw [getElem!_pos _ j (by simpa using hj), getElem!_pos xs j hj]
    simp
  have hc := Yba.slices_Equal (Value.int .u64) _ (NeqAt.int _ _ .u64) b1 0 xs.length c1 b2 0 xs.length c2 (xs.map (fun x : Nat => (x : Int))) (xs.map (fun x : Nat => (x : Int))) w (by simp) (by simp) (by omega) (by omega)
    (fun j hj => by rw [e j hj, Nat.zero_add]; exact h1 j (by simpa using hj)) (fun j hj => by rw [e j hj, Nat.zero_add]; exact h2 j (by simpa using hj))
  refine hc.mono ?_
  rintro e w' ⟨rfl, q, rfl⟩
  refine ⟨?_, q, rfl⟩
  rw [allEq_all _ _ _ rfl (fun j hj => by simp)]
end Go.Proofs.Ybulkcxho
