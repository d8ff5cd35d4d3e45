/-
  What the law's node has accepted; one batch of it, plainly.
-/
import Derived.Test.YbulkcxhoMap
import Derived.Test.YbulkcxhoSmall
namespace Go.Proofs.Ybulkcxho
open Go.RowKit
set_option linter.unusedSimpArgs false
set_option linter.unusedVariables false

/-- What one batch takes of the slots that are left (c slots and b bytes taken so far), and what it leaves. -/
def chunk (f : Nat → Nat) : List Nat → Nat → Nat → List Nat × List Nat
  | [], _, _ => ([], [])
  | k :: ks, c, b => if 64 ≤ c ∨ 1048576 ≤ b then ([], k :: ks) else (k :: (chunk f ks (c + 1) (b + f k)).1, (chunk f ks (c + 1) (b + f k)).2)

theorem chunk_full (f : Nat → Nat) (k : Nat) (ks : List Nat) {c b : Nat} (h : 64 ≤ c ∨ 1048576 ≤ b) : chunk f (k :: ks) c b = ([], k :: ks) := by rw [chunk, if_pos h]
theorem chunk_take (f : Nat → Nat) (k : Nat) (ks : List Nat) {c b : Nat} (h : ¬ (64 ≤ c ∨ 1048576 ≤ b)) : chunk f (k :: ks) c b = (k :: (chunk f ks (c + 1) (b + f k)).1, (chunk f ks (c + 1) (b + f k)).2) := by rw [chunk, if_neg h]

/-- The slots from j on. -/
def from_ (ks : List Nat) (j : Nat) : List Nat := ks.filter (fun k => decide (j ≤ k))

theorem from_miss {ks : List Nat} {j : Nat} (h : j ∉ ks) : from_ ks j = from_ ks (j + 1) := by
  unfold from_
  refine List.filter_congr fun k hk => ?_
  have : k ≠ j := fun e => h (e ▸ hk)
  exact decide_eq_decide.2 ⟨fun h => by omega, fun h => by omega⟩
theorem from_hit : ∀ {ks : List Nat} {j : Nat}, ks.Pairwise (· < ·) → j ∈ ks → from_ ks j = j :: from_ ks (j + 1)
  | [], _, _, h => by cases h
  | k :: ks, j, hp, h => by
    obtain ⟨h1, h2⟩ := List.pairwise_cons.1 hp
    rcases List.mem_cons.1 h with rfl | h
    · have e1 : from_ ks j = ks := List.filter_eq_self.2 fun x hx => by have := h1 x hx; simp; omega
      have e2 : from_ ks (j + 1) = ks := List.filter_eq_self.2 fun x hx => by have := h1 x hx; simp; omega
      have e3 : from_ (j :: ks) j = j :: from_ ks j := List.filter_cons_of_pos (by simp)
      have e4 : from_ (j :: ks) (j + 1) = from_ ks (j + 1) := List.filter_cons_of_neg (by simp)
      rw [e3, e4, e1, e2]
    · have hlt := h1 j h
      have e3 : from_ (k :: ks) j = from_ ks j := List.filter_cons_of_neg (by simp; omega)
      have e4 : from_ (k :: ks) (j + 1) = from_ ks (j + 1) := List.filter_cons_of_neg (by simp; omega)
      rw [e3, e4]
      exact from_hit h2 h
theorem from_none {ks : List Nat} {j : Nat} (h : ∀ k ∈ ks, k < j) : from_ ks j = [] := List.filter_eq_nil_iff.2 fun x hx => by have := h x hx; simp; omega

/-- An accepted proposal: two cells of a ballot and a value of l bytes in a block of its own. -/
def Elem (w : World) (v : Value) : Prop :=
  ∃ (r : Int) (t : ByteArray) (g l : Nat), v = .agg #[.int .u64 r, .string t, .slice (some ⟨g, 0, none⟩) l l] ∧ l ≤ 65535 ∧
    ∃ cur, w.heap[g]? = some (.cells cur 5 (0, 0)) ∧ ∀ j, j < l → ∃ x : Nat, x < 256 ∧ cur[j]? = some (.int .u8 x)
theorem Elem.keep {w w' : World} {v : Value} (h : Elem w v) (hk : ∀ (g : Nat) cur, w.heap[g]? = some (.cells cur 5 (0, 0)) → w'.heap[g]? = w.heap[g]?) : Elem w' v := by
  obtain ⟨r, t, g, l, h1, h2, cur, h3, h4⟩ := h
  exact ⟨r, t, g, l, h1, h2, cur, (hk g cur h3).trans h3, h4⟩
/-- Its value's length. -/
def lenOf : Value → Nat
  | .agg cs => (match cs.toList with | [_, _, Value.slice _ l _] => l | _ => 0)
  | _ => 0

/-- The accepted map: its slots are ks, ascending. -/
structure Acc (w : World) (mb n : Nat) (M : Nat → Option Value) (ks : List Nat) (la : Nat) : Prop where
  map : MapIs w mb n M
  elem : ∀ k v, M k = some v → Elem w v
  asc : ks.Pairwise (· < ·)
  dom : ∀ k, (M k).isSome = true ↔ k ∈ ks
  top : ∀ k ∈ ks, k ≤ la
  la_le : la ≤ 65535
theorem Acc.keep {w w' : World} {mb n : Nat} {M : Nat → Option Value} {ks : List Nat} {la : Nat} (h : Acc w mb n M ks la) (hk : ∀ j, j < w.heap.size → w'.heap[j]? = w.heap[j]?) : Acc w' mb n M ks la :=
  ⟨h.map.kept (hk _ h.map.lt), fun k v hv => (h.elem k v hv).keep fun g cur hg => hk g (Array.getElem?_eq_some_iff.1 hg).1, h.asc, h.dom, h.top, h.la_le⟩

/-- What slot k counts as. -/
def cnt (M : Nat → Option Value) (vsz k : Nat) : Nat := sz vsz (((M k).map lenOf).getD 0)
/-- A report's cells. -/
def rep (M : Nat → Option Value) (k : Nat) : List Value :=
  .int .u64 k :: (match M k with | some (.agg cs) => cs.toList | _ => [])
end Go.Proofs.Ybulkcxho
