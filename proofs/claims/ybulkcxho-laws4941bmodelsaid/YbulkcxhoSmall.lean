/-
  batch.full, batch.add, Node.size, zzs4941bsize; the node's own cells.
-/
import Derived.Test.YbulkcxhoRow
import Derived.WalkKit
import Derived.BigGuard
import Derived.BigCall
import Derived.CellFam
import Derived.BigQuiet
import Derived.Deep.Draws
import Derived.Deep.QuietTactic
import Derived.WalkSpells
namespace Go.Proofs.Ybulkcxho
open Go.RowKit
set_option linter.unusedSimpArgs false
set_option linter.unusedVariables false

theorem full64 (s b : Nat) (w : World) : Calls Yba.prog 12 #[.agg #[.int .i64 s, .int .i64 b]] w fun e w' => e = .returned (.bool (decide (64 ≤ s) || decide (1048576 ≤ b))) ∧ w' = w.alloc (.cells #[.int .i64 s, .int .i64 b] 89) := by
  go_enter Yba.func12, Yba.ntmps12
  by_cases h : (64 : Int) ≤ s
  · go_wp2
    go_ret
    exact ⟨by have : 64 ≤ s := by omega
              simp [this], rfl⟩
  · have h' : decide ((64 : Int) ≤ s) = false := decide_eq_false h
    go_wp2
    go_ret
    refine ⟨?_, rfl⟩
    have : ¬ 64 ≤ s := by omega
    simp [this]
    omega

/-- The batch's two counters. -/
def BatAt (w : World) (b s t : Nat) : Prop := w.heap[b]? = some (.cells #[.int .i64 s, .int .i64 t] 89 (0, 0))
theorem BatAt.c0 {w : World} {b s t : Nat} (h : BatAt w b s t) : w.cell? ⟨b, 0, none⟩ = some (.int .i64 s) := by rw [cell_of_row w b 0 _ 89 (0, 0) h]; rfl
theorem BatAt.c1 {w : World} {b s t : Nat} (h : BatAt w b s t) : w.cell? ⟨b, 1, none⟩ = some (.int .i64 t) := by rw [cell_of_row w b 1 _ 89 (0, 0) h]; rfl
theorem BatAt.fz {w : World} {b s t : Nat} (h : BatAt w b s t) (j : Nat) : w.frozen? ⟨b, j, none⟩ = false := frozen_of_row w b j _ 89 h
theorem BatAt.set {w : World} {b s t : Nat} (h : BatAt w b s t) (s' t' : Nat) : BatAt ((w.setCell ⟨b, 0, none⟩ (.int .i64 s')).setCell ⟨b, 1, none⟩ (.int .i64 t')) b s' t' := by
  have h1 := heap_setCell_same w b 0 _ 89 (.int .i64 s') h
  have h2 := heap_setCell_same _ b 1 _ 89 (.int .i64 t') h1
  simpa [BatAt] using h2

theorem add64 (b s t x : Nat) (hs : s ≤ 100000) (ht : t ≤ 100000000) (hx : x ≤ 100000000) (w : World) (h : BatAt w b s t) :
    Calls Yba.prog 13 #[.pointer (some ⟨b, 0, none⟩), .int .i64 x] w fun e w' => e = .returned (.tuple #[]) ∧ BatAt w' b (s + 1) (t + x) ∧ w.grownBy w' (some b) := by
  have c0 := h.c0
  have c1 := h.c1
  have f0 := h.fz 0
  have f1 := h.fz 1
  have H : Hid (BatAt w b s t) := h
  clear h
  go_enter Yba.func13, Yba.ntmps13
  go_wp2
  go_end0
  refine ⟨rfl, ?_, ?_⟩
  · exact H.out.set (s + 1) (t + x)
  · exact ((Turn.refl b w).set 0 _).set 1 _

/-- The node's cells that report reads: Config.Params.ValueSize, accepted, lastAccepted, base. -/
def NodeAt (w : World) (nb mb vsz la base : Nat) : Prop :=
  ∃ cur, w.heap[nb]? = some (.cells cur 75 (0, 0)) ∧ cur[8]? = some (.int .i64 vsz) ∧ cur[18]? = some (.map (some mb)) ∧ cur[29]? = some (.int .u64 la) ∧ cur[33]? = some (.int .u64 base)
theorem NodeAt.keep {w w' : World} {nb mb vsz la base : Nat} (h : NodeAt w nb mb vsz la base) (hk : w'.heap[nb]? = w.heap[nb]?) : NodeAt w' nb mb vsz la base := by
  obtain ⟨cur, hb, r⟩ := h
  exact ⟨cur, hk.trans hb, r⟩
theorem NodeAt.lt {w : World} {nb mb vsz la base : Nat} (h : NodeAt w nb mb vsz la base) : nb < w.heap.size := by
  obtain ⟨cur, hb, r⟩ := h
  exact (Array.getElem?_eq_some_iff.1 hb).1
theorem NodeAt.cells {w : World} {nb mb vsz la base : Nat} (h : NodeAt w nb mb vsz la base) :
    w.cell? ⟨nb, 8, none⟩ = some (.int .i64 vsz) ∧ w.cell? ⟨nb, 18, none⟩ = some (.map (some mb)) ∧ w.cell? ⟨nb, 29, none⟩ = some (.int .u64 la) ∧ w.cell? ⟨nb, 33, none⟩ = some (.int .u64 base) := by
  obtain ⟨cur, hb, r1, r2, r3, r4⟩ := h
  refine ⟨?_, ?_, ?_, ?_⟩ <;> rw [cell_of_row w nb _ cur 75 (0, 0) hb] <;> assumption

/-- What a value counts as. -/
def sz (vsz l : Nat) : Nat := if 0 < vsz ∧ 0 < l then vsz else l

theorem size64 (nb mb vsz la base : Nat) (a : Option Addr) (l c : Nat) (w : World) (h : NodeAt w nb mb vsz la base) :
    Calls Yba.prog 14 #[.pointer (some ⟨nb, 0, none⟩), .slice a l c] w fun e w' => e = .returned (.int .i64 (sz vsz l)) ∧ w' = w := by
  obtain ⟨c8, _, _, _⟩ := h.cells
  clear h
  go_enter Yba.func14, Yba.ntmps14
  by_cases h1 : (0 : Int) < vsz
  · by_cases h2 : (0 : Int) < l
    · go_wp2
      go_ret
      refine ⟨?_, rfl⟩
      have : 0 < vsz ∧ 0 < l := by omega
      simp [sz, this]
    · have h2' : decide ((0 : Int) < l) = false := decide_eq_false h2
      go_wp2
      go_ret
      refine ⟨?_, rfl⟩
      have : ¬ (0 < vsz ∧ 0 < l) := by omega
      simp [sz, this]
  · have h1' : decide ((0 : Int) < vsz) = false := decide_eq_false h1
    go_wp2
    go_ret
    refine ⟨?_, rfl⟩
    have : ¬ (0 < vsz ∧ 0 < l) := by omega
    simp [sz, this]

theorem zsize64 (vsz : Nat) (a : Option Addr) (l c : Nat) (w : World) :
    Calls Yba.prog 6 #[.int .i64 vsz, .slice a l c] w fun e w' => e = .returned (.int .i64 (sz vsz l)) ∧ w' = w := by
  go_enter Yba.func6, Yba.ntmps6
  by_cases h1 : (0 : Int) < vsz
  · by_cases h2 : (0 : Int) < l
    · go_wp2
      go_ret
      refine ⟨?_, rfl⟩
      have : 0 < vsz ∧ 0 < l := by omega
      simp [sz, this]
    · have h2' : decide ((0 : Int) < l) = false := decide_eq_false h2
      go_wp2
      go_ret
      refine ⟨?_, rfl⟩
      have : ¬ (0 < vsz ∧ 0 < l) := by omega
      simp [sz, this]
  · have h1' : decide ((0 : Int) < vsz) = false := decide_eq_false h1
    go_wp2
    go_ret
    refine ⟨?_, rfl⟩
    have : ¬ (0 < vsz ∧ 0 < l) := by omega
    simp [sz, this]
end Go.Proofs.Ybulkcxho
