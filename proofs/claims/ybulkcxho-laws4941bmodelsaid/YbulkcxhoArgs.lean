/-
  The laws' fourth argument, opened: []ZzS4941BEntry.
-/
import Derived.Test.YbulkcxhoNode
import Derived.OpenShut
import Derived.JoinedOf
import Derived.ShutString
import Derived.ChangeOld
import Derived.Carry
import Derived.Deep.Matrix
import Derived.Deep.Slices
namespace Go.Proofs.Ybulkcxho
open Go.ChangeShapes Go.WideShapes Go.RowKit Go.Deep
set_option linter.unusedVariables false

theorem own : ownKnob Yba.prog.godebug = none := by kernel_rfl
theorem laidOut : laidOutB Yba.prog = true := by kernel_rfl

theorem four_of_length {α : Type} {l : List α} (h : l.length = 4) : ∃ a b c d, l = [a, b, c, d] := by
  match l, h with
  | [a, b, c, d], _ => exact ⟨a, b, c, d, rfl⟩

set_option maxRecDepth 100000 in
theorem ents_of_trod {H : Type} {enc : TypeId × Value → H} {W : World} {base fuel : Nat} {spare : Nat → Bool} {held : Bool} {ao : Option Addr} {l c : Nat} {x : DataW H × List MemPlace}
    (h : DataW.trod enc Yba.prog W base spare held fuel 25 [.slice ao l c] = some x) :
    ∃ (sb so : Nat) (S L : Nat → Nat) (R : Nat → Int) (T : Nat → ByteArray), (0 < l → ao = some ⟨sb, so, none⟩) ∧ (0 < l → sb < W.heap.size) ∧ Ents W sb so l S L R T ∧ l ≤ maxLen := by
  rcases open_slice Yba.underlying25 h with ⟨hcs, _⟩ | ⟨a, len, cap, m, n, D, Pl, hcs, _, hl, hm, hmm, _, hx⟩
  · simp at hcs
    obtain ⟨rfl, rfl, rfl⟩ := hcs
    exact ⟨0, 0, fun _ => 0, fun _ => 0, fun _ => 0, fun _ => ⟨#[]⟩, fun h => absurd h (by omega), fun h => absurd h (by omega), fun i hi => absurd hi (by omega), by omega⟩
  · simp at hcs
    obtain ⟨rfl, rfl, rfl⟩ := hcs
    have hlm : l ≤ m := by rw [hmm]; split <;> omega
    have ce : Yba.prog.cellsOf 85 = 4 := by kernel_rfl
    have c22 : Yba.prog.cellsOf 22 = 1 := by kernel_rfl
    have c23 : Yba.prog.cellsOf 23 = 1 := by kernel_rfl
    have c9 : Yba.prog.cellsOf 9 = 1 := by kernel_rfl
    have key : ∀ i, i < l → ∃ q : Nat × Nat × Int × ByteArray, q.1 < 65536 ∧ q.2.1 < 65536 ∧ W.cell? (a.add (i * 4)) = some (.int .u16 q.1) ∧ W.cell? (a.add (i * 4 + 1)) = some (.int .u64 q.2.2.1) ∧
        W.cell? (a.add (i * 4 + 2)) = some (.string q.2.2.2) ∧ W.cell? (a.add (i * 4 + 3)) = some (.int .u16 q.2.1) := by
      intro i hi
      obtain ⟨cs', h1, h2⟩ := hx i (by omega)
      rw [ce] at h1
      obtain ⟨_, hlen, hcell⟩ := World.cells?_some h1
      obtain ⟨xs, k, hk, hxy, _, hxl, hf⟩ := DataW.trod_struct Yba.underlying85 h2
      have hxl4 : xs.length = 4 := hxl
      obtain ⟨y0, y1, y2, y3, rfl⟩ := four_of_length hxl4
      obtain ⟨v0, v1, v2, v3, rfl⟩ := four_of_length hlen
      have g0 := hf 0 _ rfl
      have g1 := hf 1 _ rfl
      have g2 := hf 2 _ rfl
      have g3 := hf 3 _ rfl
      simp [c22, c23, c9] at g0 g1 g2 g3
      obtain ⟨z0, e0, _, w0⟩ := DataW.trod_int Yba.underlying22 g0
      obtain ⟨z1, e1, _, _⟩ := DataW.trod_int Yba.underlying23 g1
      obtain ⟨z2, e2, _, _⟩ := DataW.trod_string Yba.underlying9 g2
      obtain ⟨z3, e3, _, w3⟩ := DataW.trod_int Yba.underlying22 g3
      have b0 := bounds_u16 w0
      have b3 := bounds_u16 w3
      simp only [List.cons.injEq, and_true] at e0 e1 e2 e3
      subst e0; subst e1; subst e2; subst e3
      have q0 := hcell 0 (by omega)
      have q1 := hcell 1 (by omega)
      have q2 := hcell 2 (by omega)
      have q3 := hcell 3 (by omega)
      rw [add_add] at q0 q1 q2 q3
      have n0 : ((z0.toNat : Nat) : Int) = z0 := by omega
      have n3 : ((z3.toNat : Nat) : Int) = z3 := by omega
      refine ⟨(z0.toNat, z3.toNat, z1, z2), by simp only; omega, by simp only; omega, ?_, ?_, ?_, ?_⟩
      · simp only [n0]; simpa using q0
      · simpa using q1
      · simpa using q2
      · simp only [n3]; simpa using q3
    obtain ⟨q, hq⟩ := choose_lt key
    obtain ⟨b, off, spot⟩ := a
    by_cases hz : l = 0
    · exact ⟨0, 0, fun _ => 0, fun _ => 0, fun _ => 0, fun _ => ⟨#[]⟩, fun h => absurd h (by omega), fun h => absurd h (by omega), fun i hi => absurd hi (by omega), by omega⟩
    · have h00 := (hq 0 (by omega)).2.2.1
      have hspot : spot = none := by simpa [Addr.add] using World.cell?_spot h00
      subst hspot
      refine ⟨b, off, fun i => (q i).1, fun i => (q i).2.1, fun i => (q i).2.2.1, fun i => (q i).2.2.2, fun _ => rfl, fun _ => ?_, fun i hi => ?_, by omega⟩
      · have := World.block_lt_of_cell? W _ h00
        simpa [Addr.add] using this
      · obtain ⟨p1, p2, p3, p4, p5, p6⟩ := hq i hi
        rw [add_plain] at p3 p4 p5 p6
        exact ⟨p1, p2, p3, p4, p5, p6⟩
end Go.Proofs.Ybulkcxho
