import Derived.Test.YbulkcxjeFind
import Derived.OpenShut
import Derived.JoinedOf
import Derived.ShutString
import Derived.ChangeOld
import Derived.Carry
import Derived.Deep.Matrix
import Derived.Deep.SlicePairs
namespace Go.Proofs.Ybulkcxje
open Go.ChangeShapes Go.WideShapes Go.RowKit Go.Deep
set_option linter.unusedVariables false

theorem own : ownKnob Yba.prog.godebug = none := by kernel_rfl
theorem laidOut : laidOutB Yba.prog = true := by kernel_rfl

theorem underlying80 : ∃ f0 f1, Yba.prog.underlying 80 = some (.struct #[f0, f1]) ∧ f0.offset = 0 ∧ f1.offset = 1 ∧ f0.type = 23 ∧ f1.type = 23 := by
  have h : (Yba.prog.underlying 80).map (fun d => match d with | .struct fs => fs.toList.map (fun f => (f.offset, f.type)) | _ => []) = some [(0, 23), (1, 23)] := by kernel_rfl
  obtain ⟨d, hd, he⟩ := Option.map_eq_some_iff.1 h
  cases d with
  | struct fs =>
    obtain ⟨l⟩ := fs
    match l, he with
    | [f0, f1], he =>
      simp at he
      exact ⟨f0, f1, hd, he.1.1, he.2.1, he.1.2, he.2.2⟩
    | [], he => simp at he
    | [_], he => simp at he
    | _ :: _ :: _ :: _, he => simp at he
  | _ => simp at he

/-- The list of operations, opened. -/
theorem ops_of_trod {H : Type} {enc : TypeId × Value → H} {W : World} {base fuel : Nat} {spare : Nat → Bool} {held : Bool} {ao : Option Addr} {l c : Nat} {x : DataW H × List MemPlace}
    (h : DataW.trod enc Yba.prog W base spare held fuel 22 [.slice ao l c] = some x) : ∃ ops : List (Int × Int), Reads2 W ao ops ∧ ops.length = l := by
  obtain ⟨f0, f1, hu, o0, o1, t0, t1⟩ := underlying80
  rcases open_slice_pairs Yba.underlying22 hu (by kernel_rfl) o0 o1 (by rw [t0]; kernel_rfl) (by rw [t1]; kernel_rfl) h with ⟨hcs, _⟩ | ⟨a, len, cap, m, n, V0, V1, D0, D1, P0, P1, hcs, _, hl, _, hm, _, hc⟩
  · simp at hcs
    exact ⟨[], .inl rfl, by simp [hcs]⟩
  · simp at hcs
    obtain ⟨rfl, rfl, rfl⟩ := hcs
    have hlm : l ≤ m := by rw [hm]; split <;> omega
    have key : ∀ i, i < l → ∃ z : Int × Int, V0 i = .int .u64 z.1 ∧ V1 i = .int .u64 z.2 := by
      intro i hi
      obtain ⟨_, _, h0, h1⟩ := hc i (by omega)
      rw [t0] at h0
      rw [t1] at h1
      obtain ⟨z0, e0, _⟩ := DataW.trod_int Yba.underlying23 h0
      obtain ⟨z1, e1, _⟩ := DataW.trod_int Yba.underlying23 h1
      simp at e0 e1
      exact ⟨(z0, z1), e0, e1⟩
    obtain ⟨Z, hZ⟩ := choose_lt key
    refine ⟨(List.range l).map Z, ?_, by simp⟩
    by_cases hz : l = 0
    · exact .inl (by simp [hz])
    · obtain ⟨b, off, spot⟩ := a
      have h00 := (hc 0 (by omega)).1
      have hspot : spot = none := by simpa [Addr.add] using World.cell?_spot h00
      subst hspot
      refine .inr ⟨b, off, rfl, ?_, fun j hj => ?_⟩
      · have := World.block_lt_of_cell? W _ h00
        simpa [Addr.add] using this
      · simp only [List.length_map, List.length_range] at hj
        have hj2 : j / 2 < l := by omega
        obtain ⟨c0, c1, _, _⟩ := hc (j / 2) (by omega)
        obtain ⟨e0, e1⟩ := hZ (j / 2) hj2
        rw [add_plain] at c0 c1
        unfold cellOf
        simp only [List.getElem?_map, List.getElem?_range hj2, Option.map_some]
        by_cases hp : j % 2 = 0
        · rw [if_pos hp, ← e0, ← c0, show j / 2 * 2 = j by omega]
        · rw [if_neg hp, ← e1, ← c1, show j / 2 * 2 + 1 = j by omega]
end Go.Proofs.Ybulkcxje
