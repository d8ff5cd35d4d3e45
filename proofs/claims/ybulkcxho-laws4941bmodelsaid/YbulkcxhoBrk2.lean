import Derived.Test.YbulkcxhoBreak
namespace Go.Proofs.Ybulkcxho
open Go.RowKit Go.Sort
set_option linter.unusedSimpArgs false
set_option linter.unusedVariables false

set_option maxRecDepth 100000 in
theorem brk64 (blk off N cap a b : Nat) (d : Array Int) (w : World) (hN : N ≤ 1024) (hR : RowAt w blk off d) (hd : d.size = N) (hab : a ≤ b) (hb : b ≤ N) :
    Calls Yba.prog 19 #[.slice (some ⟨blk, off, none⟩) N cap, .int .i64 a, .int .i64 b] w fun e w' => e = .returned (.tuple #[]) ∧ Rw w blk off N (breakPatterns d a b) w' := by
  by_cases h8 : 8 ≤ b - a
  · obtain ⟨L, rfl⟩ : ∃ L, b = a + L := ⟨b - a, by omega⟩
    exact brk64_go blk off N cap a L d w hN hR hd hb (by omega)
  · have h8z : ¬ ((8 : Int) ≤ (b : Int) - (a : Int)) := by omega
    have e : breakPatterns d a b = d := by unfold breakPatterns; simp only []; rw [if_neg h8]
    rw [e]
    have H0 : Hid (Rw w blk off N d w) := Rw.start hd hR
    clear hR hd e
    go_enter Yba.func19, Yba.ntmps19
    go_wp2
    go_end0
    exact ⟨rfl, H0.out⟩

theorem Rw.below {w0 w w' : World} {blk off N : Nat} {d : Array Int} (h : Rw w0 blk off N d w) (hB : Below w.heap.size w w') : Rw w0 blk off N d w' :=
  ⟨h.1, h.2.1.keep (hB.block blk h.2.1.lt), h.2.2.trans ⟨hB.os, hB.tape, hB.output, hB.size, fun k hk _ => hB.block k hk⟩⟩
end Go.Proofs.Ybulkcxho
