import Derived.Test.YbulkcxhoChoose
import Derived.Test.YbulkcxhoLen
import Derived.Sort.Walk7
namespace Go.Proofs.Ybulkcxho
open Go.RowKit Go.Sort
set_option linter.unusedSimpArgs false
set_option linter.unusedVariables false

/-- The random number's own block. -/
def RndAt (w : World) (rb X : Nat) : Prop := w.heap[rb]? = some (.cells #[.int .u64 X] 109 (0, 0))
theorem RndAt.cell {w : World} {rb X : Nat} (h : RndAt w rb X) : w.cell? ⟨rb, 0, none⟩ = some (.int .u64 X) := by rw [cell_of_row w rb 0 _ 109 (0, 0) h]; rfl
theorem RndAt.fz {w : World} {rb X : Nat} (h : RndAt w rb X) : w.frozen? ⟨rb, 0, none⟩ = false := frozen_of_row w rb 0 _ 109 h
theorem RndAt.set {w : World} {rb X : Nat} (h : RndAt w rb X) (Y : Nat) : RndAt (w.setCell ⟨rb, 0, none⟩ (.int .u64 Y)) rb Y := by
  have := heap_setCell_same w rb 0 _ 109 (.int .u64 Y) h
  simpa [RndAt] using this

set_option maxHeartbeats 1000000 in
set_option maxRecDepth 100000 in
theorem next64 (rb X : Nat) (hX : X < 18446744073709551616) (w : World) (h : RndAt w rb X) :
    Calls Yba.prog 30 #[.pointer (some ⟨rb, 0, none⟩)] w fun e w' => e = .returned (.int .u64 (xorNextN X : Nat)) ∧ RndAt w' rb (xorNextN X) ∧ Turn rb w w' := by
  obtain ⟨A, hA⟩ : ∃ A : Nat, A = X ^^^ (X * 8192 % 18446744073709551616) := ⟨_, rfl⟩
  obtain ⟨B, hB⟩ : ∃ B : Nat, B = A ^^^ (A / 128) := ⟨_, rfl⟩
  obtain ⟨C, hC⟩ : ∃ C : Nat, C = B ^^^ (B * 131072 % 18446744073709551616) := ⟨_, rfl⟩
  have lA : A < 18446744073709551616 := by rw [hA]; exact Nat.xor_lt_two_pow (n := 64) (by omega) (by omega)
  have lB : B < 18446744073709551616 := by rw [hB]; exact Nat.xor_lt_two_pow (n := 64) (by omega) (by omega)
  have e1 : bits .xor .u64 (X : Int) (IntKind.u64.wrap ((X : Int) * 8192)) = (A : Int) := by
    rw [IntKind.wrap_u64, show ((X : Int) * 8192 % 18446744073709551616) = ((X * 8192 % 18446744073709551616 : Nat) : Int) by omega, bits_xor_u64_nat _ _ hX (by omega), hA]
  have e2 : bits .xor .u64 (A : Int) ((A : Int) / 128) = (B : Int) := by
    rw [show ((A : Int) / 128) = ((A / 128 : Nat) : Int) by omega, bits_xor_u64_nat _ _ lA (by omega), hB]
  have e3 : bits .xor .u64 (B : Int) (IntKind.u64.wrap ((B : Int) * 131072)) = (C : Int) := by
    rw [IntKind.wrap_u64, show ((B : Int) * 131072 % 18446744073709551616) = ((B * 131072 % 18446744073709551616 : Nat) : Int) by omega, bits_xor_u64_nat _ _ lB (by omega), hC]
  have hv : xorNextN X = C := by unfold xorNextN; simp only []; rw [← hA, ← hB, ← hC]
  rw [hv]
  clear hA hB hC hv
  have hss : ∀ v v', (w.setCell ⟨rb, 0, none⟩ v).setCell ⟨rb, 0, none⟩ v' = w.setCell ⟨rb, 0, none⟩ v' := setCell_setCell w rb 0
  have hc := h.cell
  have hf := h.fz
  have HR : Hid (RndAt w rb X) := h
  clear h
  go_enter Yba.func30, Yba.ntmps30
  go_wp2
  go_region
  all_goals go_wp2
  all_goals go_region
  all_goals go_wp2
  all_goals go_region
  all_goals go_wp2
  go_ret
  exact ⟨rfl, HR.out.set C, ((Turn.refl rb w).set _ _).drewN 3⟩

theorem pow64 (n : Nat) (hn : n ≤ 1024) (w : World) : Calls Yba.prog 29 #[.int .i64 n] w fun e w' => e = .returned (.int .u64 ((1 <<< bitsLen n : Nat) : Int)) ∧ w' = w := by
  have hLen : ∀ w, Calls Yba.prog 16 #[.int .u64 (n : Int)] w fun e w' => e = .returned (.int .i64 (bitsLen n : Nat)) ∧ w' = w := fun w => by
    have h := Yba.bits_Len (n : Int) w (by omega) (by omega)
    rwa [Int.toNat_natCast, bitLen_eq _ (by omega)] at h
  have hk : bitsLen n ≤ 62 := (bitsLen_le_iff n 62).2 (by omega)
  have hp := wrap_two_pow (bitsLen n) hk
  go_enter Yba.func29, Yba.ntmps29
  go_wp2_with (first | (go_at_call 16; refine (hLen _).mono ?_; rintro e w' ⟨rfl, rfl⟩))
  go_ret
  exact ⟨rfl, rfl⟩
end Go.Proofs.Ybulkcxho
