/-
  slices.Sort at []uint64: the row comes out sorted.
-/
import Derived.Test.YbulkcxhoPdq
import Derived.Test.YbulkcxhoLen
namespace Go.Proofs.Ybulkcxho
open Go.RowKit Go.Sort
set_option linter.unusedSimpArgs false
set_option linter.unusedVariables false
theorem bitLen_small {n : Nat} (h : n ≤ 1024) : Lib.bitLen n ≤ 100 := Nat.le_trans (Lib.bitLen_le n 64 (Nat.le_refl _) (by omega)) (by omega)

set_option maxHeartbeats 1000000 in
set_option maxRecDepth 100000 in
theorem sort64 (blk cap : Nat) (d : Array Int) (w : World) (hR : RowAt w blk 0 d) (hd : d.size ≤ 1024) :
    Calls Yba.prog 10 #[.slice (some ⟨blk, 0, none⟩) d.size cap] w fun e w' => e = .returned (.tuple #[]) ∧ Sorted64 w blk 0 d.size 0 d.size d w' := by
  have hl := bitLen_small hd
  have hc := pdq64 (d.size + 1) blk 0 d.size cap 0 d.size (Lib.bitLen d.size) d w (by omega) hd hR rfl (by omega) (Nat.le_refl _) hl (Or.inl rfl)
  have hL := fun w => Yba.bits_Len (d.size : Nat) w
  have HR : Hid (RowAt w blk 0 d) := hR
  clear hR
  go_enter Yba.func10, Yba.ntmps10
  go_wp2_with (first
    | (go_at_call 16; refine (hL _ (by omega) (by omega)).mono ?_; rintro e w' ⟨rfl, rfl⟩)
    | (go_at_call 15; refine hc.mono ?_; rintro e w' ⟨rfl, hw⟩))
  go_end0
  exact ⟨rfl, hw⟩

/-- Of no elements. -/
theorem ins_nil (a : Option Addr) (cap : Nat) (w : World) : Calls Yba.prog 17 #[.slice a 0 cap, .int .i64 0, .int .i64 0] w fun e w' => e = .returned (.tuple #[]) ∧ w' = w := by
  go_enter Yba.func17, Yba.ntmps17
  go_wp2
  go_loopw [6] (fun vi wr => vi = .int .i64 1 ∧ wr = w) (fun _ _ => 0)
  case atStart => exact ⟨by go_num, rfl⟩
  case round =>
    obtain ⟨rfl, rfl⟩ := hrel
    go_wp2
    go_end0
    exact ⟨rfl, rfl⟩
theorem pdq_nil (a : Option Addr) (cap : Nat) (l : Int) (w : World) : Calls Yba.prog 15 #[.slice a 0 cap, .int .i64 0, .int .i64 0, .int .i64 l] w fun e w' => e = .returned (.tuple #[]) ∧ w' = w := by
  go_enter Yba.func15, Yba.ntmps15
  go_wp2
  go_loopw [1, 2, 3, 8, 9] (fun s1 s2 s3 s8 s9 wr => s1 = .int .i64 0 ∧ s2 = .int .i64 0 ∧ s3 = .int .i64 l ∧ wr = w) (fun _ _ _ _ _ _ => 0)
  case atStart => exact ⟨rfl, rfl, rfl, rfl⟩
  case round =>
    obtain ⟨rfl, rfl, rfl, rfl⟩ := hrel
    go_wp2_with (go_at_call 17; refine (ins_nil _ _ _).mono ?_; rintro e w1 ⟨rfl, rfl⟩)
    (try simp only [Exit.inBlock, Exit.then]); refine bodyPost_ret (results_none rfl _ _ _) rfl ?_
    exact ⟨rfl, rfl⟩
theorem sort64_nil (a : Option Addr) (cap : Nat) (w : World) : Calls Yba.prog 10 #[.slice a 0 cap] w fun e w' => e = .returned (.tuple #[]) ∧ w' = w := by
  have hL := fun w => Yba.bits_Len 0 w (by omega) (by omega)
  go_enter Yba.func10, Yba.ntmps10
  go_wp2_with (first
    | (go_at_call 16; refine (hL _).mono ?_; rintro e w' ⟨rfl, rfl⟩)
    | (go_at_call 15; refine (pdq_nil _ _ _ _).mono ?_; rintro e w' ⟨rfl, rfl⟩))
  go_end0
  exact ⟨rfl, rfl⟩

theorem compact_nil (a : Option Addr) (cap : Nat) (w : World) : Calls Yba.prog 11 #[.slice a 0 cap] w fun e w' => e = .returned (.slice a 0 cap) ∧ w' = w := by
  go_enter Yba.func11, Yba.ntmps11
  go_wp2
  go_ret
  exact ⟨rfl, rfl⟩

theorem equal_nil (a : Option Addr) (c1 : Nat) (b : Option Addr) (c2 : Nat) (w : World) : Calls Yba.prog 9 #[.slice a 0 c1, .slice b 0 c2] w fun e w' => e = .returned (.bool true) ∧ w' = w := by
  go_enter Yba.func9, Yba.ntmps9
  go_wp2
  go_loopw [13] (fun v wr => v = .int .i64 0 ∧ wr = w) (fun _ _ => 0)
  case atStart => exact ⟨rfl, rfl⟩
  case round =>
    obtain ⟨rfl, rfl⟩ := hrel
    go_wp2
    go_ret
    exact ⟨rfl, rfl⟩
end Go.Proofs.Ybulkcxho
