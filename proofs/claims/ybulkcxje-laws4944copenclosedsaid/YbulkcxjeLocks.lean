/-
  sync.Mutex at this program's numbers: Lock, Unlock by the library's contracts (Derived/Conc/MuLone.lean); TryLock walked here, the lock free.
-/
import Derived.Test.YbulkcxjeRows
import Derived.Conc.MuLone
import Derived.WalkKit
import Derived.KernelRfl
namespace Go.Proofs.Ybulkcxje
open Go.RowKit Go.MuLone

abbrev muLink : Go.Conc.Locks.MuLink := { lock := 13, unlock := 11, ilock := 19, iunlock := 15, lockSlow := 27, unlockSlow := 26, disable := 20, enable := 21, acquire := 23, relMerge := 24, cas32 := 22, add32 := 25, tMutex := 33, tIMutex := 31, tPMutex := 83, tPIMutex := 87, tPI32 := 89, tUP := 91, tNoCopy := 28, tU32 := 29 }
theorem muLib : Go.Conc.Locks.MuLib Yba.prog muLink :=
  ⟨Yba.func13, Yba.func11, Yba.func19, Yba.func15, Yba.func20, Yba.func21, Yba.func23, Yba.func24, Yba.func22, Yba.func25, Yba.underlying31, Yba.runUnderlying31, Yba.sizeOf31, Yba.isAgg31, Yba.zeroValue31, Yba.underlying33, Yba.runUnderlying33, Yba.sizeOf33, Yba.isAgg33, Yba.zeroValue33, Yba.underlying83, Yba.runUnderlying83, Yba.sizeOf83, Yba.isAgg83, Yba.zeroValue83, Yba.underlying87, Yba.runUnderlying87, Yba.sizeOf87, Yba.isAgg87, Yba.zeroValue87, Yba.underlying89, Yba.runUnderlying89, Yba.sizeOf89, Yba.isAgg89, Yba.zeroValue89, Yba.underlying91, Yba.runUnderlying91, Yba.sizeOf91, Yba.isAgg91, Yba.zeroValue91, Yba.underlying28, Yba.runUnderlying28, Yba.sizeOf28, Yba.isAgg28, Yba.zeroValue28, Yba.underlying21, Yba.runUnderlying21, Yba.sizeOf21, Yba.isAgg21, Yba.zeroValue21, (by kernel_rfl)⟩

theorem lockF (b : Nat) (w : World) (hc : w.cell? ⟨b, 0, none⟩ = some (.int .i32 0)) (hz : w.frozen? ⟨b, 0, none⟩ = false) :
    Calls Yba.prog 13 #[.pointer (some ⟨b, 0, none⟩)] w fun e w' => e = .returned (.tuple #[]) ∧ w' = w.setCell ⟨b, 0, none⟩ (.int .i32 1) := lock_free muLib _ _ hc hz
theorem unlockF (b : Nat) (w : World) (hc : w.cell? ⟨b, 0, none⟩ = some (.int .i32 1)) (hz : w.frozen? ⟨b, 0, none⟩ = false) :
    Calls Yba.prog 11 #[.pointer (some ⟨b, 0, none⟩)] w fun e w' => e = .returned (.tuple #[]) ∧ w' = w.setCell ⟨b, 0, none⟩ (.int .i32 0) := unlock_held muLib _ _ hc hz

theorem disableR (w : World) : (callFunc 20 #[]).run Yba.prog w = .ok (.value (.tuple #[])) w := disable muLib w
theorem enableR (w : World) : (callFunc 21 #[]).run Yba.prog w = .ok (.value (.tuple #[])) w := enable muLib w
theorem acquireR (a : Addr) (w : World) : (callFunc 23 #[.pointer (some a)]).run Yba.prog w = .ok (.value (.tuple #[])) w := acquire muLib a w

set_option maxHeartbeats 400000 in
set_option maxRecDepth 100000 in
theorem tryLockF (b : Nat) (w : World) (hc : w.cell? ⟨b, 0, none⟩ = some (.int .i32 0)) (hz : w.frozen? ⟨b, 0, none⟩ = false) :
    Calls Yba.prog 10 #[.pointer (some ⟨b, 0, none⟩)] w fun e w' => e = .returned (.bool true) ∧ w' = w.setCell ⟨b, 0, none⟩ (.int .i32 1) := by
  have h1 := disableR
  have h2 := enableR
  have h3 := acquireR
  have hcas := run_call_cas_hit (P := Yba.prog) Yba.func22 (by kernel_rfl) (by kernel_rfl) (by kernel_rfl) .i32 (by kernel_rfl) (y := 1) hc hz
  have hcv := run_convert_to_unsafe (P := Yba.prog) (src := 87) (dst := 91) Yba.underlying87 Yba.underlying91 muLib.room_tIMutex (World.cell?_setCell_same w ⟨b, 0, none⟩ (.int .i32 1) hc)
  go_enter Yba.func10, Yba.ntmps10
  go_wp2
  go_ret
  exact ⟨rfl, rfl⟩
end Go.Proofs.Ybulkcxje
