/-
  bytes.Equal at one slice twice; '!=' at a ballot against itself.
-/
import Derived.Test.YbulkcxhoAcc
import Derived.Laws.StructEq
import Derived.Laws.BytesArg
import Derived.Lib.Bytes
import Derived.Shelf.SlicesE.Kit
import Derived.Deep.Slices
namespace Go.Proofs.Ybulkcxho
open Go.RowKit
set_option linter.unusedSimpArgs false
set_option linter.unusedVariables false

/-- A value's bytes read as one string. -/
theorem elem_str {w : World} {r : Int} {t : ByteArray} {g l : Nat} (h : Elem w (.agg #[.int .u64 r, .string t, .slice (some ⟨g, 0, none⟩) l l])) :
    ∃ s : ByteArray, (convert 34 9 (.slice (some ⟨g, 0, none⟩) l l)).run Yba.prog w = .ok (.string s) w := by
  obtain ⟨r', t', g', l', e, _, cur, hg, hc⟩ := h
  simp only [Value.agg.injEq, Array.mk.injEq, List.cons.injEq, Value.slice.injEq, Option.some.injEq, Addr.mk.injEq, and_true, true_and] at e
  obtain ⟨_, _, rfl, rfl, _⟩ := e
  obtain ⟨f, hf⟩ := Go.Deep.choose_lt (p := fun j (x : Nat) => x < 256 ∧ cur[j]? = some (.int .u8 x)) hc
  refine ⟨_, run_convert_bytes_arg w 34 5 Yba.underlying34 Yba.underlying5 g 0 l l ((List.range l).map fun j => (f j : Int)) (by simp) (fun i hi => ?_) 9 Yba.underlying9⟩
  rw [Nat.zero_add, cell_of_row w g i cur 5 (0, 0) hg, (hf i hi).2]
  simp [List.getD, hi]

theorem bytesSame (v : Value) (s : ByteArray) (w : World) (h : (convert 34 9 v).run Yba.prog w = .ok (.string s) w) : Calls Yba.prog 8 #[v, v] w fun e w' => e = .returned (.bool true) ∧ w' = w := by
  go_enter Yba.func8, Yba.ntmps8
  go_wp2
  go_ret
  exact ⟨by simp, rfl⟩

theorem neq33 (r : Int) (s : ByteArray) (w : World) : Sem.run Yba.prog (binOp .neq 33 (.agg #[.int .u64 r, .string s]) (.agg #[.int .u64 r, .string s])) w = .ok (.bool false) w := by
  have u23 := Yba.underlying23
  have a23 := Yba.isAgg23
  have z23 := Yba.sizeOf23
  have u9 := Yba.underlying9
  have a9 := Yba.isAgg9
  have z9 := Yba.sizeOf9
  have hS : Yba.prog.underlying 33 = some (.struct (Yba.prog.fieldsOf 33)) := by kernel_rfl
  have hp : Yba.prog.stoodInHeld 33 = false := by kernel_rfl
  rw [run_neq_struct, show (10000 : Nat) = 9999 + 1 from rfl, run_equalIn_struct w 9999 33 _ _ hS hp]
  simp only [Program.fieldsOf, Yba.underlying33]
  go_simp
theorem guard33 (op : BinOp) (a b : Operand) (xs ys : Array Value) (w : World) : Sem.run Yba.prog (eqGuard op 33 a b (.agg xs) (.agg ys)) w = .ok () w := run_eqGuard_agg w op 33 a b xs ys (by kernel_rfl)
end Go.Proofs.Ybulkcxho
