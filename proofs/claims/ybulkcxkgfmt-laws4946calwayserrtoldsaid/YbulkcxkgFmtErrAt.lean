import Derived.Test.YbulkcxkgFmtFacts
import Derived.WalkSpells
import Derived.Stop.Asserts
namespace Go.Proofs.YbulkcxkgFmt
open Go.RowKit Go.Extern.Stop Go.Stop Go.Extern
attribute [local go_sem] call31 call44 fmtGuard fmt0 fmt1 fmt2 fmt3 fmt3r op9_115 op9_115w op3_100w op5_120s op5_113 ptr62 elem62

/-- What errorAt hands back, whatever the texts: a new error of errors.New's make; nothing old has turned. -/
def Erred (w w' : World) (e : Ending) : Prop := (∃ a, e = .returned (.iface 62 (.pointer (some a)))) ∧ Below w.heap.size w w'

theorem below2 (w : World) (o p : Obj) : Below w.heap.size w ((w.alloc o).alloc p).drew.drew :=
  ((((Below.refl _ w).alloc (Nat.le_refl _) o).alloc (by simp) p).drew).drew

set_option maxHeartbeats 400000 in
theorem errAt0 (F : Interp) (i : Int) (s : ByteArray) (b : Nat) (w : World) (hF : F.answers w.tape) (hc : w.cell? ⟨b, 0, none⟩ = some (.iface 9 (.string s))) :
    Calls Ybaf.prog 19 #[.int .i64 i, .string ⟨#[101, 120, 112, 101, 99, 116, 101, 100, 32, 37, 115, 44, 32, 102, 111, 117, 110, 100, 32, 116, 104, 101, 32, 101, 110, 100, 32, 111, 102, 32, 116, 104, 101, 32, 98, 111, 100, 121]⟩, .slice (some ⟨b, 0, none⟩) 1 1] w fun e w' => Erred w w' e := by
  have hF' := answers_open hF
  go_enter Ybaf.func19, Ybaf.ntmps19
  go_wp2
  go_ret
  exact ⟨⟨_, rfl⟩, below2 _ _ _⟩

set_option maxHeartbeats 400000 in
theorem errAt1 (F : Interp) (i : Int) (s : ByteArray) (c : Int) (b : Nat) (w : World) (hF : F.answers w.tape) (hc : w.cell? ⟨b, 0, none⟩ = some (.iface 9 (.string s))) (hc1 : w.cell? ⟨b, 1, none⟩ = some (.iface 5 (.int .u8 c))) :
    Calls Ybaf.prog 19 #[.int .i64 i, .string ⟨#[101, 120, 112, 101, 99, 116, 101, 100, 32, 37, 115, 44, 32, 102, 111, 117, 110, 100, 32, 98, 121, 116, 101, 32, 37, 35, 48, 50, 120]⟩, .slice (some ⟨b, 0, none⟩) 2 2] w fun e w' => Erred w w' e := by
  have hF' := answers_open hF
  go_enter Ybaf.func19, Ybaf.ntmps19
  go_wp2
  go_ret
  exact ⟨⟨_, rfl⟩, below2 _ _ _⟩

set_option maxHeartbeats 400000 in
theorem errAt2 (F : Interp) (i : Int) (s : ByteArray) (c : Int) (b : Nat) (w : World) (hF : F.answers w.tape) (hc : w.cell? ⟨b, 0, none⟩ = some (.iface 9 (.string s))) (hc1 : w.cell? ⟨b, 1, none⟩ = some (.iface 5 (.int .u8 c))) :
    Calls Ybaf.prog 19 #[.int .i64 i, .string ⟨#[101, 120, 112, 101, 99, 116, 101, 100, 32, 37, 115, 44, 32, 102, 111, 117, 110, 100, 32, 37, 113]⟩, .slice (some ⟨b, 0, none⟩) 2 2] w fun e w' => Erred w w' e := by
  have hF' := answers_open hF
  go_enter Ybaf.func19, Ybaf.ntmps19
  go_wp2
  go_ret
  exact ⟨⟨_, rfl⟩, below2 _ _ _⟩

theorem Erred.later {w w1 w' : World} {e : Ending} (hb : Below w.heap.size w w1) (h : Erred w1 w' e) : Erred w w' e :=
  ⟨h.1, hb.trans (h.2.mono hb.size)⟩
theorem grown2 (w : World) (o p : Obj) : Below w.heap.size w ((w.alloc o).alloc p) := ((Below.refl _ w).alloc (Nat.le_refl _) o).alloc (by simp) p

set_option maxHeartbeats 400000 in
/-- unexpected: the end of the body. -/
theorem unexp0 (F : Interp) (i : Nat) (body what : ByteArray) (w : World) (hF : F.answers w.tape) (hi : body.size ≤ i) :
    Calls Ybaf.prog 12 #[.agg #[.string body], .int .i64 i, .string what] w fun e w' => Erred w w' e := by
  go_enter Ybaf.func12, Ybaf.ntmps12
  go_wp2_with fail
  refine (errAt0 F i what (w.heap.size + 1) _ (by exact hF) (by go_simp)).mono ?_
  rintro e w' ⟨⟨a, rfl⟩, hbel⟩
  have hB := (grown2 w _ _).trans (hbel.mono (grown2 w _ _).size)
  go_wp2
  go_ret
  exact ⟨⟨_, rfl⟩, hB⟩

set_option maxHeartbeats 400000 in
/-- unexpected: a byte outside plain ASCII. -/
theorem unexp1 (F : Interp) (i : Nat) (body what : ByteArray) (w : World) (hF : F.answers w.tape) (hi : i < body.size) (hx : 128 ≤ (body[i]'hi).toNat ∨ (body[i]'hi).toNat < 32) :
    Calls Ybaf.prog 12 #[.agg #[.string body], .int .i64 i, .string what] w fun e w' => Erred w w' e := by
  by_cases h1 : (128 : Int) ≤ ((body[i]'hi).toNat : Int)
  · go_enter Ybaf.func12, Ybaf.ntmps12
    go_wp2_with fail
    refine (errAt1 F i what ((body[i]'hi).toNat : Int) (w.heap.size + 1) _ (by exact hF) (by go_simp) (by go_simp)).mono ?_
    rintro e w' ⟨⟨a, rfl⟩, hbel⟩
    have hB := (grown2 w _ _).trans (hbel.mono (grown2 w _ _).size)
    go_wp2
    go_ret
    exact ⟨⟨_, rfl⟩, hB⟩
  · have h2 : ((body[i]'hi).toNat : Int) < 32 := by omega
    go_enter Ybaf.func12, Ybaf.ntmps12
    go_wp2_with fail
    refine (errAt1 F i what ((body[i]'hi).toNat : Int) (w.heap.size + 1) _ (by exact hF) (by go_simp) (by go_simp)).mono ?_
    rintro e w' ⟨⟨a, rfl⟩, hbel⟩
    have hB := (grown2 w _ _).trans (hbel.mono (grown2 w _ _).size)
    go_wp2
    go_ret
    exact ⟨⟨_, rfl⟩, hB⟩

set_option maxHeartbeats 400000 in
/-- unexpected: a plain byte. -/
theorem unexp2 (F : Interp) (i : Nat) (body what : ByteArray) (w : World) (hF : F.answers w.tape) (hi : i < body.size) (h1 : ¬ (128 : Int) ≤ ((body[i]'hi).toNat : Int)) (h2 : ¬ ((body[i]'hi).toNat : Int) < 32) :
    Calls Ybaf.prog 12 #[.agg #[.string body], .int .i64 i, .string what] w fun e w' => Erred w w' e := by
  go_enter Ybaf.func12, Ybaf.ntmps12
  go_wp2_with fail
  refine (errAt2 F i what ((body[i]'hi).toNat : Int) (w.heap.size + 1) _ (by exact hF) (by go_simp) (by go_simp)).mono ?_
  rintro e w' ⟨⟨a, rfl⟩, hbel⟩
  have hB := (grown2 w _ _).trans (hbel.mono (grown2 w _ _).size)
  go_wp2
  go_ret
  exact ⟨⟨_, rfl⟩, hB⟩

theorem unexp (F : Interp) (i : Nat) (body what : ByteArray) (w : World) (hF : F.answers w.tape) :
    Calls Ybaf.prog 12 #[.agg #[.string body], .int .i64 i, .string what] w fun e w' => Erred w w' e := by
  by_cases hi : i < body.size
  · by_cases hx : 128 ≤ (body[i]'hi).toNat ∨ (body[i]'hi).toNat < 32
    · exact unexp1 F i body what w hF hi hx
    · exact unexp2 F i body what w hF hi (by omega) (by omega)
  · exact unexp0 F i body what w hF (by omega)

theorem noUnwrap62 (v : Value) (w : World) : (Instr.typeAssert (.iface 62 v) 27 60 true).run Ybaf.prog w = .ok (.tuple #[.nilIface, .bool false]) w :=
  run_typeAssert_lacksB Ybaf.underlying60 (by kernel_rfl) (by kernel_rfl) v 27 w

set_option maxHeartbeats 400000 in
/-- errors.Unwrap of an error of errors.New's make: nil. -/
theorem unwrap62 (a : Addr) (w : World) : Calls Ybaf.prog 13 #[.iface 62 (.pointer (some a))] w fun e w' => e = .returned .nilIface ∧ w' = w := by
  have h := noUnwrap62
  go_enter Ybaf.func13, Ybaf.ntmps13
  go_wp2
  go_ret
  exact ⟨rfl, rfl⟩
end Go.Proofs.YbulkcxkgFmt
