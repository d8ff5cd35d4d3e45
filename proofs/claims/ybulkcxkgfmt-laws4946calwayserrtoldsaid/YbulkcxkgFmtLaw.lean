import Derived.Test.YbulkcxkgFmtErrAt
namespace Go.Proofs.YbulkcxkgFmt
open Go.RowKit Go.Extern.Stop Go.Stop Go.Extern

set_option maxHeartbeats 400000 in
theorem law_long (body what : ByteArray) (off : Int) (w : World) (h : 65536 < body.size) :
    Calls Ybaf.prog 5 #[.string body, .int .u16 off, .string what] w fun e w' => e = .returned (.bool true) ∧ Below w.heap.size w w' := by
  go_enter Ybaf.func5, Ybaf.ntmps5
  go_wp2_with fail
  go_ret
  exact ⟨rfl, Below.refl _ _⟩

set_option maxHeartbeats 400000 in
theorem law_long2 (body what : ByteArray) (off : Int) (w : World) (h : body.size ≤ 65536) (h2 : 65536 < what.size) :
    Calls Ybaf.prog 5 #[.string body, .int .u16 off, .string what] w fun e w' => e = .returned (.bool true) ∧ Below w.heap.size w w' := by
  go_enter Ybaf.func5, Ybaf.ntmps5
  go_wp2_with fail
  go_ret
  exact ⟨rfl, Below.refl _ _⟩

set_option maxHeartbeats 400000 in
theorem law_short (F : Interp) (body what : ByteArray) (off : Int) (w : World) (hF : F.answers w.tape) (h0 : 0 ≤ off) (h1 : off ≤ 65535) (h : body.size ≤ 65536) (h2 : what.size ≤ 65536) :
    Calls Ybaf.prog 5 #[.string body, .int .u16 off, .string what] w fun e w' => e = .returned (.bool true) ∧ Below w.heap.size w w' := by
  obtain ⟨n, hn⟩ : ∃ n : Nat, off % ((body.size : Int) + 2) = (n : Int) := ⟨(off % ((body.size : Int) + 2)).toNat, by have := Int.emod_nonneg off (show (body.size : Int) + 2 ≠ 0 by omega); omega⟩
  have hne : ((body.size : Int) + 2 == 0) = false := by simp; omega
  go_enter Ybaf.func5, Ybaf.ntmps5
  go_wp2_with fail
  refine (unexp F n body what _ (by exact hF)).mono ?_
  rintro e w1 ⟨⟨a, rfl⟩, hbel⟩
  have hB : Below w.heap.size w w1 := ((Below.refl _ w).alloc (Nat.le_refl _) _).trans (hbel.mono (by simp))
  clear hbel
  go_wp2_with fail
  refine (unwrap62 a _).mono ?_
  rintro e w2 ⟨rfl, rfl⟩
  go_wp2
  go_ret
  exact ⟨by simp, hB⟩

theorem walk (F : Interp) (body what : ByteArray) (off : Int) (w : World) (hF : F.answers w.tape) (h0 : 0 ≤ off) (h1 : off ≤ 65535) :
    Calls Ybaf.prog 5 #[.string body, .int .u16 off, .string what] w fun e w' => e = .returned (.bool true) ∧ Below w.heap.size w w' := by
  by_cases h : 65536 < body.size
  · exact law_long body what off w h
  · by_cases h2 : 65536 < what.size
    · exact law_long2 body what off w (by omega) h2
    · exact law_short F body what off w hF h0 h1 (by omega) (by omega)
end Go.Proofs.YbulkcxkgFmt
