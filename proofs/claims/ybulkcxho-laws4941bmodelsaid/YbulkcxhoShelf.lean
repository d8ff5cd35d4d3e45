/-
  slices.Equal and slices.Compact at []uint64: the shelf's contracts laid at this program, in plain words (by the shelf's own tool).
-/
import Derived.Ground.SlgnProg
import Derived.Shelf.SlicesE.Equal
import Derived.Shelf.SlicesE.Compact
import Derived.Test.YbulkcxhoChecked
namespace Go.Proofs
open Go.Shelf
def Yba.laysSlE33_f9_ren : Go.Shelf.Ren := ⟨fun | 33 => 9 | n => n, fun | 22 => 27 | 23 => 23 | 4 => 4 | 3 => 3 | 0 => 0 | n => n, fun | n => n⟩
theorem Yba.laysSlE33_f9 : Go.Proofs.SlLaysE.n33 Yba.prog Yba.laysSlE33_f9_ren := {
  mixed := by kernel_rfl
  f33 := ⟨Yba.f9.name, by decide, Yba.func9.trans (congrArg some (by kernel_rfl))⟩
  t0 := Yba.underlying0
  a0 := Yba.isAgg0
  z0 := Yba.sizeOf0
  v0 := Yba.zeroValue0
  t3 := Yba.underlying3
  a3 := Yba.isAgg3
  z3 := Yba.sizeOf3
  v3 := Yba.zeroValue3
  t4 := Yba.underlying4
  a4 := Yba.isAgg4
  z4 := Yba.sizeOf4
  v4 := Yba.zeroValue4
  t22 := Yba.underlying27
  a22 := Yba.isAgg27
  z22 := Yba.sizeOf27
  v22 := Yba.zeroValue27
  a23 := Yba.isAgg23
  z23 := Yba.sizeOf23 }
open Go.RowKit Go.Lib in
theorem Yba.slices_Equal {α : Type} [Inhabited α] (enc : α → Value) (eq : α → α → Bool) (hne : NeqAt Yba.prog 23 enc eq) (b1 o1 n c b2 o2 m d : Nat) (xs ys : List α) (w : World) (hx : n ≤ xs.length) (hy : m ≤ ys.length) (hbig : n ≤ 9223372036854775807) (hbig2 : m ≤ 9223372036854775807) (hc1 : ∀ j, j < xs.length → w.cell? ⟨b1, o1 + j, none⟩ = some (enc xs[j]!)) (hc2 : ∀ j, j < ys.length → w.cell? ⟨b2, o2 + j, none⟩ = some (enc ys[j]!)) :
    Calls Yba.prog 9 #[.slice (some ⟨b1, o1, none⟩) n c, .slice (some ⟨b2, o2, none⟩) m d] w fun e w' => e = .returned (.bool (Lib.allEq eq (xs.take n) (ys.take m))) ∧ ∃ q, w' = w.drewN q := AnyE.slices_Equal Yba.laysSlE33_f9 enc eq hne b1 o1 n c b2 o2 m d xs ys w hx hy hbig hbig2 hc1 hc2
def Yba.laysSlE43_f11_ren : Go.Shelf.Ren := ⟨fun | 43 => 11 | n => n, fun | 22 => 27 | 23 => 23 | 3 => 3 | 4 => 4 | 0 => 0 | n => n, fun | n => n⟩
theorem Yba.laysSlE43_f11 : Go.Proofs.SlLaysE.n43 Yba.prog Yba.laysSlE43_f11_ren := {
  mixed := by kernel_rfl
  f43 := ⟨Yba.f11.name, by decide, Yba.func11.trans (congrArg some (by kernel_rfl))⟩
  t0 := Yba.underlying0
  a0 := Yba.isAgg0
  z0 := Yba.sizeOf0
  v0 := Yba.zeroValue0
  t3 := Yba.underlying3
  a3 := Yba.isAgg3
  z3 := Yba.sizeOf3
  v3 := Yba.zeroValue3
  t4 := Yba.underlying4
  a4 := Yba.isAgg4
  z4 := Yba.sizeOf4
  v4 := Yba.zeroValue4
  t22 := Yba.underlying27
  a22 := Yba.isAgg27
  z22 := Yba.sizeOf27
  v22 := Yba.zeroValue27
  a23 := Yba.isAgg23
  z23 := Yba.sizeOf23 }
open Go.RowKit Go.Lib Go.Sort in
theorem Yba.slices_Compact {α : Type} [Inhabited α] [DecidableEq α] (enc : α → Value) (hO : OneCell enc) (heq : EqlAt Yba.prog 23 enc (fun x y => decide (x = y))) (hne : NeqAt Yba.prog 23 enc (fun x y => decide (x = y))) (zr : α) (v23 : ∀ w, (zeroValue 23).run Yba.prog w = .ok (enc zr) w) (blk off cap : Nat) (d : Array α) (w : World) (hH : Holds enc w blk off d) (hsz : d.size ≤ 9223372036854775807) (hcap : d.size ≤ cap) :
    Calls Yba.prog 11 #[.slice (some ⟨blk, off, none⟩) d.size cap] w fun e w' => e = .returned (.slice (some ⟨blk, off, none⟩) (compactUpTo d d.size).length cap) ∧ ∃ q, w' = putRow enc (Sort.ahead w q) blk off (compactUpTo d d.size ++ List.replicate (d.size - (compactUpTo d d.size).length) zr).toArray := AnyE.slices_Compact Yba.laysSlE43_f11 enc hO heq hne zr v23 blk off cap d w hH hsz hcap
end Go.Proofs
