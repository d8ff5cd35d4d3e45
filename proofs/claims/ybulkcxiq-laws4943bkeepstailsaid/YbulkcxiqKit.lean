/-
  Laws for the walks over tail.Write, zzs4943bstep, LawS4943BKeepsTail: append onto an owned row from whatever source, the value written out; states of the two rows.
-/
import Derived.Test.YbulkcxiqRows
import Derived.WalkKit
import Derived.ProofKit
import Derived.Deep.RegionLaw
import Derived.Deep.AppendLies
import Derived.Laws.BytesArg
namespace Go.Proofs.Ybulkcxiq
open Go.RowKit

/-- What a source of an append is told: nil; or an address with its cells. -/
def SrcAt (w : World) (ap : Option Addr) (m c : Nat) (news : List Value) : Prop :=
  news.length = m ∧ ((ap = none ∧ m = 0 ∧ c = 0) ∨ ∃ ad : Addr, ap = some ad ∧ ∀ j u, news[j]? = some u → w.cell? (ad.add j) = some u)

theorem owned_shape {w : World} {base : Nat} {e : TypeId} {size : Nat} {v : Value} {n : Nat} {xs : List Value} (h : w.ownsRow base e size v n xs) : ∃ ao cap, v = .slice ao n cap := by
  rcases h.2 with ⟨rfl, rfl⟩ | ⟨g, cap, cur, rfl, _⟩
  · exact ⟨none, 0, rfl⟩
  · exact ⟨_, cap, rfl⟩

theorem run_append_any {P : Program} (w : World) (base : Nat) (t ty e : TypeId) (i : TypeInfo) (z : Value) (bytes : Nat) (ht : P.underlying t = some (.slice e)) (hi : P.info? e = some i) (hz : i.zero = some z)
    (hsize : i.size = 1) (hby : i.bytes = bytes) (hzs : z.cells.size = 1)
    (v : Value) (n : Nat) (xs : List Value) (hown : w.ownsRow base e 1 v n xs)
    (ap : Option Addr) (m c : Nat) (news : List Value) (hsrc : SrcAt w ap m c news) (h1 : ∀ u ∈ news, u.oneCell' = true)
    (h63 : n + m ≤ maxLen) (hbytes : (n + m) * bytes ≤ 140737488355328) (hbase : base ≤ w.heap.size) :
    ∃ ao cap w', (Builtin.append_ #[t, t] ty #[v, .slice ap m c]).run P w = .ok (.slice ao (n + m) cap) w' ∧ w'.ownsRow base e 1 (.slice ao (n + m) cap) (n + m) (xs ++ news) ∧ w.grownBy w' v.ownBlock ∧
      ((Value.slice ao (n + m) cap).ownBlock = v.ownBlock ∨ (Value.slice ao (n + m) cap).ownBlock = some w.heap.size) := by
  obtain ⟨hl, hsrc⟩ := hsrc
  rcases hsrc with ⟨rfl, rfl, rfl⟩ | ⟨ad, rfl, hc⟩
  · obtain rfl : news = [] := List.eq_nil_of_length_eq_zero hl
    obtain ⟨ao, cap, rfl⟩ := owned_shape hown
    refine ⟨ao, cap, w, ?_, by simpa using hown, World.grownBy.refl _ _, Or.inl rfl⟩
    exact run_append_owned_none (P := P) (w := w) base t ty e i 1 ht hi _ n xs hown
  · obtain ⟨v', w', hr, h2, h3, _, h5⟩ := run_append_own_at (P := P) w base t ty e i z 1 bytes ht hi hz hsize hby hzs (by decide) v n xs hown ad m c news (by omega) hc h1 h63 hbytes hbase
    obtain ⟨ao, cap, rfl⟩ := owned_shape h2
    exact ⟨ao, cap, w', hr, h2, h3, h5⟩

theorem wpList_append_any {P : Program} (w : World) {ops : Array Oper} {rest : List Oper} {o : Oper} {a : Act} {Q : Exit → Act → World → Prop} (hgd : o.guard = none) (s x : Operand) (t : TypeId)
    (ho : o.op = .call { callee := .builtin .append, args := #[s, x], argTypes := #[t, t] })
    (base : Nat) (e : TypeId) (i : TypeInfo) (z : Value) (bytes : Nat) (ht : P.underlying t = some (.slice e)) (hi : P.info? e = some i) (hz : i.zero = some z)
    (hsize : i.size = 1) (hby : i.bytes = bytes) (hzs : z.cells.size = 1)
    (v : Value) (n : Nat) (xs : List Value) (hs : a.eval s = v) (hown : w.ownsRow base e 1 v n xs)
    (ap : Option Addr) (m c : Nat) (news : List Value) (hx : a.eval x = .slice ap m c) (hsrc : SrcAt w ap m c news) (h1 : ∀ u ∈ news, u.oneCell' = true)
    (N : Nat) (hN : n + m = N) (h63 : N ≤ maxLen) (hbytes : N * bytes ≤ 140737488355328) (hbase : base ≤ w.heap.size)
    (h : ∀ ao cap w', w'.ownsRow base e 1 (.slice ao N cap) N (xs ++ news) → w.grownBy w' v.ownBlock →
      ((Value.slice ao N cap).ownBlock = v.ownBlock ∨ (Value.slice ao N cap).ownBlock = some w.heap.size) → wpList P ops Q rest (a.put o.dst (.slice ao N cap)) w') : wpList P ops Q (o :: rest) a w := by
  refine wpList_plain hgd fun K hK => ?_
  subst hN
  obtain ⟨ao, cap, w', hr, h2, h3, h4⟩ := run_append_any (P := P) w base t o.type e i z bytes ht hi hz hsize hby hzs v n xs hown ap m c news hsrc h1 h63 hbytes hbase
  unfold Oper.wp execOp
  simp only [ho, resolve, invoke, builtin, Sem.run_bind, Sem.run_pure, Result.andThen_ok, List.map_toArray, List.map_cons, List.map_nil, hs, hx, hr]
  exact hK _ _ (h ao cap w' h2 h3 h4)

theorem Yba.info5 : (Yba.prog.info? 5).map (fun i => (i.zero, i.size, i.bytes)) = some (some (.int .u8 0), 1, 1) := by kernel_rfl

/-- Bytes as cells. -/
def bv (xs : List Int) : List Value := xs.map (Value.int .u8)
theorem bv_length (xs : List Int) : (bv xs).length = xs.length := by simp [bv]
theorem bv_append (xs ys : List Int) : bv (xs ++ ys) = bv xs ++ bv ys := by simp [bv]
theorem bv_one (xs : List Int) : ∀ u ∈ bv xs, u.oneCell' = true := ints_oneCell _ _

/-- What is kept: the last K. -/
def keptN (K : Nat) (xs : List Int) : List Int := xs.drop (xs.length - K)
theorem keptN_length (K : Nat) (xs : List Int) : (keptN K xs).length = min xs.length K := by simp [keptN]; omega
theorem keptN_small (K : Nat) (xs : List Int) (h : xs.length ≤ K) : keptN K xs = xs := by simp [keptN, show xs.length - K = 0 by omega]
theorem keptN_kept (K : Nat) (xs ys : List Int) : keptN K (keptN K xs ++ ys) = keptN K (xs ++ ys) := by
  by_cases h : xs.length ≤ K
  · rw [keptN_small K xs h]
  · have e1 : (keptN K xs ++ ys).length - K = ys.length := by rw [List.length_append, keptN_length]; omega
    have e2 : (xs ++ ys).length - K = (xs.length - K) + ys.length := by rw [List.length_append]; omega
    have e3 : keptN K xs ++ ys = List.drop (xs.length - K) (xs ++ ys) := by rw [List.drop_append_of_le_length (by omega)]; rfl
    have e4 : keptN K (keptN K xs ++ ys) = List.drop ((keptN K xs ++ ys).length - K) (keptN K xs ++ ys) := rfl
    have e5 : keptN K (xs ++ ys) = List.drop ((xs ++ ys).length - K) (xs ++ ys) := rfl
    rw [e4, e5, e1, e2, e3, List.drop_drop]
/-- What is kept: the last 4096. -/
def kept (xs : List Int) : List Int := keptN 4096 xs
theorem kept_length (xs : List Int) : (kept xs).length = min xs.length 4096 := keptN_length _ xs
theorem kept_small (xs : List Int) (h : xs.length ≤ 4096) : kept xs = xs := keptN_small _ xs h
theorem kept_kept (xs ys : List Int) : kept (kept xs ++ ys) = kept (xs ++ ys) := keptN_kept _ xs ys

end Go.Proofs.Ybulkcxiq
