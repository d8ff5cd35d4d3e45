import Derived.Test.YbulkcxjeKit
namespace Go.Proofs.Ybulkcxje
open Go.RowKit

/-- What a slice of counts reads as. -/
def Reads2 (w : World) (ao : Option Addr) (cs : List (Int × Int)) : Prop :=
  cs.length = 0 ∨ ∃ g off, ao = some ⟨g, off, none⟩ ∧ g < w.heap.size ∧ ∀ j, j < cs.length * 2 → w.cell? ⟨g, off + j, none⟩ = cellOf cs j

theorem Own.reads {w : World} {base : Nat} {ao : Option Addr} {n cap : Nat} {cs : List (Int × Int)} (h : Own w base (.slice ao n cap) cs) : Reads2 w ao cs := by
  have h' := h
  rcases h with ⟨_, rfl⟩ | ⟨g, off, cap', cur, hv, _, hg, _⟩
  · exact .inl rfl
  · obtain ⟨rfl, rfl, rfl⟩ : ao = some ⟨g, off, none⟩ ∧ n = cs.length ∧ cap = cap' := by simpa using hv
    exact .inr ⟨g, off, rfl, lt_of_block hg, fun j hj => h'.cells hj⟩

theorem cellOf_even {cs : List (Int × Int)} {k : Nat} (h : k < cs.length) : cellOf cs (k * 2) = some (.int .u64 (cs.getD k default).1) := by
  have e1 : k * 2 / 2 = k := by omega
  have e2 : k * 2 % 2 = 0 := by omega
  simp [cellOf, e1, e2, h]
theorem cellOf_odd {cs : List (Int × Int)} {k : Nat} (h : k < cs.length) : cellOf cs (k * 2 + 1) = some (.int .u64 (cs.getD k default).2) := by
  have e1 : (k * 2 + 1) / 2 = k := by omega
  have e2 : (k * 2 + 1) % 2 = 1 := by omega
  simp [cellOf, e1, e2, h]

set_option maxHeartbeats 400000 in
theorem closure (a b inc : Int) (bc : Nat) (w : World) (hc : w.cell? ⟨bc, 0, none⟩ = some (.int .u64 inc)) (hb : bc < w.heap.size) :
    Calls Yba.prog 17 #[.agg #[.int .u64 a, .int .u64 b], .pointer (some ⟨bc, 0, none⟩)] w fun e w' => e = .returned (.bool (a == inc)) ∧ Below w.heap.size w w' := by
  go_enter Yba.func17, Yba.ntmps17
  go_wp2
  go_ret
  exact ⟨rfl, (Below.refl _ w).alloc (Nat.le_refl _) _⟩

set_option maxHeartbeats 400000 in
theorem index_any (ao : Option Addr) (cap i : Nat) (cs : List (Int × Int)) (inc : Int) (bc : Nat) (w : World) (hr : Reads2 w ao cs) (hc : w.cell? ⟨bc, 0, none⟩ = some (.int .u64 inc)) (hb : bc < w.heap.size) (hn : cs.length ≤ 1000000)
    (hi : i ≤ cs.length) (hbef : ∀ k, k < i → ((cs.getD k default).1 == inc) = false) (hat : i < cs.length → ((cs.getD i default).1 == inc) = true) :
    Calls Yba.prog 16 #[.slice ao cs.length cap, .func (.func 17) #[] #[.pointer (some ⟨bc, 0, none⟩)]] w fun e w' => e = .returned (.int .i64 (if i < cs.length then (i : Int) else -1)) ∧ Below w.heap.size w w' := by
  obtain ⟨n, hnl⟩ : ∃ n, cs.length = n := ⟨_, rfl⟩
  have HN : Hid (cs.length = n) := hnl
  rw [hnl] at hn hi hat ⊢
  clear hnl
  go_enter Yba.func16, Yba.ntmps16
  go_wp2_with fail
  go_loopw [8] (fun t wr => ∃ k : Nat, k ≤ i ∧ t = .int .i64 k ∧ Below w.heap.size w wr) (fun t _ => i - (intOf t).toNat)
  case atStart => exact ⟨0, Nat.zero_le _, rfl, Below.refl _ _⟩
  case round =>
    obtain ⟨k, hk, rfl, hB⟩ := hrel
    by_cases hkn : k < n
    · rcases hr with hz | ⟨g, off, rfl, hg, hcell⟩
      · have := HN.out; omega
      have hsz := hB.size
      have hc1 : wr.cell? ⟨g, off + k * 2, none⟩ = some (.int .u64 (cs.getD k default).1) := by
        rw [hB.cell (p := ⟨g, off + k * 2, none⟩) hg, hcell (k * 2) (by have := HN.out; omega), cellOf_even (by have := HN.out; omega)]
      have hc2 : wr.cell? ⟨g, off + k * 2 + 1, none⟩ = some (.int .u64 (cs.getD k default).2) := by
        rw [Nat.add_assoc, hB.cell (p := ⟨g, off + (k * 2 + 1), none⟩) hg, hcell (k * 2 + 1) (by have := HN.out; omega), cellOf_odd (by have := HN.out; omega)]
      have hcw : wr.cell? ⟨bc, 0, none⟩ = some (.int .u64 inc) := (hB.cell (p := ⟨bc, 0, none⟩) hb).trans hc
      have hbw : bc < wr.heap.size := by omega
      by_cases hki : k < i
      · have htest := hbef k hki
        clear hat hbef hc hcell
        generalize cs.getD k default = c at hc1 hc2 htest
        go_wp2_with fail
        refine (closure c.1 c.2 inc bc _ hcw hbw).mono ?_
        rintro e w1 ⟨rfl, hb1⟩
        have hB1 := hB.trans (hb1.mono (by omega))
        clear hb1 hB hc1 hc2 hcw
        go_wp2
        go_roundw
        case rel => exact ⟨k + 1, by omega, by go_num, hB1⟩
        case measure => simp [intOf]; omega
      · have hki' : k = i := by omega
        subst hki'
        have htest := hat hkn
        clear hat hbef hc hcell
        generalize cs.getD k default = c at hc1 hc2 htest
        go_wp2_with fail
        refine (closure c.1 c.2 inc bc _ hcw hbw).mono ?_
        rintro e w1 ⟨rfl, hb1⟩
        have hB1 := hB.trans (hb1.mono (by omega))
        clear hb1 hB hc1 hc2 hcw
        go_wp2
        go_ret
        exact ⟨rfl, hB1⟩
    · have hin : ¬ i < n := by omega
      clear hat hbef
      go_wp2
      go_ret
      exact ⟨rfl, hB⟩
end Go.Proofs.Ybulkcxje
