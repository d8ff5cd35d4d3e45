/-
  The law's keys: sorted, then without doubles.
-/
import Derived.Test.YbulkcxhoReport
import Derived.Test.YbulkcxhoSort
import Derived.Test.YbulkcxhoCE
namespace Go.Proofs.Ybulkcxho
open Go.RowKit Go.Sort Go.Lib
set_option linter.unusedSimpArgs false
set_option linter.unusedVariables false

/-- v is a slice that holds ks. -/
def KeysAt (w : World) (v : Value) (ks : List Nat) : Prop :=
  ∃ a cap, v = .slice a ks.length cap ∧ (0 < ks.length → ∃ g, a = some ⟨g, 0, none⟩ ∧ g < w.heap.size ∧ ∀ t, t < ks.length → w.cell? ⟨g, t, none⟩ = some (.int .u64 (ks[t]! : Nat)))
theorem KeysAt.below {w w' : World} {v : Value} {ks : List Nat} (h : KeysAt w v ks) (hB : Below w.heap.size w w') : KeysAt w' v ks := by
  obtain ⟨a, cap, rfl, h⟩ := h
  refine ⟨a, cap, rfl, fun hp => ?_⟩
  obtain ⟨g, rfl, hg, hc⟩ := h hp
  exact ⟨g, rfl, Nat.lt_of_lt_of_le hg hB.size, fun t ht => (World.cell?_of_block (a := ⟨g, t, none⟩) (hB.block g hg)).trans (hc t ht)⟩

/-- The keys as numbers. -/
def ints (ks : List Nat) : Array Int := (ks.map fun (k : Nat) => (k : Int)).toArray
theorem size_ints (ks : List Nat) : (ints ks).size = ks.length := by simp [ints]
theorem get_ints (ks : List Nat) {t : Nat} (ht : t < ks.length) : (ints ks)[t]! = (ks[t]! : Nat) := by
  rw [getElem!_pos (ints ks) t (by rw [size_ints]; exact ht), getElem!_pos ks t ht]
  simp [ints]

/-- Behind Sort. -/
def MidRow (wr : World) (base : Nat) (kv : Value) (n : Nat) (ks : List Nat) (w' : World) : Prop :=
  (n = 0 ∧ w' = wr ∧ ∃ a c, kv = .slice a 0 c) ∨
  ∃ g cap R, kv = .slice (some ⟨g, 0, none⟩) n cap ∧ n ≤ cap ∧ R.size = n ∧ PermIn 0 n (ints ks) R ∧ SortedIn ltInt 0 n R ∧ RowAt w' g 0 R ∧ Turn g wr w'

theorem sortKeys {wr : World} {base n : Nat} {kv : Value} {ks : List Nat} (own : wr.ownsRow base 23 1 kv n (ks.map fun (k : Nat) => Value.int .u64 k)) (hl : ks.length = n) (hn : n ≤ 1024) :
    Calls Yba.prog 10 #[kv] wr fun e w' => e = .returned (.tuple #[]) ∧ MidRow wr base kv n ks w' := by
  rcases own.2 with ⟨rfl, rfl⟩ | ⟨g, cap, cur, rfl, hb, hg, hnc, _, hcs, htake⟩
  · refine (sort64_nil _ _ _).mono ?_
    rintro e w' ⟨rfl, rfl⟩
    exact ⟨rfl, Or.inl ⟨rfl, rfl, _, _, rfl⟩⟩
  · have hR : RowAt wr g 0 (ints ks) := by
      refine ⟨cur, hg, by rw [size_ints]; omega, fun t ht => ?_⟩
      rw [size_ints] at ht
      rw [get_ints ks ht, Nat.zero_add, ← Array.getElem?_toList]
      have e : (cur.toList.take (n * 1))[t]? = cur.toList[t]? := List.getElem?_take_of_lt (by omega)
      rw [← e, htake, List.getElem?_map, List.getElem?_eq_getElem ht, getElem!_pos ks t ht]
      rfl
    have hc := sort64 g cap (ints ks) wr hR (by rw [size_ints]; omega)
    rw [size_ints, hl] at hc
    refine hc.mono ?_
    rintro e w' ⟨rfl, R, p, s, r⟩
    exact ⟨rfl, Or.inr ⟨g, cap, R, rfl, hnc, r.1, p, s, r.2.1, r.2.2⟩⟩

theorem perm_mem {n : Nat} {ks : List Nat} {R : Array Int} (hl : ks.length = n) (p : PermIn 0 n (ints ks) R) (hR : R.size = n) (x : Int) : (∃ j, j < n ∧ R[j]! = x) ↔ ∃ k ∈ ks, (k : Int) = x := by
  obtain ⟨_, _, hp⟩ := p
  have e1 : R.extract 0 n = R := by rw [← hR]; exact Array.extract_size
  have e2 : (ints ks).extract 0 n = ints ks := by rw [← hl, ← size_ints]; exact Array.extract_size
  rw [e1, e2] at hp
  have hm : x ∈ R.toList ↔ x ∈ (ints ks).toList := hp.mem_iff
  have h1 : (∃ j, j < n ∧ R[j]! = x) ↔ x ∈ R.toList := by
    constructor
    · rintro ⟨j, hj, rfl⟩
      rw [getElem!_pos R j (by omega)]
      exact Array.mem_toList_iff.2 (Array.getElem_mem _)
    · intro h
      obtain ⟨j, hj, e⟩ := List.getElem_of_mem h
      rw [Array.length_toList] at hj
      exact ⟨j, by omega, by rw [getElem!_pos R j hj]; simpa using e⟩
  rw [h1, hm]
  simp [ints]

theorem compactKeys {wr w' : World} {base n : Nat} {kv : Value} {ks : List Nat} (h : MidRow wr base kv n ks w') (hl : ks.length = n) (hn : n ≤ 1024) :
    Calls Yba.prog 11 #[kv] w' fun e w'' => ∃ kv' ks', e = .returned kv' ∧ KeysAt w'' kv' ks' ∧ ks'.Pairwise (· < ·) ∧ (∀ k, k ∈ ks' ↔ k ∈ ks) ∧ ks'.length ≤ n ∧ wr.grownBy w'' kv.ownBlock := by
  rcases h with ⟨rfl, rfl, a, c, rfl⟩ | ⟨g, cap, R, rfl, hnc, hR, p, s, r, t⟩
  · refine (compact_nil _ _ _).mono ?_
    rintro e w'' ⟨rfl, rfl⟩
    have : ks = [] := List.eq_nil_of_length_eq_zero hl
    subst this
    exact ⟨_, [], rfl, ⟨a, c, rfl, fun h => absurd h (by simp)⟩, List.Pairwise.nil, fun k => Iff.rfl, Nat.zero_le _, World.grownBy.refl _ _⟩
  · have hc := compact64 g cap R w' r (by omega) (by omega)
    rw [hR] at hc
    refine hc.mono ?_
    rintro e w'' ⟨rfl, hcell, ht⟩
    obtain ⟨q1, q2⟩ := compact_plain R n s n (Nat.le_refl _)
    obtain ⟨C, hC⟩ : ∃ C, compactUpTo R n = C := ⟨_, rfl⟩
    have hle : C.length ≤ n := by
      rw [← hC]
      unfold compactUpTo
      rw [List.length_map]
      exact Nat.le_trans (List.length_filter_le _ _) (by simp)
    rw [hC] at hcell q1 q2 ⊢
    have q3 : ∀ x, x ∈ C ↔ ∃ k ∈ ks, (k : Int) = x := fun x => (q2 x).trans (perm_mem hl p hR x)
    have hlt : g < w''.heap.size := Nat.lt_of_lt_of_le (by obtain ⟨cur, hb, _⟩ := r; exact (Array.getElem?_eq_some_iff.1 hb).1) ht.size
    refine ⟨_, C.map Int.toNat, rfl, ⟨some ⟨g, 0, none⟩, cap, by simp, fun _ => ⟨g, rfl, hlt, fun j hj => ?_⟩⟩, ?_, ?_, by simpa using hle, t.trans ht⟩
    · rw [List.length_map] at hj
      rw [hcell j hj, getElem!_pos (C.map Int.toNat) j (by simpa using hj), getElem!_pos C j hj, List.getElem_map]
      obtain ⟨k, _, e⟩ := (q3 C[j]).1 (List.getElem_mem hj)
      rw [← e]
      simp
    · rw [List.pairwise_map]
      refine List.Pairwise.imp_of_mem ?_ q1
      intro x y hx hy hxy
      obtain ⟨k, _, rfl⟩ := (q3 x).1 hx
      obtain ⟨k', _, rfl⟩ := (q3 y).1 hy
      simp only [Int.toNat_natCast]
      omega
    · intro k
      rw [List.mem_map]
      constructor
      · rintro ⟨x, hx, rfl⟩
        obtain ⟨k', hk', rfl⟩ := (q3 x).1 hx
        simpa using hk'
      · intro hk
        exact ⟨k, (q3 k).2 ⟨k, hk, rfl⟩, by simp⟩
end Go.Proofs.Ybulkcxho
