/-
  What the two laws share: the keys from the start on, one batch seen from the law, the pages' loops.
-/
import Derived.Test.YbulkcxhoNode
namespace Go.Proofs.Ybulkcxho
open Go.RowKit
set_option linter.unusedSimpArgs false
set_option linter.unusedVariables false

/-- A row of keys that the call owns. -/
def OwnKeys (w : World) (base : Nat) (v : Value) (G : List Nat) : Prop := w.ownsRow base 23 1 v G.length (G.map fun (k : Nat) => Value.int .u64 k)

theorem from_take (ks : List Nat) (j i : Nat) (hi : i < ks.length) : from_ (ks.take (i + 1)) j = from_ (ks.take i) j ++ (if j ≤ ks[i]! then [ks[i]!] else []) := by
  unfold from_
  rw [List.take_add_one, List.filter_append, List.getElem?_eq_getElem hi, getElem!_pos ks i hi]
  by_cases h : j ≤ ks[i] <;> simp [h]

/-- What the law holds behind zzs4941bnode. -/
structure Held (w : World) (n vsz base nb : Nat) (ka : Option Addr) (ks : List Nat) (M : Nat → Option Value) (la : Nat) (w1 : World) : Prop where
  below : Below w.heap.size w w1
  acc : Acc w1 w.heap.size n M ks la
  node : NodeAt w1 nb w.heap.size vsz la base
  keys : 0 < ks.length → ∃ g, ka = some ⟨g, 0, none⟩ ∧ g < w1.heap.size ∧ ∀ t, t < ks.length → w1.cell? ⟨g, t, none⟩ = some (.int .u64 (ks[t]! : Nat))
  len : ks.length ≤ n
theorem Held.more {w : World} {n vsz base nb : Nat} {ka : Option Addr} {ks : List Nat} {M : Nat → Option Value} {la : Nat} {w1 w2 : World} (h : Held w n vsz base nb ka ks M la w1) (hB : Below w1.heap.size w1 w2) : Held w n vsz base nb ka ks M la w2 :=
  ⟨h.below.more h.below.size hB, h.acc.below hB, h.node.below hB, fun hp => by
    obtain ⟨g, e, hg, hc⟩ := h.keys hp
    exact ⟨g, e, Nat.lt_of_lt_of_le hg hB.size, fun t ht => (World.cell?_of_block (a := ⟨g, t, none⟩) (hB.block g hg)).trans (hc t ht)⟩, h.len⟩

theorem node64' (sb so n cap : Nat) (S L : Nat → Nat) (R : Nat → Int) (T : Nat → ByteArray) (base vs : Nat) (ad : Option Addr) (w : World) (hn : n ≤ 1024) (had : 0 < n → ad = some ⟨sb, so, none⟩) (hsb : 0 < n → sb < w.heap.size)
    (hE : Ents w sb so n S L R T) (hb : base < 65536) (hvs : vs < 4294967296) {vsz : Nat} (hv : vs % 1048577 = vsz) :
    Calls Yba.prog 5 #[.int .u16 base, .int .u32 vs, .slice ad n cap] w fun e w' => ∃ (nb : Nat) (ka : Option Addr) (kc K : Nat) (ks : List Nat) (M : Nat → Option Value) (la : Nat),
      e = .returned (.tuple #[.pointer (some ⟨nb, 0, none⟩), .slice ka K kc, .map (some w.heap.size), .int .i64 (vsz : Nat)]) ∧ K ≤ 1024 ∧ Hid (ks.length = K) ∧ Hid (Held w n vsz base nb ka ks M la w') := by
  subst hv
  refine (node64 sb so n cap S L R T base vs ad w hn had hsb hE hb hvs).mono ?_
  rintro e w1 ⟨nb, kv, ks, M, la, rfl, hB1, hA1, hN1, ⟨ka, kc, rfl, hkc⟩, hKn⟩
  exact ⟨nb, ka, kc, ks.length, ks, M, la, rfl, by omega, rfl, ⟨hB1, hA1, hN1, hkc, hKn⟩⟩

/-- Behind i keys of the first loop. -/
structure WantInv (w1 : World) (ks : List Nat) (j0 i : Nat) (v : Value) (wr : World) : Prop where
  below : Below w1.heap.size w1 wr
  own : OwnKeys wr w1.heap.size v (from_ (ks.take i) j0)

section
variable {w1 wr : World} {ks : List Nat} {j0 i : Nat} {v : Value}
theorem WantInv.skip (h : WantInv w1 ks j0 i v wr) (hi : i < ks.length) (hj : ¬ j0 ≤ ks[i]!) : WantInv w1 ks j0 (i + 1) v wr :=
  ⟨h.below, by rw [from_take ks j0 i hi, if_neg hj, List.append_nil]; exact h.own⟩
theorem WantInv.add (h : WantInv w1 ks j0 i v wr) (hi : i < ks.length) (hj : j0 ≤ ks[i]!) {w2 w3 : World} {v' : Value} (h2 : Below wr.heap.size wr w2)
    (own : w3.ownsRow w1.heap.size 23 1 v' ((from_ (ks.take i) j0).length + 1) ((from_ (ks.take i) j0).map (fun (k : Nat) => Value.int .u64 k) ++ [.int .u64 (ks[i]! : Nat)])) (g : w2.grownBy w3 v.ownBlock) : WantInv w1 ks j0 (i + 1) v' w3 := by
  have hB := h.below.more h.below.size h2
  refine ⟨hB.grown g hB.size (fun k hk => (h.own.lt k hk).1), ?_⟩
  rw [from_take ks j0 i hi, if_pos hj]
  unfold OwnKeys
  simpa using own
end

/-! ### one batch, seen from the law -/
theorem chunk_app (f : Nat → Nat) : ∀ (ks : List Nat) (c b : Nat), (chunk f ks c b).1 ++ (chunk f ks c b).2 = ks
  | [], _, _ => rfl
  | k :: ks, c, b => by
    rw [chunk]
    split
    · rfl
    · simp [chunk_app f ks]
theorem chunk_len (f : Nat → Nat) : ∀ (ks : List Nat) (c b : Nat), c ≤ 64 → c + (chunk f ks c b).1.length ≤ 64
  | [], c, _, h => by simp [chunk]; omega
  | k :: ks, c, b, h => by
    rw [chunk]
    split
    · simp; omega
    · have := chunk_len f ks (c + 1) (b + f k) (by omega)
      simp
      omega
theorem chunk_ne (f : Nat → Nat) (ks : List Nat) (h : ks ≠ []) : (chunk f ks 0 0).1 ≠ [] := by
  cases ks with
  | nil => exact absurd rfl h
  | cons k ks => rw [chunk, if_neg (by omega)]; simp

theorem Acc.shape {w : World} {mb n : Nat} {M : Nat → Option Value} {ks : List Nat} {la : Nat} (h : Acc w mb n M ks la) {k : Nat} (hk : k ∈ ks) :
    ∃ (r : Int) (s : ByteArray) (g l : Nat), M k = some (.agg #[.int .u64 r, .string s, .slice (some ⟨g, 0, none⟩) l l]) ∧ l ≤ 65535 ∧ rep M k = [.int .u64 k, .int .u64 r, .string s, .slice (some ⟨g, 0, none⟩) l l] := by
  have h1 := (h.dom k).2 hk
  obtain ⟨v, hv⟩ := Option.isSome_iff_exists.1 h1
  obtain ⟨r, s, g, l, rfl, hl, _⟩ := h.elem k v hv
  exact ⟨r, s, g, l, hv, hl, by simp [rep, hv]⟩

theorem flat_get {f : Nat → List Value} : ∀ (t : List Nat), (∀ k ∈ t, (f k).length = 4) → ∀ p c, p < t.length → c < 4 → (t.flatMap f)[p * 4 + c]? = (f t[p]!)[c]?
  | [], _, p, c, hp, _ => absurd hp (Nat.not_lt_zero _)
  | k :: t, h, p, c, hp, hc => by
    have hk := h k (List.mem_cons_self)
    rw [List.flatMap_cons]
    cases p with
    | zero =>
      rw [Nat.zero_mul, Nat.zero_add, List.getElem?_append_left (by omega)]
      rfl
    | succ p =>
      rw [List.getElem?_append_right (by omega), show (p + 1) * 4 + c - (f k).length = p * 4 + c by omega, flat_get t (fun x hx => h x (List.mem_cons_of_mem _ hx)) p c (by simpa using hp) hc]
      rfl

theorem from_from {ks : List Nat} (hp : ks.Pairwise (· < ·)) : ∀ {j x : Nat} {l : List Nat}, ∀ {t : List Nat}, t ++ x :: l = from_ ks j → from_ ks x = x :: l := by
  intro j x l t e
  have hs : (t ++ x :: l).Pairwise (· < ·) := by rw [e]; exact hp.filter _
  obtain ⟨_, h2, h3⟩ := List.pairwise_append.1 hs
  have hxj : j ≤ x := by
    have : x ∈ from_ ks j := by rw [← e]; simp
    simpa using (List.mem_filter.1 this).2
  have e2 : from_ ks x = from_ (from_ ks j) x := by
    unfold from_
    rw [List.filter_filter]
    refine List.filter_congr fun k _ => ?_
    by_cases h : x ≤ k
    · have : j ≤ k := by omega
      simp [h, this]
    · simp [h]
  rw [e2, ← e]
  unfold from_
  rw [List.filter_append, List.filter_eq_nil_iff.2 (fun k hk => by have := h3 k hk x (by simp); simp; omega), List.nil_append, List.filter_eq_self.2 (fun k hk => by
    rcases List.mem_cons.1 hk with rfl | hk
    · simp
    · have := (List.pairwise_cons.1 h2).1 k hk; simp; omega)]

/-- What report hands back. -/
structure Batch (wx w' : World) (M : Nat → Option Value) (rem t l : List Nat) (ao : Option Addr) (rc N rest : Nat) : Prop where
  len : t.length = N
  app : t ++ l = rem
  hd : rest = l.headD 0
  ne : rem ≠ [] → t ≠ []
  own : w'.ownsRow (wx.heap.size + 1) 80 4 (.slice ao N rc) N (t.flatMap (rep M))
  below : Below wx.heap.size wx w'
  four : ∀ k ∈ t, (rep M k).length = 4
  shape : ∀ k ∈ rem, ∃ (r : Int) (s : ByteArray) (g l : Nat), rep M k = [.int .u64 k, .int .u64 r, .string s, .slice (some ⟨g, 0, none⟩) l l]

theorem report64' (nb mb n : Nat) (M : Nat → Option Value) (ks : List Nat) (la vsz base from0 : Nat) (w : World) (hA : Acc w mb n M ks la) (hN : NodeAt w nb mb vsz la base) (hv : vsz ≤ 1048576) (hb : base ≤ 65535) (hf : from0 < 18446744073709551616) :
    Calls Yba.prog 7 #[.pointer (some ⟨nb, 0, none⟩), .int .u64 from0] w fun e w' => ∃ (ao : Option Addr) (rc N rest : Nat), e = .returned (.tuple #[.slice ao N rc, .int .u64 (rest : Nat)]) ∧ N ≤ 64 ∧
      Hid (Batch w w' M (from_ ks (max from0 (base + 1))) (chunk (cnt M vsz) (from_ ks (max from0 (base + 1))) 0 0).1 (chunk (cnt M vsz) (from_ ks (max from0 (base + 1))) 0 0).2 ao rc N rest) := by
  refine (report64 nb mb n M ks la vsz base from0 w hA hN hv hb hf).mono ?_
  rintro e w' ⟨rv, rest, rfl, hr, hown, hB⟩
  have happ := chunk_app (cnt M vsz) (from_ ks (max from0 (base + 1))) 0 0
  have hlen := chunk_len (cnt M vsz) (from_ ks (max from0 (base + 1))) 0 0 (by omega)
  have hne := chunk_ne (cnt M vsz) (from_ ks (max from0 (base + 1)))
  have hin : ∀ k ∈ from_ ks (max from0 (base + 1)), k ∈ ks := fun k hk => (List.mem_filter.1 hk).1
  obtain ⟨ao, rc, e⟩ : ∃ ao rc, rv = .slice ao (chunk (cnt M vsz) (from_ ks (max from0 (base + 1))) 0 0).1.length rc := by
    rcases hown.2 with ⟨h1, h2⟩ | ⟨g, cap, _, h1, _⟩
    · exact ⟨none, 0, by rw [h1, h2]⟩
    · exact ⟨_, _, h1⟩
  subst e
  refine ⟨ao, rc, _, rest, rfl, by omega, ⟨rfl, happ, hr, hne, hown, hB, fun k hk => ?_, fun k hk => ?_⟩⟩
  · obtain ⟨r, s, g, l, _, _, e⟩ := hA.shape (hin k (by rw [← happ]; exact List.mem_append_left _ hk))
    rw [e]; rfl
  · obtain ⟨r, s, g, l, _, _, e⟩ := hA.shape (hin k hk)
    exact ⟨r, s, g, l, e⟩

theorem row_ne {w : World} {base base' : Nat} {rv v : Value} {n m : Nat} {xs ys : List Value} (h : w.ownsRow base 80 4 rv n xs) (h' : w.ownsRow base' 23 1 v m ys) : rv.ownBlock = none ∨ rv.ownBlock ≠ v.ownBlock := by
  rcases h.2 with ⟨rfl, _⟩ | ⟨g, cap, cur, rfl, _, hg, _⟩
  · exact Or.inl rfl
  · refine Or.inr fun e => ?_
    rcases h'.2 with ⟨rfl, _⟩ | ⟨g', cap', cur', rfl, _, hg', _⟩
    · cases e
    · simp only [Value.ownBlock, Option.some.injEq] at e
      subst e
      rw [hg] at hg'
      cases hg'

theorem row_cells {w : World} {base N rc : Nat} {ao : Option Addr} {xs : List Value} (h : w.ownsRow base 80 4 (.slice ao N rc) N xs) (hN : 0 < N) : ∃ rb, ao = some ⟨rb, 0, none⟩ ∧ ∀ j u, xs[j]? = some u → w.cell? ⟨rb, j, none⟩ = some u := by
  rcases h.2 with ⟨h1, h2⟩ | ⟨g, cap, cur, h1, _, hg, _, _, _, ht⟩
  · omega
  · simp only [Value.slice.injEq] at h1
    refine ⟨g, h1.1, fun j u hu => ?_⟩
    rw [cell_of_row w g j cur 80 (0, 0) hg, ← Array.getElem?_toList]
    rw [← ht, List.getElem?_take] at hu
    split at hu
    · exact hu
    · cases hu

/-- The inner loop, behind p reports. -/
structure CopyInv (W0 : World) (M : Nat → Option Value) (t : List Nat) (b : Nat) (ao : Option Addr) (rc N : Nat) (G : List Nat) (p : Nat) (v : Value) (wy : World) : Prop where
  below : Below W0.heap.size W0 wy
  rep : wy.ownsRow b 80 4 (.slice ao N rc) N (t.flatMap (rep M))
  own : OwnKeys wy W0.heap.size v (G ++ t.take p)
theorem CopyInv.step {W0 : World} {M : Nat → Option Value} {t : List Nat} {b : Nat} {ao : Option Addr} {rc N : Nat} {G : List Nat} {p : Nat} {v v' : Value} {wy w2 w3 : World} (h : CopyInv W0 M t b ao rc N G p v wy) (hp : p < t.length)
    (h2 : Below wy.heap.size wy w2) (own : w3.ownsRow W0.heap.size 23 1 v' ((G ++ t.take p).length + 1) ((G ++ t.take p).map (fun (k : Nat) => Value.int .u64 k) ++ [.int .u64 (t[p]! : Nat)])) (g : w2.grownBy w3 v.ownBlock) :
    CopyInv W0 M t b ao rc N G (p + 1) v' w3 := by
  have hB := h.below.more h.below.size h2
  have hr := ownsRow_below h.rep h2
  have ho := ownsRow_below h.own h2
  refine ⟨hB.grown g hB.size (fun k hk => (h.own.lt k hk).1), hr.kept g (row_ne hr ho), ?_⟩
  unfold OwnKeys
  rw [List.take_add_one, List.getElem?_eq_getElem hp]
  rw [getElem!_pos t p hp] at own
  simp only [Option.toList_some]
  rw [← List.append_assoc, List.length_append, List.map_append]
  simpa using own

/-- The outer loop. -/
structure PageInv (W0 : World) (ks : List Nat) (base j0 it cur : Nat) (G : List Nat) (v : Value) (wx : World) : Prop where
  below : Below W0.heap.size W0 wx
  own : OwnKeys wx W0.heap.size v G
  split : G ++ from_ ks (max cur (base + 1)) = from_ ks j0
  cnt : it + (from_ ks (max cur (base + 1))).length ≤ ks.length

theorem equalKeys {w : World} {b1 b2 : Nat} {v1 v2 : Value} {G : List Nat} (h1 : OwnKeys w b1 v1 G) (h2 : OwnKeys w b2 v2 G) (hG : G.length ≤ 1024) : Calls Yba.prog 9 #[v1, v2] w fun e w' => e = .returned (.bool true) ∧ ∃ q, w' = w.drewN q := by
  have cellsOf : ∀ {b : Nat} {g cap : Nat} {cur : Array Value}, w.heap[g]? = some (.cells cur 23 (0, 0)) → cur.toList.take (G.length * 1) = (G.map fun (k : Nat) => Value.int .u64 k) → ∀ j, j < G.length → w.cell? ⟨g, j, none⟩ = some (.int .u64 (G[j]! : Nat)) := by
    intro b g cap cur hg ht j hj
    rw [cell_of_row w g j cur 23 (0, 0) hg, ← Array.getElem?_toList]
    have e : (cur.toList.take (G.length * 1))[j]? = cur.toList[j]? := List.getElem?_take_of_lt (by omega)
    rw [← e, ht, List.getElem?_map, List.getElem?_eq_getElem hj, getElem!_pos G j hj]
    rfl
  by_cases h0 : G.length = 0
  · have shape : ∀ {b : Nat} {v : Value}, OwnKeys w b v G → ∃ a c, v = .slice a 0 c := by
      intro b v h
      rcases h.2 with ⟨rfl, _⟩ | ⟨g, cap, _, rfl, _⟩
      · exact ⟨_, _, rfl⟩
      · rw [h0]; exact ⟨_, _, rfl⟩
    obtain ⟨a1, c1, rfl⟩ := shape h1
    obtain ⟨a2, c2, rfl⟩ := shape h2
    refine (equal_nil _ _ _ _ _).mono ?_
    rintro e w' ⟨rfl, rfl⟩
    exact ⟨rfl, 0, rfl⟩
  · rcases h1.2 with ⟨_, h⟩ | ⟨g1, c1, cur1, rfl, _, hg1, _, _, _, ht1⟩
    · exact absurd h h0
    · rcases h2.2 with ⟨_, h⟩ | ⟨g2, c2, cur2, rfl, _, hg2, _, _, _, ht2⟩
      · exact absurd h h0
      · exact equal64 G g1 c1 g2 c2 w hG (cellsOf (b := 0) (cap := 0) hg1 ht1) (cellsOf (b := 0) (cap := 0) hg2 ht2)

section
variable {W0 wx w2 wy : World} {ks : List Nat} {base j0 it cur : Nat} {G : List Nat} {v v' : Value} {M : Nat → Option Value} {t l : List Nat} {ao : Option Addr} {rc N rest b : Nat}
theorem CopyInv.all (h : CopyInv W0 M t b ao rc N G N v' wy) (hl : t.length = N) : OwnKeys wy W0.heap.size v' (G ++ t) := by
  have := h.own
  rw [← hl, List.take_length] at this
  exact this
theorem PageInv.last (h : PageInv W0 ks base j0 it cur G v wx) (hB : Batch wx w2 M (from_ ks (max cur (base + 1))) t l ao rc N rest) (hC : CopyInv W0 M t b ao rc N G N v' wy) (hr : rest = 0) : OwnKeys wy W0.heap.size v' (from_ ks j0) := by
  have hl : l = [] := by
    cases l with
    | nil => rfl
    | cons x l =>
      have h1 : x ∈ from_ ks (max cur (base + 1)) := by rw [← hB.app]; simp
      have h2 := (List.mem_filter.1 h1).2
      have h3 := hB.hd
      simp only [decide_eq_true_eq, List.headD_cons] at h2 h3
      omega
  have := hC.all hB.len
  have e : G ++ t = from_ ks j0 := by rw [← h.split, ← hB.app, hl, List.append_nil]
  rw [e] at this
  exact this
theorem PageInv.next (h : PageInv W0 ks base j0 it cur G v wx) (hasc : ks.Pairwise (· < ·)) (hB : Batch wx w2 M (from_ ks (max cur (base + 1))) t l ao rc N rest) (hC : CopyInv W0 M t b ao rc N G N v' wy) (hr : rest ≠ 0) :
    PageInv W0 ks base j0 (it + 1) rest (G ++ t) v' wy ∧ it + 1 ≤ ks.length ∧ rest ∈ ks ∧ 0 < N ∧ ∀ k ∈ t, k < rest := by
  cases l with
  | nil => exact absurd hB.hd (by simpa using hr)
  | cons x l =>
    have h3 := hB.hd
    simp only [List.headD_cons] at h3
    subst h3
    have h1 : rest ∈ from_ ks (max cur (base + 1)) := by rw [← hB.app]; simp
    obtain ⟨h4, h5⟩ := List.mem_filter.1 h1
    simp only [decide_eq_true_eq] at h5
    have e1 : max rest (base + 1) = rest := by omega
    have e2 := from_from hasc hB.app
    have ht : t ≠ [] := hB.ne (by intro e; rw [e] at h1; cases h1)
    have htl : 0 < t.length := List.length_pos_iff.2 ht
    have e3 := congrArg List.length hB.app
    rw [List.length_append] at e3
    have e4 := h.cnt
    refine ⟨⟨hC.below, hC.all hB.len, ?_, ?_⟩, by omega, h4, by rw [← hB.len]; exact htl, ?_⟩
    · rw [e1, e2, List.append_assoc, hB.app, h.split]
    · rw [e1, e2]; omega
    · have hs : (t ++ rest :: l).Pairwise (· < ·) := by rw [hB.app]; exact hasc.filter _
      exact fun k hk => (List.pairwise_append.1 hs).2.2 k hk rest (by simp)
end
end Go.Proofs.Ybulkcxho
