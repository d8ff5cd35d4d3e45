import Derived.Test.YbulkcxiqStep
namespace Go.Proofs.Ybulkcxiq
open Go.RowKit

/-- The running total. -/
def tot (L : Nat → Nat) (l0 : Nat) : Nat → Nat
  | 0 => l0
  | r + 1 => tot L l0 r + L r
theorem tot_mono (L : Nat → Nat) (l0 r : Nat) : ∀ d, tot L l0 r ≤ tot L l0 (r + d)
  | 0 => Nat.le_refl _
  | d + 1 => Nat.le_trans (tot_mono L l0 r d) (by show _ ≤ tot L l0 (r + d) + L (r + d); omega)
theorem tot_le (L : Nat → Nat) (l0 : Nat) (h0 : l0 ≤ 65536) : ∀ r, (∀ j, j < r → L j ≤ 65536) → tot L l0 r ≤ 65536 + 65536 * r
  | 0, _ => by show l0 ≤ _; omega
  | r + 1, h => by
    have := tot_le L l0 h0 r (fun j hj => h j (by omega))
    have := h r (by omega)
    show tot L l0 r + L r ≤ _
    omega

theorem all_succ {L : Nat → Nat} {r : Nat} (h : ∀ j, j < r → L j ≤ 65536) (hr : L r ≤ 65536) : ∀ j, j < r + 1 → L j ≤ 65536 := fun j hj => by
  by_cases e : j = r
  · subst e; exact hr
  · exact h j (by omega)

/-- What the walk is told of the chunks. -/
def Chunks (w : World) (ca : Option Addr) (len : Nat) (A : Nat → Option Addr) (L C : Nat → Nat) (Z : Nat → List Int) : Prop :=
  len = 0 ∨ ∃ b off, ca = some ⟨b, off, none⟩ ∧ b < w.heap.size ∧ ∀ r, r < len → w.cell? ⟨b, off + r, none⟩ = some (.slice (A r) (L r) (C r)) ∧ SrcAt w (A r) (L r) (C r) (bv (Z r)) ∧ ∀ ad : Addr, A r = some ad → 0 < L r → ad.block < w.heap.size

/-- Behind the first append and the box: the source still lies there; the boxed slice is owned; all old blocks are as they were. -/
theorem boxed {w w1 : World} {a0 : Option Addr} {l0 c0 cap1 : Nat} {ao1 : Option Addr} {z0 : List Int} (hs0 : SrcAt w a0 l0 c0 (bv z0)) (hlt0 : ∀ ad : Addr, a0 = some ad → 0 < l0 → ad.block < w.heap.size)
    (hown1 : w1.ownsRow w.heap.size 5 1 (.slice ao1 l0 cap1) l0 ([] ++ bv z0)) (hgrow1 : w.grownBy w1 (Value.slice none 0 0).ownBlock) :
    SrcAt (w1.alloc (.cells #[.slice ao1 l0 cap1] 27)) a0 l0 c0 (bv z0) ∧ (w1.alloc (.cells #[.slice ao1 l0 cap1] 27)).ownsRow w.heap.size 5 1 (.slice ao1 l0 cap1) l0 (bv z0) ∧
    (w1.alloc (.cells #[.slice ao1 l0 cap1] 27)).heap[w1.heap.size]? = some (.cells #[.slice ao1 l0 cap1] 27 (0, 0)) ∧ Below w.heap.size w (w1.alloc (.cells #[.slice ao1 l0 cap1] 27)) ∧ w.heap.size ≤ w1.heap.size := by
  have hsz := hgrow1.size
  have hb : Below w.heap.size w w1 := ⟨hgrow1.os, hgrow1.tape, hgrow1.output, hgrow1.size, fun k hk => hgrow1.block k hk (by simp [Value.ownBlock])⟩
  have hb2 := hb.alloc hsz (.cells #[.slice ao1 l0 cap1] 27)
  refine ⟨hs0.keep fun ad h1 h2 => hb2.block _ (hlt0 ad h1 h2), ?_, heap_alloc_new _ _, hb2, hsz⟩
  have := hown1.alloc (.cells #[.slice ao1 l0 cap1] 27)
  simpa using this

theorem none_or (o : Option Nat) : o = none ∨ o ≠ none := by cases o <;> simp

/-- The state stays behind writes into another row. -/
theorem St.grown {w w' : World} {base bt gb : Nat} {vt vm : Value} {xs ys : List Int} (h : St w base bt vt vm xs ys) (hg : w.grownBy w' (some gb)) (h1 : bt ≠ gb) (h2 : vt.ownBlock ≠ some gb) (h3 : vm.ownBlock ≠ some gb) : St w' base bt vt vm xs ys := by
  have := hg.size
  have := h.hbase
  refine ⟨by omega, h.hbb, ?_, h.ht.kept hg (.inr h2), h.hk, h.hl, h.hm.kept hg (.inr h3), h.hd⟩
  rw [hg.block bt (lt_of_block h.hbt) (by simpa using h1)]
  exact h.hbt

/-- The patterned row behind one store. -/
theorem row_stored {w wr : World} {base gb nb k : Nat} {zs : List Int} (x : Int) (hl : zs.length = nb) (hown : wr.ownsRow base 5 1 (.slice (some ⟨gb, 0, none⟩) nb nb) nb (bv zs)) (hg : w.grownBy wr (some gb)) :
    (zs.set k x).length = nb ∧ (wr.setCell ⟨gb, k, none⟩ (.int .u8 x)).ownsRow base 5 1 (.slice (some ⟨gb, 0, none⟩) nb nb) nb (bv (zs.set k x)) ∧ w.grownBy (wr.setCell ⟨gb, k, none⟩ (.int .u8 x)) (some gb) := by
  obtain ⟨h1, h2⟩ := hown.stored k (.int .u8 x)
  refine ⟨by simpa using hl, ?_, h2.os.trans hg.os, h2.tape.trans hg.tape, h2.output.trans hg.output, Nat.le_trans hg.size h2.size, fun j hj hne => ?_⟩
  · have e : bv (zs.set k x) = (bv zs).set k (.int .u8 x) := by simp [bv]
    rw [e]; exact h1
  · have := hg.size
    exact (h2.block j (by omega) hne).trans (hg.block j hj hne)

/-- One chunk, in the world of a round. -/
theorem chunk_at {w wr : World} {bt n cap len q : Nat} {vt : Value} {ao : Option Addr} {xs ys : List Int} {b off : Nat} {A : Nat → Option Addr} {L C : Nat → Nat} {Z : Nat → List Int} (hB : Below w.heap.size w wr)
    (hS : St wr w.heap.size bt vt (.slice ao n cap) xs ys) (hbw : b < w.heap.size)
    (hcs : ∀ r, r < len → w.cell? ⟨b, off + r, none⟩ = some (.slice (A r) (L r) (C r)) ∧ SrcAt w (A r) (L r) (C r) (bv (Z r)) ∧ ∀ ad : Addr, A r = some ad → 0 < L r → ad.block < w.heap.size) (hq : q < len) :
    wr.cell? ⟨b, off + q, none⟩ = some (.slice (A q) (L q) (C q)) ∧ SrcAt wr (A q) (L q) (C q) (bv (Z q)) ∧
    ∀ ad : Addr, A q = some ad → 0 < L q → ad.block < wr.heap.size ∧ ad.block ≠ bt ∧ some ad.block ≠ vt.ownBlock ∧ some ad.block ≠ (Value.slice ao n cap).ownBlock := by
  obtain ⟨h1, h2, h3⟩ := hcs q hq
  have hsz := hB.size
  refine ⟨(hB.cell hbw).trans h1, h2.keep fun ad e h => hB.block _ (h3 ad e h), fun ad e h => ?_⟩
  have hlt := h3 ad e h
  refine ⟨by omega, ?_, fun e => ?_, fun e => ?_⟩
  · have := hS.hbb; omega
  · have := (hS.ht.lt _ e.symm).1; omega
  · have := (hS.hm.lt _ e.symm).1; omega

/-- Behind all that is made ahead of the loops. -/
theorem started {w w1 w2 w3 w4 : World} {l0 cap1 cap3 bt : Nat} {ao1 ao3 : Option Addr} {z0 : List Int} (hz : z0.length = l0) (hl0 : l0 ≤ 65536) (hsz1 : w.heap.size ≤ w1.heap.size) (hbt : w1.heap.size = bt)
    (hown2 : w2.ownsRow w.heap.size 5 1 (.slice ao1 l0 cap1) l0 (bv z0)) (hbt2 : w2.heap[bt]? = some (.cells #[.slice ao1 l0 cap1] 27 (0, 0))) (hbel2 : Below w.heap.size w w2)
    (hown3 : w3.ownsRow w.heap.size 5 1 (.slice ao3 l0 cap3) l0 ([] ++ bv z0)) (hgrow3 : w2.grownBy w3 (Value.slice none 0 0).ownBlock)
    (hat3 : (Value.slice ao3 l0 cap3).ownBlock = (Value.slice none 0 0).ownBlock ∨ (Value.slice ao3 l0 cap3).ownBlock = some w2.heap.size) (hgrow4 : w3.grownBy w4 none) :
    St w4 w.heap.size bt (.slice ao1 l0 cap1) (.slice ao3 l0 cap3) z0 z0 ∧ Below w.heap.size w w4 ∧ bt < w3.heap.size ∧ (∀ g, (Value.slice ao1 l0 cap1).ownBlock = some g → g < w3.heap.size) ∧ (∀ g, (Value.slice ao3 l0 cap3).ownBlock = some g → g < w3.heap.size) := by
  have s2 := hbel2.size
  have s3 := hgrow3.size
  have s4 := hgrow4.size
  have hn : ∀ k, some k ≠ (Value.slice none 0 0).ownBlock := fun k => by simp [Value.ownBlock]
  have hbl := lt_of_block hbt2
  have hl2 := hown2.lt
  have hl3 := hown3.lt
  have hown3' := hown2.kept hgrow3 (none_or _)
  refine ⟨⟨by omega, by omega, ?_, ?_, fun _ => rfl, by omega, ?_, ?_⟩, ?_, by omega, fun g h => by have := (hl2 g h).2; omega, fun g h => (hl3 g h).2⟩
  · rw [hgrow4.block bt (by omega) (by simp), hgrow3.block bt hbl (hn bt)]
    exact hbt2
  · rw [hz]
    exact hown3'.kept hgrow4 (none_or _)
  · rw [hz]
    have := hown3.kept hgrow4 (none_or _)
    simpa using this
  · cases h : (Value.slice ao1 l0 cap1).ownBlock with
    | none => exact .inl rfl
    | some k =>
      right
      have := (hl2 k h).2
      rcases hat3 with h3 | h3
      · rw [h3]; exact hn k
      · rw [h3]; intro e; have := Option.some.inj e; omega
  · exact (hbel2.trans ⟨hgrow3.os, hgrow3.tape, hgrow3.output, hgrow3.size, fun k hk => hgrow3.block k (by omega) (hn k)⟩).trans ⟨hgrow4.os, hgrow4.tape, hgrow4.output, hgrow4.size, fun k hk => hgrow4.block k (by omega) (by simp)⟩

set_option maxHeartbeats 400000 in
theorem law_a (a0 ca : Option Addr) (l0 c0 len cap : Nat) (big seed : Int) (w : World) (h : 65536 < l0) (hm : l0 ≤ maxLen) :
    Calls Yba.prog 3 #[.slice a0 l0 c0, .int .u16 big, .int .u8 seed, .slice ca len cap] w fun e w' => e = .returned (.bool true) ∧ Below w.heap.size w w' := by
  unfold maxLen at hm
  go_enter Yba.func3, Yba.ntmps3
  go_wp2
  go_ret
  exact ⟨rfl, Below.refl _ _⟩

set_option maxHeartbeats 400000 in
theorem law_b (a0 ca : Option Addr) (l0 c0 len cap : Nat) (big seed : Int) (w : World) (h : l0 ≤ 65536) (h2 : 1024 < len) (hm : len ≤ maxLen) :
    Calls Yba.prog 3 #[.slice a0 l0 c0, .int .u16 big, .int .u8 seed, .slice ca len cap] w fun e w' => e = .returned (.bool true) ∧ Below w.heap.size w w' := by
  unfold maxLen at hm
  go_enter Yba.func3, Yba.ntmps3
  go_wp2
  go_ret
  exact ⟨rfl, Below.refl _ _⟩

set_option maxHeartbeats 1000000 in
set_option maxRecDepth 100000 in
theorem law_c (a0 ca : Option Addr) (l0 c0 len cap : Nat) (big seed : Int) (z0 : List Int) (A : Nat → Option Addr) (L C : Nat → Nat) (Z : Nat → List Int) (w : World) (h0 : l0 ≤ 65536) (h2 : len ≤ 1024)
    (hb0 : 0 ≤ big) (hb1 : big ≤ 65535) (hs0 : SrcAt w a0 l0 c0 (bv z0)) (hlt0 : ∀ ad : Addr, a0 = some ad → 0 < l0 → ad.block < w.heap.size) (hch : Chunks w ca len A L C Z) (hL : ∀ r, r < len → L r ≤ maxLen) :
    Calls Yba.prog 3 #[.slice a0 l0 c0, .int .u16 big, .int .u8 seed, .slice ca len cap] w fun e w' => e = .returned (.bool true) ∧ Below w.heap.size w w' := by
  obtain ⟨i0, hi0, hz0, hz1, hz2⟩ := info_parts Yba.info5
  unfold maxLen at hL
  go_enter Yba.func3, Yba.ntmps3
  go_wp2_with fail
  go_loop [9, 32] (fun t i => ∃ r : Nat, r ≤ len ∧ i = .int .i64 r ∧ t = .int .i64 (tot L l0 r : Nat) ∧ ∀ j, j < r → L j ≤ 65536) (fun _ i => len - (intOf i).toNat)
  case atStart => exact ⟨0, Nat.zero_le _, rfl, rfl, fun j hj => absurd hj (by omega)⟩
  case round =>
    obtain ⟨r, hr, rfl, rfl, hall⟩ := hrel
    have htb := tot_le L l0 h0 r hall
    have htb2 : tot L l0 r ≤ 70000000 := by omega
    clear htb
    by_cases hlt : r < len
    · rcases hch with hz | ⟨b, off, rfl, hbw, hcs⟩
      · omega
      have hcell := (hcs r hlt).1
      have hLr := hL r hlt
      by_cases hbig : 65536 < L r
      · clear hcs hall hL
        go_wp2
        go_ret
        exact ⟨rfl, Below.refl _ _⟩
      · clear hcs hL
        have HA : Hid (∀ j, j < r → L j ≤ 65536) := hall
        clear hall
        go_wp2
        go_round
        case rel => exact ⟨r + 1, by omega, by go_num, by go_num, all_succ HA.out (by omega)⟩
        case measure => simp [intOf]; omega
    · have hrl : r = len := by omega
      subst hrl
      clear hL
      by_cases htt : 1048576 < tot L l0 r
      · go_wp2
        go_ret
        exact ⟨rfl, Below.refl _ _⟩
      · have hown0 : w.ownsRow w.heap.size 5 1 (.slice none 0 0) 0 [] := World.ownsRow_nil _ _ _ _
        obtain ⟨nb, hnb⟩ : ∃ nb : Nat, big % 10000 = (nb : Int) := ⟨(big % 10000).toNat, by omega⟩
        have hnb2 : nb < 10000 := by omega
        go_wp2_with (first
          | (at_builtin; refine wpList_append_any _ rfl (.const (.slice none 0 0)) (.tmp 46) 22 rfl w.heap.size 5 i0 (.int .u8 0) 1 Yba.underlying22 hi0 hz0 hz1 hz2 rfl _ _ _ rfl hown0 _ _ _ _ rfl hs0 (bv_one _) l0 (Nat.zero_add _) (by unfold maxLen; omega) (by omega) (Nat.le_refl _) ?_; intro ao1 cap1 w1 hown1 hgrow1 hat1; obtain ⟨hs2, hown2, hbt2, hbel2, hsz1⟩ := boxed hs0 hlt0 hown1 hgrow1; clear hown1 hgrow1 hat1)
          | (at_builtin; refine wpList_append_any _ rfl (.const (.slice none 0 0)) (.tmp 50) 22 rfl w.heap.size 5 i0 (.int .u8 0) 1 Yba.underlying22 hi0 hz0 hz1 hz2 rfl _ _ _ rfl (World.ownsRow_nil _ _ _ _) _ _ _ _ rfl hs2 (bv_one _) l0 (Nat.zero_add _) (by unfold maxLen; omega) (by omega) hbel2.size ?_; intro ao3 cap3 w3 hown3 hgrow3 hat3; have hsz3 : w.heap.size ≤ w3.heap.size := Nat.le_trans hbel2.size hgrow3.size)
          | (at_make; refine wpList_make_full _ rfl (.tmp 55) (.tmp 55) 22 rfl w.heap.size 5 i0 (.int .u8 0) 1 Yba.underlying22 hi0 hz0 hz1 .i64 .i64 _ _ nb rfl rfl hnb hnb (by rw [hz2]; omega) (by unfold maxLen; omega) hsz3 ?_; intro w4 hown4 hgrow4))
        obtain ⟨hS4, hB4, hbl, ho1, ho3⟩ := started (by have := hs0.1; rw [bv_length] at this; exact this) h0 hsz1 rfl hown2 hbt2 hbel2 hown3 hgrow3 hat3 hgrow4
        clear hown2 hbt2 hbel2 hown3 hgrow3 hat3 hgrow4 hs2
        generalize w1.heap.size = bt at *
        generalize w3.heap.size = gb at *
        have hgb4 : gb < w4.heap.size := (hown4.lt gb rfl).2
        have hownz : w4.ownsRow w.heap.size 5 1 (.slice (some ⟨gb, 0, none⟩) nb nb) nb (bv (List.replicate nb 0)) := by
          have e : bv (List.replicate nb 0) = (madeCells (Value.int .u8 0).cells (nb * 1)).toList := by
            rw [Nat.mul_one]
            show _ = (madeCells #[Value.int .u8 0] nb).toList
            rw [toList_madeCells_one]
            simp [bv]
          rw [e]; exact hown4
        clear hown4
        go_loopw [16] (fun i wr => ∃ (k : Nat) (zs : List Int), k ≤ nb ∧ i = .int .i64 k ∧ zs.length = nb ∧ wr.ownsRow w.heap.size 5 1 (.slice (some ⟨gb, 0, none⟩) nb nb) nb (bv zs) ∧ w4.grownBy wr (some gb)) (fun i _ => nb - (intOf i).toNat)
        case atStart => exact ⟨0, List.replicate nb 0, Nat.zero_le _, rfl, by simp, hownz, World.grownBy.refl _ _⟩
        case round =>
          obtain ⟨k, zs, hk, rfl, hzl, hor, hgr⟩ := hrel
          by_cases hkn : k < nb
          · have hck : wr.cell? ⟨gb, k, none⟩ = some (.int .u8 (zs.getD k 0)) := by
              rw [hor.cellAt k (by omega)]
              simp only [bv, List.getElem?_map, List.getD]
              rw [List.getElem?_eq_getElem (by omega)]
              rfl
            have hfk := hor.frozenAt k
            have HR := fun x => row_stored (k := k) x hzl hor hgr
            have HR' : Hid (∀ x, (zs.set k x).length = nb ∧ (wr.setCell ⟨gb, k, none⟩ (.int .u8 x)).ownsRow w.heap.size 5 1 (.slice (some ⟨gb, 0, none⟩) nb nb) nb (bv (zs.set k x)) ∧ w4.grownBy (wr.setCell ⟨gb, k, none⟩ (.int .u8 x)) (some gb)) := HR
            clear HR hor hgr hzl hS4 hB4 hownz ho1 ho3 hall
            go_wp2
            go_roundw
            case rel => exact ⟨k + 1, _, by omega, by go_num, (HR'.out _).1, (HR'.out _).2.1, (HR'.out _).2.2⟩
            case measure => simp [intOf]; omega
          · have hSr := hS4.grown hgr (by omega) (fun e => by have := ho1 gb e; omega) (fun e => by have := ho3 gb e; omega)
            have hBr : Below w.heap.size w wr := hB4.trans ⟨hgr.os, hgr.tape, hgr.output, hgr.size, fun j hj => hgr.block j (by have := hB4.size; omega) (fun e => by have := Option.some.inj e; omega)⟩
            have hsr : SrcAt wr (some ⟨gb, 0, none⟩) nb nb (bv zs) := ⟨by rw [bv_length]; exact hzl, .inr ⟨_, rfl, hor.cells rfl⟩⟩
            have hfr : ∀ ad : Addr, some ⟨gb, 0, none⟩ = some ad → 0 < nb → ad.block < wr.heap.size ∧ ad.block ≠ bt ∧ some ad.block ≠ (Value.slice ao1 l0 cap1).ownBlock ∧ some ad.block ≠ (Value.slice ao3 l0 cap3).ownBlock := by
              intro ad e _
              obtain rfl := Option.some.inj e
              exact ⟨by have := hgr.size; show gb < _; omega, by show gb ≠ bt; omega, fun e => by have := ho1 gb e.symm; omega, fun e => by have := ho3 gb e.symm; omega⟩
            have hzl0 : z0.length = l0 := by have := hs0.1; rw [bv_length] at this; exact this
            have HZ0 : Hid (z0.length = l0) := hzl0
            have HZS : Hid (zs.length = nb) := hzl
            have HR : Hid (∀ j, j < r → L j ≤ 65536) := hall
            clear hzl0 hzl hor hgr hS4 hB4 hownz ho1 ho3 hall hk hgb4
            go_wp2_with fail
            refine (step_any bt w.heap.size l0 cap3 _ _ z0 z0 zs _ nb nb _ hSr HZ0.out hsr hfr (by omega)).mono ?_
            rintro e w5 ⟨vt5, ao5, cap5, rfl, hS5, hB5⟩
            have hB5' := hBr.trans hB5
            have HL5 : Hid ((z0 ++ zs).length ≤ tot L l0 0 + 10000) := by show (z0 ++ zs).length ≤ l0 + 10000; rw [List.length_append, HZ0.out, HZS.out]; omega
            generalize z0 ++ zs = ys5 at *
            obtain ⟨n5, hn5⟩ : ∃ n5, ys5.length = n5 := ⟨_, rfl⟩
            rw [hn5] at hS5 HL5 ⊢
            have HN5 : Hid (ys5.length = n5) := hn5
            clear hn5 hSr hBr hB5 hsr hfr
            go_wp2_with fail
            go_loopw [13, 81] (fun m i wr => ∃ (q : Nat) (vt : Value) (ao : Option Addr) (n cp : Nat) (xs ys : List Int), q ≤ r ∧ i = .int .i64 q ∧ m = .slice ao n cp ∧ ys.length = n ∧ n ≤ tot L l0 q + 10000 ∧ St wr w.heap.size bt vt (.slice ao n cp) xs ys ∧ Below w.heap.size w wr) (fun _ i _ => r - (intOf i).toNat)
            case atStart => exact ⟨0, vt5, ao5, n5, cap5, _, ys5, Nat.zero_le _, rfl, rfl, HN5.out, HL5.out, hS5, hB5'⟩
            case round =>
              obtain ⟨q, vt, ao, n, cp, xs, ys, hq, rfl, rfl, hyl, hyb, hS, hB⟩ := hrel
              clear hS5 hB5' HL5 HN5
              have HYL : Hid (ys.length = n) := hyl
              have HYB : Hid (n ≤ tot L l0 q + 10000) := hyb
              have hmono := tot_mono L l0 q (r - q)
              rw [show q + (r - q) = r by omega] at hmono
              by_cases hqr : q < r
              · rcases hch with hz | ⟨b, off, rfl, hbw, hcs⟩
                · omega
                obtain ⟨hc1, hs1, hf1⟩ := chunk_at hB hS hbw hcs hqr
                have hmono2 := tot_mono L l0 (q + 1) (r - (q + 1))
                rw [show q + 1 + (r - (q + 1)) = r by omega] at hmono2
                have HT : Hid (tot L l0 (q + 1) = tot L l0 q + L q) := rfl
                have hbd : n + L q ≤ 2000000 := by have := HT.out; omega
                clear hcs hyl hyb hmono hmono2
                go_wp2_with fail
                refine (step_any bt w.heap.size n cp vt ao xs ys (Z q) (A q) (L q) (C q) _ hS HYL.out hs1 hf1 (by omega)).mono ?_
                rintro e w6 ⟨vt6, ao6, cap6, rfl, hS6, hB6⟩
                have hB6' := hB.trans hB6
                have HL6 : Hid ((ys ++ Z q).length ≤ tot L l0 (q + 1) + 10000) := by
                  show (ys ++ Z q).length ≤ tot L l0 (q + 1) + 10000
                  rw [List.length_append, HYL.out, HT.out]
                  have h1 := hs1.1
                  rw [bv_length] at h1
                  have h2 := HYB.out
                  omega
                generalize ys ++ Z q = ys6 at *
                obtain ⟨n6, hn6⟩ : ∃ n6, ys6.length = n6 := ⟨_, rfl⟩
                rw [hn6] at hS6 HL6 ⊢
                have HN6 : Hid (ys6.length = n6) := hn6
                clear hn6 hS hB hB6 hs1 hf1
                go_wp2
                go_roundw
                case rel => exact ⟨q + 1, vt6, ao6, n6, cap6, _, ys6, by omega, by go_num, rfl, HN6.out, HL6.out, hS6, hB6'⟩
                case measure => simp [intOf]; omega
              · clear hyl hyb hmono
                go_wp2
                go_ret
                exact ⟨rfl, hB⟩
end Go.Proofs.Ybulkcxiq
