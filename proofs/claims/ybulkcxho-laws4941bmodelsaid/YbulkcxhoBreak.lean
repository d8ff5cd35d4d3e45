import Derived.Test.YbulkcxhoRnd
namespace Go.Proofs.Ybulkcxho
open Go.RowKit Go.Sort
set_option linter.unusedSimpArgs false
set_option linter.unusedVariables false

/-- The row and the random number's block, which is new. -/
def Brk (w0 : World) (blk off N : Nat) (d : Array Int) (X : Nat) (w : World) : Prop := Rw w0 blk off N d w ∧ RndAt w w0.heap.size X
theorem Brk.next {w0 w w1 : World} {blk off N : Nat} {d : Array Int} {X Y : Nat} (h : Brk w0 blk off N d X w) (hb : blk < w0.heap.size) (hr : RndAt w1 w0.heap.size Y) (ht : Turn w0.heap.size w w1) : Brk w0 blk off N d Y w1 := by
  obtain ⟨⟨h1, h2, h3⟩, _⟩ := h
  have hs := h3.size
  refine ⟨⟨h1, h2.keep (ht.block blk h2.lt (fun e => by have := Option.some.inj e; omega)), ht.os.trans h3.os, ht.tape.trans h3.tape, ht.output.trans h3.output, Nat.le_trans hs ht.size, fun k hk hne => ?_⟩, hr⟩
  exact (ht.block k (by omega) (fun e => by have := Option.some.inj e; omega)).trans (h3.block k hk hne)
theorem Brk.swap {w0 w : World} {blk off N : Nat} {d : Array Int} {X : Nat} (h : Brk w0 blk off N d X w) (hb : blk < w0.heap.size) (j k : Nat) {x y : Value} (hx : x = .int .u64 d[k]!) (hy : y = .int .u64 d[j]!) :
    Brk w0 blk off N (swp d j k) X ((w.setCell ⟨blk, off + j, none⟩ x).setCell ⟨blk, off + k, none⟩ y).drew := by
  refine ⟨h.1.swapD j k hx hy, ?_⟩
  show ((w.setCell ⟨blk, off + j, none⟩ x).setCell ⟨blk, off + k, none⟩ y).heap[w0.heap.size]? = _
  rw [Below.heap_setCell _ _ _ _ (by show w0.heap.size ≠ blk; omega), Below.heap_setCell _ _ _ _ (by show w0.heap.size ≠ blk; omega)]
  exact h.2

set_option maxHeartbeats 2000000 in
set_option maxRecDepth 100000 in
theorem brk64_go (blk off N cap a L : Nat) (d : Array Int) (w : World) (hN : N ≤ 1024) (hR : RowAt w blk off d) (hd : d.size = N) (hb : a + L ≤ N) (h8 : 8 ≤ L) :
    Calls Yba.prog 19 #[.slice (some ⟨blk, off, none⟩) N cap, .int .i64 a, .int .i64 ((a + L : Nat) : Int)] w fun e w' => e = .returned (.tuple #[]) ∧ Rw w blk off N (breakPatterns d a (a + L)) w' := by
  have hblk := hR.lt
  obtain ⟨M, hM⟩ : ∃ M : Nat, M = 1 <<< bitsLen L := ⟨_, rfl⟩
  have hM1 : 1 ≤ M := by rw [hM, Nat.one_shiftLeft]; exact Nat.two_pow_pos _
  have hM2 : M ≤ 2 * L := by rw [hM, Nat.one_shiftLeft]; exact two_pow_bitsLen_le (by omega)
  have hNP : ∀ w, Calls Yba.prog 29 #[.int .i64 (L : Int)] w fun e w' => e = .returned (.int .u64 (M : Int)) ∧ w' = w := by rw [hM]; exact fun w => pow64 L (by omega) w
  have HB : Hid (breakPatterns d a (a + L) = bpRest a L M (a + L / 4 * 2 - 1) 3 0 (UInt64.ofNat L, d)) := by show _ = _; rw [breakPatterns_eq d a L h8, hM]
  clear hM
  have HS : Hid (Brk w blk off N d (UInt64.ofNat L).toNat (w.alloc (.cells #[.int .u64 (L : Int)] 109))) := by
    refine ⟨⟨hd, hR.keep (Below.heap_alloc _ _ _ hblk), rfl, rfl, rfl, by simp, fun k hk _ => Below.heap_alloc _ _ _ hk⟩, ?_⟩
    unfold RndAt
    rw [heap_alloc_new, show (UInt64.ofNat L).toNat = L from by simp; omega]
  clear hR hd
  go_enter Yba.func19, Yba.ntmps19
  go_wp2_with (first | (go_at_call 29; rw [show ((a : Int) + (L : Int) - (a : Int)) = (L : Int) by omega]; refine (hNP _).mono ?_; rintro e w' ⟨rfl, rfl⟩))
  go_loopw [9] (fun vi wr => ∃ (t : Nat) (r : UInt64) (dk : Array Int), vi = .int .i64 ((a + L / 4 * 2 - 1 + t : Nat) : Int) ∧ t ≤ 3 ∧ Brk w blk off N dk r.toNat wr ∧
      Hid (bpRest a L M (a + L / 4 * 2 - 1) (3 - t) t (r, dk) = bpRest a L M (a + L / 4 * 2 - 1) 3 0 (UInt64.ofNat L, d))) (fun vi _ => a + L / 4 * 2 + 3 - (intOf vi).toNat)
  case atStart => exact ⟨0, UInt64.ofNat L, d, by congr 1; omega, by omega, HS.out, rfl⟩
  case round =>
    clear HS
    obtain ⟨t, r, dk, rfl, ht, hBk, HE⟩ := hrel
    obtain ⟨R, hRr⟩ : ∃ R : Nat, R = r.toNat := ⟨_, rfl⟩
    have lR : R < 18446744073709551616 := by rw [hRr]; exact r.toNat_lt
    obtain ⟨R', hR'⟩ : ∃ R' : Nat, R' = xorNextN R := ⟨_, rfl⟩
    have lR' : R' < 18446744073709551616 := by rw [hR']; exact xorNextN_lt R lR
    obtain ⟨O, hO⟩ : ∃ O : Nat, O = R' &&& (M - 1) := ⟨_, rfl⟩
    have lO : O ≤ M - 1 := by rw [hO]; exact Nat.and_le_right
    have eAnd : bits .and .u64 (R' : Int) ((M : Int) - 1) = (O : Int) := by
      rw [show ((M : Int) - 1) = ((M - 1 : Nat) : Int) by omega, bits_and_u64_nat _ _ lR' (by omega), hO]
    have hNext : Calls Yba.prog 30 #[.pointer (some ⟨w.heap.size, 0, none⟩)] wr fun e w' => e = .returned (.int .u64 (R' : Int)) ∧ RndAt w' w.heap.size R' ∧ Turn w.heap.size wr w' := by
      rw [hR']; exact next64 _ R lR wr (by rw [hRr]; exact hBk.2)
    have HK : Hid (Brk w blk off N dk r.toNat wr) := hBk
    have HN : Hid (R' = (xorNext r).toNat ∧ O = (xorNext r).toNat &&& (M - 1)) := by
      have e : R' = (xorNext r).toNat := by rw [hR', hRr, xorNext_toNat]
      exact ⟨e, by rw [hO, e]⟩
    clear hBk hRr hR' hO
    by_cases ht3 : t < 3
    · have htz : ((a + L / 4 * 2 - 1 + t : Nat) : Int) ≤ (a : Int) + (L : Int) / 4 * 2 + 1 := by omega
      go_upto_region 8 with (go_at_call 30; refine hNext.mono ?_; rintro e w1 ⟨rfl, hr1, ht1⟩)
      have hB1 := HK.out.next hblk hr1 ht1
      have HB1 : Hid (Brk w blk off N dk R' w1) := hB1
      obtain ⟨G, hG⟩ : ∃ G : Nat → Int, ∀ x, G x = dk[x]! := ⟨fun x => dk[x]!, fun _ => rfl⟩
      have hcw : ∀ x, x < N → w1.cell? ⟨blk, off + x, none⟩ = some (.int .u64 (G x)) := fun x hx => by rw [hG]; exact hB1.1.cell x hx
      have hfw : ∀ x, x < N → w1.frozen? ⟨blk, off + x, none⟩ = false := hB1.1.fz
      have HG : Hid (∀ x, G x = dk[x]!) := hG
      clear hB1 hG hr1 ht1
      by_cases hLO : L ≤ O
      · have hLz : (L : Int) ≤ (O : Int) := by omega
        go_wp2_with fail
        by_cases hEq : a + L / 4 * 2 - 1 + t = a + (O - L)
        all_goals
          go_region
          all_goals go_wp2
          go_roundw
          case rel =>
            refine ⟨t + 1, xorNext r, swp dk (a + L / 4 * 2 - 1 + t) (a + (O - L)), by first | rfl | (congr 1 <;> omega), by omega, ?_, ?_⟩
            · (try rw [hEq])
              rw [← HN.out.1]
              simp only [HG.out]
              exact HB1.out.swap hblk _ _ rfl rfl
            · exact (bp_step a L M _ t r dk (O - L) (by omega) (by rw [← HN.out.2, if_pos (by omega)])).symm.trans HE.out
          case measure => simp [intOf]; omega
      · have hLz : ¬ ((L : Int) ≤ (O : Int)) := by omega
        go_wp2_with fail
        by_cases hEq : a + L / 4 * 2 - 1 + t = a + O
        all_goals
          go_region
          all_goals go_wp2
          go_roundw
          case rel =>
            refine ⟨t + 1, xorNext r, swp dk (a + L / 4 * 2 - 1 + t) (a + O), by first | rfl | (congr 1 <;> omega), by omega, ?_, ?_⟩
            · (try rw [hEq])
              rw [← HN.out.1]
              simp only [HG.out]
              exact HB1.out.swap hblk _ _ rfl rfl
            · exact (bp_step a L M _ t r dk O (by omega) (by rw [← HN.out.2, if_neg (by omega)])).symm.trans HE.out
          case measure => simp [intOf]; omega
    · obtain rfl : t = 3 := by omega
      go_wp2
      go_end0
      refine ⟨rfl, ?_⟩
      have e : dk = breakPatterns d a (a + L) := by rw [HB.out, ← HE.out]; rfl
      rw [← e]
      exact HK.out.1
end Go.Proofs.Ybulkcxho
