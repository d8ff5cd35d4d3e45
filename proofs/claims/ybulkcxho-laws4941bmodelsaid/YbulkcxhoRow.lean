/-
  A row of uint64 in one block, as slices.Sort and its fellows turn it; cmp.Less; insertionSortOrdered.
-/
import Derived.Test.YbulkcxhoRows
import Derived.WalkKit
import Derived.BigGuard
import Derived.BigCall
import Derived.CellFam
import Derived.BigQuiet
import Derived.Deep.Draws
import Derived.Deep.QuietTactic
import Derived.Sort.AssemblyPlain
import Derived.Sort.WalkA
namespace Go.Proofs.Ybulkcxho
open Go.RowKit Go.Sort
set_option linter.unusedSimpArgs false
set_option linter.unusedVariables false

/-- Block blk's cells from off on hold d. -/
def RowAt (w : World) (blk off : Nat) (d : Array Int) : Prop :=
  ∃ cur, w.heap[blk]? = some (.cells cur 23 (0, 0)) ∧ off + d.size ≤ cur.size ∧ ∀ t, t < d.size → cur[off + t]? = some (.int .u64 d[t]!)

theorem RowAt.cell {w : World} {blk off : Nat} {d : Array Int} (h : RowAt w blk off d) {t : Nat} (ht : t < d.size) : w.cell? ⟨blk, off + t, none⟩ = some (.int .u64 d[t]!) := by
  obtain ⟨cur, hb, _, hc⟩ := h
  rw [cell_of_row w blk (off + t) cur 23 (0, 0) hb]
  exact hc t ht
theorem RowAt.fz {w : World} {blk off : Nat} {d : Array Int} (h : RowAt w blk off d) (j : Nat) : w.frozen? ⟨blk, j, none⟩ = false := by
  obtain ⟨cur, hb, _, _⟩ := h
  exact frozen_of_row w blk j cur 23 hb
theorem RowAt.keep {w w' : World} {blk off : Nat} {d : Array Int} (h : RowAt w blk off d) (hk : w'.heap[blk]? = w.heap[blk]?) : RowAt w' blk off d := by
  obtain ⟨cur, hb, r⟩ := h
  exact ⟨cur, hk.trans hb, r⟩
theorem RowAt.set {w : World} {blk off : Nat} {d : Array Int} (h : RowAt w blk off d) (j : Nat) (x : Int) : RowAt (w.setCell ⟨blk, off + j, none⟩ (.int .u64 x)) blk off (d.setIfInBounds j x) := by
  obtain ⟨cur, hb, hs, hc⟩ := h
  refine ⟨_, heap_setCell_same w blk (off + j) cur 23 _ hb, by simpa using hs, fun t ht => ?_⟩
  simp only [Array.size_setIfInBounds] at ht
  by_cases e : t = j
  · subst e
    rw [getElem!_set_same d t x ht, Array.getElem?_setIfInBounds_self_of_lt (by omega)]
  · rw [getElem!_set_other d j t x e, Array.getElem?_setIfInBounds_ne (by omega)]
    exact hc t ht

/-- Only block blk is turned; blocks may be added. -/
def Turn (blk : Nat) (w w' : World) : Prop := w.grownBy w' (some blk)
theorem Turn.refl (blk : Nat) (w : World) : Turn blk w w := World.grownBy.refl w _
theorem Turn.trans {blk : Nat} {a b c : World} (h : Turn blk a b) (k : Turn blk b c) : Turn blk a c :=
  ⟨k.os.trans h.os, k.tape.trans h.tape, k.output.trans h.output, Nat.le_trans h.size k.size, fun j hj hne => (k.block j (Nat.lt_of_lt_of_le hj h.size) hne).trans (h.block j hj hne)⟩
theorem Turn.drewN {blk : Nat} {a b : World} (h : Turn blk a b) (q : Nat) : Turn blk a (b.drewN q) := ⟨h.os, h.tape, h.output, h.size, h.block⟩
theorem Turn.set {blk : Nat} {a b : World} (h : Turn blk a b) (j : Nat) (v : Value) : Turn blk a (b.setCell ⟨blk, j, none⟩ v) :=
  h.trans ⟨rfl, rfl, rfl, by simp [World.setCell], fun k _ hne => heap_setCell_other b ⟨blk, j, none⟩ k v (fun e => hne (by rw [e]))⟩

/-- What a walk carries: the row as it stands, nothing else turned. -/
def Rw (w0 : World) (blk off N : Nat) (d : Array Int) (w : World) : Prop := d.size = N ∧ RowAt w blk off d ∧ Turn blk w0 w
theorem Rw.drewN {w0 w : World} {blk off N : Nat} {d : Array Int} (h : Rw w0 blk off N d w) (q : Nat) : Rw w0 blk off N d (w.drewN q) := ⟨h.1, h.2.1.keep rfl, h.2.2.drewN q⟩
theorem Rw.swap {w0 w : World} {blk off N : Nat} {d : Array Int} (h : Rw w0 blk off N d w) (q j k : Nat) :
    Rw w0 blk off N (swp d j k) (((w.drewN q).setCell ⟨blk, off + j, none⟩ (.int .u64 d[k]!)).setCell ⟨blk, off + k, none⟩ (.int .u64 d[j]!)) :=
  ⟨by simp [swp, h.1], ((h.drewN q).2.1.set j _).set k _, ((h.drewN q).2.2.set _ _).set _ _⟩
theorem Rw.cell {w0 w : World} {blk off N : Nat} {d : Array Int} (h : Rw w0 blk off N d w) : ∀ t, t < N → w.cell? ⟨blk, off + t, none⟩ = some (.int .u64 d[t]!) := fun t ht => h.2.1.cell (by rw [h.1]; exact ht)
theorem Rw.fz {w0 w : World} {blk off N : Nat} {d : Array Int} (h : Rw w0 blk off N d w) : ∀ t, t < N → w.frozen? ⟨blk, off + t, none⟩ = false := fun t _ => h.2.1.fz _
theorem Rw.trans {w0 w w' : World} {blk off N : Nat} {d d' : Array Int} (h : Rw w0 blk off N d w) (k : Rw w blk off N d' w') : Rw w0 blk off N d' w' := ⟨k.1, k.2.1, h.2.2.trans k.2.2⟩
theorem Rw.start {w : World} {blk off N : Nat} {d : Array Int} (hs : d.size = N) (h : RowAt w blk off d) : Rw w blk off N d w := ⟨hs, h, Turn.refl _ _⟩

theorem isNaN64 (x : Int) (w : World) : Calls Yba.prog 33 #[.int .u64 x] w fun e w' => e = .returned (.bool false) ∧ w' = w := by
  go_enter Yba.func33, Yba.ntmps33
  go_wp2
  go_ret
  exact ⟨by simp, rfl⟩

theorem less64 (x y : Int) (w : World) : Calls Yba.prog 23 #[.int .u64 x, .int .u64 y] w fun e w' => e = .returned (.bool (ltInt x y)) ∧ w' = w := by
  go_enter Yba.func23, Yba.ntmps23
  go_wp2_with (go_at_call 33; refine (isNaN64 _ _).mono ?_; rintro e w' ⟨rfl, rfl⟩)
  go_ret
  exact ⟨rfl, rfl⟩

set_option maxHeartbeats 1000000 in
set_option maxRecDepth 100000 in
theorem ins64 (blk off N cap a b : Nat) (d : Array Int) (w : World) (hN : N ≤ 1024) (hR : RowAt w blk off d) (hd : d.size = N) (hab : a ≤ b) (hb : b ≤ N) :
    Calls Yba.prog 17 #[.slice (some ⟨blk, off, none⟩) N cap, .int .i64 a, .int .i64 b] w fun e w' => e = .returned (.tuple #[]) ∧ Rw w blk off N (Sort.insertionSort ltInt d a b) w' := by
  have H0 : Hid (RowAt w blk off d ∧ d.size = N) := ⟨hR, hd⟩
  clear hR hd
  go_enter Yba.func17, Yba.ntmps17
  go_wp2
  go_loopw [6] (fun vi wr => ∃ (i : Nat) (dk : Array Int), vi = .int .i64 i ∧ a < i ∧ i ≤ b + 1 ∧ Rw w blk off N dk wr ∧ insOuter ltInt a b i dk = insOuter ltInt a b (a + 1) d) (fun vi _ => b + 1 - (intOf vi).toNat)
  case atStart => exact ⟨a + 1, d, by go_num, by omega, by omega, Rw.start H0.out.2 H0.out.1, rfl⟩
  case round =>
    obtain ⟨i, dk, rfl, hai, hib, hRw, hO⟩ := hrel
    have HO : Hid (insOuter ltInt a b i dk = insOuter ltInt a b (a + 1) d) := hO
    have HR : Hid (Rw w blk off N dk wr) := hRw
    clear hO hRw
    go_wp2
    · go_loopw [7] (fun vj wr2 => ∃ (j : Nat) (dj : Array Int), vj = .int .i64 j ∧ a ≤ j ∧ j ≤ i ∧ Rw w blk off N dj wr2 ∧ insInner ltInt a j dj = insInner ltInt a i dk) (fun vj _ => (intOf vj).toNat)
      case atStart => exact ⟨i, dk, rfl, by omega, Nat.le_refl _, HR.out, rfl⟩
      case round =>
        clear HR
        obtain ⟨j, dj, rfl, haj, hji, hRw, hI⟩ := hrel
        have hlt : i < b := by assumption
        obtain ⟨G, hG⟩ : ∃ G : Nat → Int, ∀ t, G t = dj[t]! := ⟨fun t => dj[t]!, fun _ => rfl⟩
        have hcw : ∀ t, t < N → wr.cell? ⟨blk, off + t, none⟩ = some (.int .u64 (G t)) := fun t ht => by rw [hG]; exact hRw.cell t ht
        have hfw : ∀ t, t < N → wr.frozen? ⟨blk, off + t, none⟩ = false := hRw.fz
        have HW : Hid (Rw w blk off N dj wr) := hRw
        have HG : Hid (∀ t, G t = dj[t]!) := hG
        have HI : Hid (insInner ltInt a j dj = insInner ltInt a i dk) := hI
        clear hRw hG hI
        have OUT : Hid ((j ≤ a ∨ ltInt (G j) (G (j - 1)) = false) → ∀ q, ∃ (i' : Nat) (dk' : Array Int), Value.int .i64 ((i : Int) + 1) = .int .i64 (i' : Nat) ∧ a < i' ∧ i' ≤ b + 1 ∧ Rw w blk off N dk' (wr.drewN q) ∧ insOuter ltInt a b i' dk' = insOuter ltInt a b (a + 1) d) := fun hs q =>
          ⟨i + 1, dj, by go_num, by omega, by omega, HW.out.drewN q, by rw [← HO.out, insOuter_go _ _ _ _ _ hlt, ← HI.out, insInner_stop _ _ _ _ (by rw [← HG.out, ← HG.out]; exact hs)]⟩
        go_wp2
        by_cases hja : a < j
        · go_quiet (first | (go_at_call 23; refine Calls.quiet_of_same (less64 _ _ _)))
          go_wp2
          · have hl : ltInt (G j) (G (j - 1)) = true := by assumption
            go_region
            all_goals go_wp2
            go_roundw
            case rel =>
              refine ⟨j - 1, swp dj j (j - 1), by congr 1; omega, by omega, by omega, ?_, ?_⟩
              · rw [HG.out, HG.out]
                exact HW.out.swap (nq + 1) j (j - 1)
              · rw [← HI.out, insInner_go ltInt a j dj hja (by rw [← HG.out, ← HG.out]; exact hl)]
            case measure => simp [intOf]; omega
          · have hl : ltInt (G j) (G (j - 1)) = false := by assumption
            go_roundw
            case rel => exact OUT.out (Or.inr hl) nq
            case measure => simp [intOf]; omega
        · go_quiet (first | (go_at_call 23; refine Calls.quiet_of_same (less64 _ _ _)))
          go_wp2
          go_roundw
          case rel => exact OUT.out (Or.inl (by omega)) nq
          case measure => simp [intOf]; omega
    · have hge : ¬ i < b := by assumption
      go_end0
      exact ⟨rfl, by unfold Sort.insertionSort; rw [← HO.out, insOuter_stop _ _ _ _ _ hge]; exact HR.out⟩
end Go.Proofs.Ybulkcxho
