import Derived.Test.YbulkcxiqLaw
import Derived.OpenShut
import Derived.ShutString
import Derived.ChangeOld
import Derived.Carry
import Derived.Deep.Matrix
namespace Go.Proofs.Ybulkcxiq
open Go.ChangeShapes Go.WideShapes Go.ChangeAt Go.RowKit Go.Deep
set_option linter.unusedVariables false

theorem own : ownKnob Yba.prog.godebug = none := by kernel_rfl
theorem laidOut : laidOutB Yba.prog = true := by kernel_rfl

theorem src_of_cells {w : World} {a : Addr} {l cap : Nat} {zs : List Int} (hl : l ≤ cap) (hz : zs.length = cap) (hcell : ∀ i, i < zs.length → w.cell? (a.add i) = some (.int .u8 (zs.getD i 0))) :
    SrcAt w (some a) l cap (bv (zs.take l)) ∧ ∀ ad : Addr, some a = some ad → 0 < l → ad.block < w.heap.size := by
  refine ⟨⟨by rw [bv_length, List.length_take]; omega, .inr ⟨a, rfl, fun j u hu => ?_⟩⟩, fun ad e h => ?_⟩
  · have hj : j < l := by
      have := (List.getElem?_eq_some_iff.1 hu).1
      rw [bv_length, List.length_take] at this; omega
    rw [hcell j (by omega)]
    simp only [bv, List.getElem?_map, List.getElem?_take, if_pos hj] at hu
    rw [List.getElem?_eq_getElem (by omega)] at hu
    simp only [Option.map_some, Option.some.injEq] at hu
    rw [← hu, List.getD, List.getElem?_eq_getElem (by omega)]
    rfl
  · obtain rfl := Option.some.inj e
    have := World.block_lt_of_cell? w _ (hcell 0 (by omega))
    have hb : (a.add 0).block = a.block := by unfold Addr.add; split <;> rfl
    omega

theorem walk (a0 ca : Option Addr) (l0 c0 len cap : Nat) (big seed : Int) (z0 : List Int) (A : Nat → Option Addr) (L C : Nat → Nat) (Z : Nat → List Int) (w : World)
    (hb0 : 0 ≤ big) (hb1 : big ≤ 65535) (hs0 : SrcAt w a0 l0 c0 (bv z0)) (hlt0 : ∀ ad : Addr, a0 = some ad → 0 < l0 → ad.block < w.heap.size) (hch : Chunks w ca len A L C Z) (hL : ∀ r, r < len → L r ≤ maxLen)
    (hm0 : l0 ≤ maxLen) (hm1 : len ≤ maxLen) :
    Calls Yba.prog 3 #[.slice a0 l0 c0, .int .u16 big, .int .u8 seed, .slice ca len cap] w fun e w' => e = .returned (.bool true) ∧ Below w.heap.size w w' := by
  by_cases h1 : 65536 < l0
  · exact law_a a0 ca l0 c0 len cap big seed w h1 hm0
  · by_cases h2 : 1024 < len
    · exact law_b a0 ca l0 c0 len cap big seed w (by omega) h2 hm1
    · exact law_c a0 ca l0 c0 len cap big seed z0 A L C Z w (by omega) (by omega) hb0 hb1 hs0 hlt0 hch hL

set_option maxHeartbeats 1000000 in
set_option maxRecDepth 100000 in
theorem lifted (os : Os) (started : os.Started) (H : Type) (enc : TypeId × Value → H) :
    ReturnsInHanded {} Yba.checked os 3 .any (Rows.lawS4943BKeepsTailSpec.pre6 enc Yba.prog Yba.f3 Rows.lawS4943BKeepsTailRow.domain false) (Rows.lawS4943BKeepsTailSpec.post enc Yba.prog Yba.f3 false true false false) := by
  refine returnsInHanded_of_change (C := Yba.checked) own started (by kernel_rfl) Yba.func3
    (ChangeSpec.witness6 (enc := enc) (C := Yba.checked) false ⟨#[], #[.slice none 0 0, .int .u16 0, .int .u8 0, .slice none 0 0], []⟩ 8 (by kernel_rfl) (by kernel_rfl) (by kernel_rfl) (by kernel_rfl)) ?_
  intro W base args ds gs before hval0 hW hcnd _
  have hval : ∀ (j : Nat) t v, Yba.f3.params[j]? = some t → args[j]? = some v → Value.okWide Yba.prog W .any base t v := hval0
  have hW' := hW
  obtain ⟨p, q, hA0, hV, rfl, hfz, hnd⟩ := hW
  have hA : DataW.TrodAll enc Yba.prog W 0 (fun _ => true) true Yba.f3.params.toList args.toList ds p := hA0
  rw [Yba.params3] at hA hval
  obtain ⟨v0, vs0, d0, ds0, p0, q0, hargs, rfl, rfl, h0, r0⟩ := trodAll_cons hA
  obtain ⟨v1, vs1, d1, ds1, p1, q1, rfl, rfl, rfl, h1, r1⟩ := trodAll_cons r0
  obtain ⟨v2, vs2, d2, ds2, p2, q2, rfl, rfl, rfl, h2, r2⟩ := trodAll_cons r1
  obtain ⟨v3, vs3, d3, ds3, p3, q3, rfl, rfl, rfl, h3, r3⟩ := trodAll_cons r2
  obtain ⟨rfl, rfl, rfl⟩ := trodAll_nil r3
  obtain rfl : args = #[v0, v1, v2, v3] := by cases args; simp_all
  obtain ⟨rfl, rfl⟩ := trodVars_none hV
  obtain ⟨a0, l0, c0, rfl⟩ := okWide_slice Yba.underlying22 (hval 0 22 v0 rfl rfl)
  have k0 := h0
  have lt0 : ∀ x ∈ p0, x.block < W.heap.size := by obtain ⟨m, hm⟩ := k0; exact DataW.trod_lt m _ _ _ hm
  obtain ⟨z0, hs0, hlt0, hm0⟩ : ∃ zs, SrcAt W a0 l0 c0 (bv zs) ∧ (∀ ad : Addr, a0 = some ad → 0 < l0 → ad.block < W.heap.size) ∧ l0 ≤ maxLen := by
    obtain ⟨fuel, hf⟩ := h0
    rcases open_ints Yba.underlying22 Yba.underlying5 (by kernel_rfl) hf with ⟨hcs, _⟩ | ⟨x, l, c, zs, hcs, _, hl, hm, hz, _, hcell, hwz⟩
    · simp [Value.cells] at hcs
      obtain ⟨rfl, rfl, rfl⟩ := hcs
      exact ⟨[], ⟨rfl, .inl ⟨rfl, rfl, rfl⟩⟩, fun _ _ h => absurd h (by omega), Nat.zero_le _⟩
    · simp [Value.cells] at hcs
      obtain ⟨rfl, rfl, rfl⟩ := hcs
      have hh := src_of_cells hl (by simpa using hz) hcell
      exact ⟨_, hh.1, hh.2, by omega⟩
  obtain ⟨big, rfl, rfl, rfl, w1⟩ := open_int Yba.underlying23 (hval 1 23 v1 rfl rfl) h1
  obtain ⟨seed, rfl, rfl, rfl, w2⟩ := open_int Yba.underlying5 (hval 2 5 v2 rfl rfl) h2
  obtain ⟨ca, len, cap, rfl⟩ := okWide_slice Yba.underlying24 (hval 3 24 v3 rfl rfl)
  have k3 := h3
  have lt3 : ∀ x ∈ p3, x.block < W.heap.size := by obtain ⟨m, hm⟩ := k3; exact DataW.trod_lt m _ _ _ hm
  obtain ⟨A, L, C, Z, hch, hL, hm1⟩ : ∃ A L C Z, Chunks W ca len A L C Z ∧ (∀ r, r < len → L r ≤ maxLen) ∧ len ≤ maxLen := by
    obtain ⟨fuel, hf⟩ := h3
    rcases open_int_rows Yba.underlying24 Yba.underlying22 Yba.underlying5 (by kernel_rfl) (by kernel_rfl) hf with ⟨hcs, _⟩ | ⟨x, l, c, A, L, C, Z, hcs, _, hl, hm, _, hr⟩
    · simp [Value.cells] at hcs
      obtain ⟨rfl, rfl, rfl⟩ := hcs
      exact ⟨fun _ => none, fun _ => 0, fun _ => 0, fun _ => [], .inl rfl, fun _ _ => Nat.zero_le _, Nat.zero_le _⟩
    · simp [Value.cells] at hcs
      obtain ⟨rfl, rfl, rfl⟩ := hcs
      refine ⟨A, L, C, fun r => (Z r).take (L r), ?_, fun r hrl => by have := hr r (by omega); omega, by omega⟩
      by_cases hz : len = 0
      · exact .inl hz
      · obtain ⟨b, off, spot⟩ := x
        have hspot : spot = none := by simpa [Addr.add] using World.cell?_spot (hr 0 (by omega)).1
        subst hspot
        refine .inr ⟨b, off, rfl, ?_, fun r hrl => ?_⟩
        · have := World.block_lt_of_cell? W _ (hr 0 (by omega)).1
          simpa [Addr.add] using this
        · obtain ⟨e1, e2, e3, e4, e5, e6, e7⟩ := hr r (by omega)
          refine ⟨by rw [← add_plain]; exact e1, ?_⟩
          cases hAr : A r with
          | none =>
            have hc := e6 hAr
            exact ⟨⟨by rw [bv_length, List.length_take]; omega, .inl ⟨rfl, by omega, hc⟩⟩, fun _ h => by cases h⟩
          | some a' => exact src_of_cells e2 e4 (fun i hi => (e7 a' hAr).2 i (by omega))
  have hbig := bounds_u16 w1
  clear hA0 hval0
  refine (walk a0 ca l0 c0 len cap big seed z0 A L C Z W hbig.1 hbig.2 hs0 hlt0 hch hL hm0 hm1).mono fun e W' ⟨he, bel⟩ => ?_
  subst he
  exact ⟨_, rfl, _, _, _, [], _, [], hW', trodAll_mk1 (shut_bool Yba.underlying4 _), (trodAll_cons_mk (Below.trod laidOut (by kernel_rfl) (of_decide_eq_true (by kernel_rfl)) k0 bel lt0) (trodAll_cons_mk (shut_int Yba.underlying23 w1) (trodAll_cons_mk (shut_int Yba.underlying5 w2) (trodAll_cons_mk (Below.trod laidOut (by kernel_rfl) (of_decide_eq_true (by kernel_rfl)) k3 bel lt3) trodAll_mk0)))), rfl, bel.frame _, fun h => by cases h⟩

theorem over : Rows.lawS4943BKeepsTailRow.holds Yba.pinned (OpenSpec.ofChange Rows.lawS4943BKeepsTailSpec) :=
  OpenClaim.holds_of_wide 3 Yba.f3 rfl rfl rfl rfl rfl rfl rfl ⟨rfl, rfl, rfl, rfl, rfl⟩ rfl rfl rfl rfl rfl (by kernel_rfl) Yba.func3 (by kernel_rfl)
    (of_decide_eq_true (by kernel_rfl)) (by unfold Func.isWrapper; first | (rw [if_pos (by decide +kernel)]; kernel_rfl) | (rw [if_neg (by decide +kernel)]; exact ⟨rfl, rfl⟩))
    (fun os started H enc _ => lifted os started H enc)

theorem keepsTail_proved : Rows.LawS4943BKeepsTailSaid := over
end Go.Proofs.Ybulkcxiq
