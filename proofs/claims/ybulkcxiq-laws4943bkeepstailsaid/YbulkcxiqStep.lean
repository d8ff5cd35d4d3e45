import Derived.Test.YbulkcxiqWrite
namespace Go.Proofs.Ybulkcxiq
open Go.RowKit

set_option maxHeartbeats 400000 in
theorem equal_same (v1 v2 : Value) (s : ByteArray) (w : World) (h1 : (convert 22 9 v1).run Yba.prog w = .ok (.string s) w) (h2 : (convert 22 9 v2).run Yba.prog w = .ok (.string s) w) :
    Calls Yba.prog 10 #[v1, v2] w fun e w' => e = .returned (.bool true) ∧ w' = w := by
  go_enter Yba.func10, Yba.ntmps10
  go_wp2
  go_ret
  exact ⟨by simp, rfl⟩

/-- The two rows: what the tail keeps, and all that was written. -/
structure St (w : World) (base bt : Nat) (vt vm : Value) (xs ys : List Int) : Prop where
  hbase : base ≤ w.heap.size
  hbb : base ≤ bt
  hbt : w.heap[bt]? = some (.cells #[vt] 27 (0, 0))
  ht : w.ownsRow base 5 1 vt xs.length (bv xs)
  hk : ∀ z, kept (xs ++ z) = kept (ys ++ z)
  hl : xs.length ≤ 65536
  hm : w.ownsRow base 5 1 vm ys.length (bv ys)
  hd : vt.ownBlock = none ∨ vt.ownBlock ≠ vm.ownBlock

/-- A source stays where its block does. -/
theorem SrcAt.keep {w w' : World} {ap : Option Addr} {m c : Nat} {news : List Value} (h : SrcAt w ap m c news) (hk : ∀ ad : Addr, ap = some ad → 0 < m → w'.heap[ad.block]? = w.heap[ad.block]?) : SrcAt w' ap m c news := by
  obtain ⟨h1, h2⟩ := h
  refine ⟨h1, ?_⟩
  rcases h2 with h2 | ⟨ad, rfl, h2⟩
  · exact .inl h2
  · refine .inr ⟨ad, rfl, fun j u hu => ?_⟩
    have hj := (List.getElem?_eq_some_iff.1 hu).1
    have hb : (ad.add j).block = ad.block := by unfold Addr.add; split <;> rfl
    rw [World.cell?_of_block (w := w) (w' := w') (by rw [hb]; exact hk ad rfl (by omega))]
    exact h2 j u hu

theorem convert_own {w : World} {base : Nat} {ao : Option Addr} {n cap : Nat} {ys : List Int} (k : Nat) (h : w.ownsRow base 5 1 (.slice ao n cap) n (bv ys)) (hn : ys.length = n) (hk : k ≤ n) (ap : Option Addr) (c : Nat)
    (hap : k < n → ∃ g, ao = some ⟨g, 0, none⟩ ∧ ap = some ⟨g, k, none⟩) :
    (convert 22 9 (.slice ap (n - k) c)).run Yba.prog w = .ok (.string (strOfNums (ys.drop k))) w := by
  by_cases hkn : k < n
  · obtain ⟨g, rfl, rfl⟩ := hap hkn
    refine run_convert_bytes_arg (P := Yba.prog) w 22 5 Yba.underlying22 Yba.underlying5 g k (n - k) c (ys.drop k) (by simp [hn]) (fun j hj => ?_) 9 Yba.underlying9
    rw [h.cellAt (k + j) (by omega)]
    simp only [bv, List.getElem?_map, List.getD, List.getElem?_drop]
    rw [List.getElem?_eq_getElem (by omega)]
    rfl
  · have hz : n - k = 0 := by omega
    rw [hz, List.drop_of_length_le (by omega)]
    rw [run_convert_bytes_string w 22 9 5 _ 0 c Yba.underlying22 Yba.underlying5 Yba.underlying9]
    cases ap <;> simp [Conv.bytesToString, strOfNums, loadCells, loadCellsFrom]
    all_goals rfl

theorem convert_whole {w : World} {base : Nat} {ao : Option Addr} {n m cap : Nat} {ys : List Int} (h : w.ownsRow base 5 1 (.slice ao n cap) m (bv ys)) :
    (convert 22 9 (.slice ao n cap)).run Yba.prog w = .ok (.string (strOfNums ys)) w := by
  have hl : ys.length = m := by have := h.1; rw [bv_length] at this; omega
  rcases h.2 with ⟨h0, h1⟩ | ⟨g, c, cur, h0, h1, h2, h3⟩
  · obtain ⟨rfl, rfl, rfl⟩ : ao = none ∧ n = 0 ∧ cap = 0 := by simpa using h0
    subst h1
    have := convert_own (w := w) (base := base) 0 h hl (Nat.le_refl _) none 0 (fun h => absurd h (by omega))
    simpa using this
  · obtain ⟨rfl, rfl, rfl⟩ : ao = some ⟨g, 0, none⟩ ∧ n = m ∧ cap = c := by simpa using h0
    have := convert_own (w := w) (base := base) 0 h hl (Nat.zero_le _) (some ⟨g, 0, none⟩) cap (fun _ => ⟨g, rfl, rfl⟩)
    simpa using this

theorem shape_big {w : World} {base : Nat} {ao : Option Addr} {N cap : Nat} {xs : List Value} (h : w.ownsRow base 5 1 (.slice ao N cap) N xs) (hN : 0 < N) : ∃ g, ao = some ⟨g, 0, none⟩ ∧ N ≤ cap := by
  rcases h.2 with ⟨_, h0⟩ | ⟨g, c, cur, h0, _, _, h3, _⟩
  · omega
  · obtain ⟨rfl, rfl⟩ : ao = some ⟨g, 0, none⟩ ∧ cap = c := by simpa using h0
    exact ⟨g, rfl, h3⟩

theorem Upto.below {w w' : World} {bt base : Nat} {row : Option Nat} (h : Upto w w' bt row) (hb : base ≤ w.heap.size) (hbb : base ≤ bt) (hr : ∀ k, row = some k → base ≤ k) : Below base w w' :=
  ⟨h.os, h.tape, h.output, h.size, fun k hk => h.block k (by omega) (by omega) (fun e => by have := hr k e.symm; omega)⟩

theorem own_upto {w w' : World} {bt base : Nat} {row : Option Nat} {v : Value} {n : Nat} {xs : List Value} (h : w.ownsRow base 5 1 v n xs) (hu : Upto w w' bt row) (h1 : v.ownBlock ≠ some bt) (h2 : v.ownBlock = none ∨ v.ownBlock ≠ row) : w'.ownsRow base 5 1 v n xs := by
  refine ⟨h.1, ?_⟩
  rcases h.2 with hn | ⟨g, cap, cur, rfl, hb, hgg, rest⟩
  · exact .inl hn
  · refine .inr ⟨g, cap, cur, rfl, hb, ?_, rest⟩
    simp only [Value.ownBlock] at h1 h2
    rw [hu.block g (lt_of_block hgg) (fun e => h1 (by rw [e])) (by simpa using h2)]
    exact hgg

theorem disj_symm {a b : Option Nat} (h : a = none ∨ a ≠ b) : b = none ∨ b ≠ a := by
  rcases h with h | h
  · cases b
    · exact .inl rfl
    · right; rw [h]; simp
  · exact .inr (fun e => h e.symm)

/-- What a step leaves. -/
def Stepped (w w' : World) (base bt : Nat) (e : Ending) (ys : List Int) : Prop :=
  ∃ vt ao cap, e = .returned (.tuple #[.slice ao ys.length cap, .bool true]) ∧ St w' base bt vt (.slice ao ys.length cap) (kept ys) ys ∧ Below base w w'

theorem Stepped.of {w w' : World} {base bt N cap : Nat} {e : Ending} {ys : List Int} {vt : Value} {ao : Option Addr} (hN : ys.length = N) (he : e = .returned (.tuple #[.slice ao N cap, .bool true])) (hS : St w' base bt vt (.slice ao N cap) (kept ys) ys) (hb : Below base w w') : Stepped w w' base bt e ys := by
  subst hN
  exact ⟨vt, ao, cap, he, hS, hb⟩

/-- The state behind Write and behind the model's append. -/
theorem stepped {w w1 w2 : World} {base bt : Nat} {vt vt1 : Value} {aom ao2 : Option Addr} {nm capm cap2 N : Nat} {xs ys zs : List Int} (hS : St w base bt vt (.slice aom nm capm) xs ys) (hN : ys.length + zs.length = N)
    (hbt1 : w1.heap[bt]? = some (.cells #[vt1] 27 (0, 0))) (ht1 : w1.ownsRow base 5 1 vt1 (kept (ys ++ zs)).length (bv (kept (ys ++ zs))))
    (hat1 : vt1.ownBlock = vt.ownBlock ∨ ∃ g, vt1.ownBlock = some g ∧ w.heap.size ≤ g) (hup : Upto w w1 bt vt.ownBlock)
    (hm1 : w1.ownsRow base 5 1 (.slice aom nm capm) ys.length (bv ys))
    (hm2 : w2.ownsRow base 5 1 (.slice ao2 N cap2) N (bv ys ++ bv zs)) (hgrow : w1.grownBy w2 (Value.slice aom nm capm).ownBlock)
    (hat2 : (Value.slice ao2 N cap2).ownBlock = (Value.slice aom nm capm).ownBlock ∨ (Value.slice ao2 N cap2).ownBlock = some w1.heap.size) :
    St w2 base bt vt1 (.slice ao2 N cap2) (kept (ys ++ zs)) (ys ++ zs) ∧ Below base w w2 := by
  have hsz := hup.size
  have hsz2 := hgrow.size
  have hb := hS.hbase
  have hlt := hS.hm.lt
  have hd1 : vt1.ownBlock = none ∨ vt1.ownBlock ≠ (Value.slice aom nm capm).ownBlock := by
    rcases hat1 with h | ⟨g, h, hg⟩
    · rw [h]; exact hS.hd
    · right
      rw [h]
      intro e
      have := (hlt g e.symm).2
      omega
  have hl : (ys ++ zs).length = N := by rw [List.length_append, hN]
  refine ⟨⟨by omega, hS.hbb, one_kept hm1 hbt1 hgrow, ht1.kept hgrow hd1, fun z => kept_kept _ z, by rw [kept_length]; omega, by rw [hl, bv_append]; exact hm2, ?_⟩, ?_⟩
  · rcases hat2 with h | h
    · rw [h]; exact hd1
    · rcases hv : vt1.ownBlock with _ | g
      · exact .inl rfl
      · right
        rw [h]
        intro e
        have := (ht1.lt g hv).2
        have := Option.some.inj e
        omega
  · exact (hup.below hb hS.hbb (fun k hk => (hS.ht.lt k hk).1)).trans ⟨hgrow.os, hgrow.tape, hgrow.output, hgrow.size, fun k hk => hgrow.block k (by omega) (fun e => by have := (hlt k e.symm).1; omega)⟩

set_option maxHeartbeats 400000 in
set_option maxRecDepth 100000 in
theorem step_any (bt base nm capm : Nat) (vt : Value) (aom : Option Addr) (xs ys zs : List Int) (ap : Option Addr) (m c : Nat) (w : World)
    (hS : St w base bt vt (.slice aom nm capm) xs ys) (hnm : ys.length = nm) (hsrc : SrcAt w ap m c (bv zs)) (hfar : ∀ ad : Addr, ap = some ad → 0 < m → ad.block < w.heap.size ∧ ad.block ≠ bt ∧ some ad.block ≠ vt.ownBlock ∧ some ad.block ≠ (Value.slice aom nm capm).ownBlock)
    (hbd : nm + m ≤ 900000000) :
    Calls Yba.prog 6 #[.pointer (some ⟨bt, 0, none⟩), .slice aom nm capm, .slice ap m c] w fun e w' => Stepped w w' base bt e (ys ++ zs) := by
  obtain ⟨i0, hi0, hz0, hz1, hz2⟩ := info_parts Yba.info5
  obtain ⟨N, hN⟩ : ∃ N, nm + m = N := ⟨_, rfl⟩
  have HN : Hid (nm + m = N) := hN
  have HZ : Hid (ys.length + zs.length = N) := by have := hsrc.1; rw [bv_length] at this; show _ = _; omega
  have HY : Hid (ys.length = nm) := hnm
  have HL : Hid ((ys ++ zs).length = N) := by show _ = _; rw [List.length_append]; exact HZ.out
  have hN2 : N ≤ 900000000 := by omega
  have hml : m ≤ 900000000 := by omega
  obtain ⟨aot, nt, capt, rfl, HT⟩ : ∃ aot nt capt, vt = .slice aot nt capt ∧ Hid (xs.length = nt) := by
    obtain ⟨a, b, h⟩ := owned_shape hS.ht
    exact ⟨a, _, b, h, rfl⟩
  have hnt : nt ≤ 65536 := by have := HT.out; have := hS.hl; omega
  clear hnm hN hbd
  go_enter Yba.func6, Yba.ntmps6
  go_wp2_with fail
  refine (write_any bt base nt capt aot xs zs ap m c _ hS.hbase HT.out hS.hbt (by have h := hS.ht; rw [HT.out] at h; exact h) hsrc (by omega)).mono ?_
  rintro e w1 ⟨rfl, ao1, n1, cap1, hn1, hbt1, ht1, hat1, hup1⟩
  rw [hS.hk] at hn1 ht1
  have hm1 : w1.ownsRow base 5 1 (.slice aom nm capm) ys.length (bv ys) := own_upto hS.hm hup1 (own_ne hS.hm hS.hbt) (disj_symm hS.hd)
  have hsrc1 : SrcAt w1 ap m c (bv zs) := hsrc.keep fun ad h1 h2 => by obtain ⟨f1, f2, f3, _⟩ := hfar ad h1 h2; exact hup1.block _ f1 f2 f3
  have hb1 : base ≤ w1.heap.size := by have := hup1.size; have := hS.hbase; omega
  have HM : Hid (w1.ownsRow base 5 1 (.slice aom nm capm) ys.length (bv ys)) := hm1
  rw [HY.out] at hm1
  have hn1b : n1 ≤ 4096 := by rw [hn1, kept_length]; omega
  have HN1 : Hid (n1 = (kept (ys ++ zs)).length) := hn1
  clear hn1
  clear hsrc hfar
  have hnn : ((m : Int) != (m : Int)) = false := by simp
  by_cases hlt : N ≤ 4096
  · go_wp2_with (at_builtin; refine wpList_append_any _ rfl (.tmp 26) (.tmp 27) 22 rfl base 5 i0 (.int .u8 0) 1 Yba.underlying22 hi0 hz0 hz1 hz2 rfl _ _ _ rfl hm1 _ _ _ _ rfl hsrc1 (bv_one _) N HN.out (by unfold maxLen; omega) (by omega) hb1 ?_; intro ao2 cap2 w2 hm2 hgrow2 hat2; have hbt2 := one_kept hm1 hbt1 hgrow2; have hc2 := cell_of_one hbt2)
    have hS2 := stepped hS HZ.out hbt1 (by rw [← HN1.out]; exact ht1) hat1 hup1 HM.out hm2 hgrow2 hat2
    have HK : Hid (kept (ys ++ zs) = ys ++ zs) := kept_small _ (by rw [List.length_append, HZ.out]; exact hlt)
    have c1 := convert_whole hS2.1.ht
    have c2 := convert_whole hS2.1.hm
    rw [HK.out] at c1
    refine (equal_same _ _ _ _ c1 c2).mono ?_
    rintro e w' ⟨rfl, rfl⟩
    go_wp2
    go_ret2
    exact Stepped.of HL.out rfl hS2.1 hS2.2
  · obtain ⟨k, hk⟩ : ∃ k, N - 4096 = k := ⟨_, rfl⟩
    have HNK : Hid (N - 4096 = k) := hk
    have hwr : IntKind.i64.wrap ((N : Int) - 4096) = (k : Int) := by rw [IntKind.wrap_i64]; omega
    have hkN : k ≤ N := by omega
    have hNk : N - k = 4096 := by omega
    clear hk
    go_wp2_with (at_builtin; refine wpList_append_any _ rfl (.tmp 26) (.tmp 27) 22 rfl base 5 i0 (.int .u8 0) 1 Yba.underlying22 hi0 hz0 hz1 hz2 rfl _ _ _ rfl hm1 _ _ _ _ rfl hsrc1 (bv_one _) N HN.out (by unfold maxLen; omega) (by omega) hb1 ?_; intro ao2 cap2 w2 hm2 hgrow2 hat2; have hbt2 := one_kept hm1 hbt1 hgrow2; have hc2 := cell_of_one hbt2; obtain ⟨g2, rfl, hcap2⟩ := shape_big hm2 (by omega); have hne : ¬ cap2 = k := by omega)
    have hS2 := stepped hS HZ.out hbt1 (by rw [← HN1.out]; exact ht1) hat1 hup1 HM.out hm2 hgrow2 hat2
    have c1 := convert_whole hS2.1.ht
    have c2 := convert_own k (ys := ys ++ zs) (by rw [bv_append]; exact hm2) HL.out hkN (some ⟨g2, k, none⟩) (cap2 - k) (fun _ => ⟨g2, rfl, rfl⟩)
    rw [hNk] at c2
    have HK : Hid (List.drop k (ys ++ zs) = kept (ys ++ zs)) := by show _ = List.drop ((ys ++ zs).length - 4096) (ys ++ zs); rw [HL.out, HNK.out]
    rw [HK.out] at c2
    refine (equal_same _ _ _ _ c1 c2).mono ?_
    rintro e w' ⟨rfl, rfl⟩
    go_wp2
    go_ret2
    exact Stepped.of HL.out rfl hS2.1 hS2.2
end Go.Proofs.Ybulkcxiq
