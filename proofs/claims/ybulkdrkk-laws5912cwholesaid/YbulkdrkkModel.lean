/-
  zzs5912cmodel (function 5).
-/
import Derived.Test.YbulkdrkkCut
namespace Go.Proofs.Ybulkdrkk
open Go.RowKit
set_option linter.unusedVariables false

theorem XOwn.shape {w : World} {base : Nat} {te : TypeId} {v : Value} {es : List Ext} {bad : Nat → Prop} (h : XOwn w base te v es bad) : ∃ ao n cap, v = .slice ao n cap := by
  obtain ⟨ds, ⟨_, ⟨h1, _⟩ | ⟨g, cap, cur, h1, _⟩⟩, _⟩ := h
  · exact ⟨_, _, _, h1⟩
  · exact ⟨_, _, _, h1⟩
theorem set7K {gR : Nat} {wk : World} (a0 a1 a2 a3 a4 a5 a6 : Value) :
    Kp wk (((((((wk.setCell ⟨gR, 0, none⟩ a0).setCell ⟨gR, 1, none⟩ a1).setCell ⟨gR, 2, none⟩ a2).setCell ⟨gR, 3, none⟩ a3).setCell ⟨gR, 4, none⟩ a4).setCell ⟨gR, 5, none⟩ a5).setCell ⟨gR, 6, none⟩ a6) [gR] :=
  (((((((Kp.refl wk [gR]).set gR 0 a0 (by simp)).set gR 1 a1 (by simp)).set gR 2 a2 (by simp)).set gR 3 a3 (by simp)).set gR 4 a4 (by simp)).set gR 5 a5 (by simp)).set gR 6 a6 (by simp)
theorem or64b (z y : Int) (h0 : 0 ≤ z) (h1 : z ≤ 255) (h2 : 0 ≤ y) (h3 : y ≤ 255) : bits BinOp.or IntKind.i64 (wrap64 (wrap64 z * 256)) (wrap64 y) = z * 256 + y := by
  rw [w64 z (by omega)]
  exact or64 z y h0 (by omega) h2 h3
theorem adv {B gR gW : Nat} {w wk : World} {cs zs : List Value} (hW : Blk wk gW cs 38) (hR : Blk wk gR zs 38) (hB : Below B w wk) (hg : B ≤ gW) (hne : gR ≠ gW) (j : Nat) (v : Value) :
    Blk (wk.setCell ⟨gW, j, none⟩ v) gW (cs.set j v) 38 ∧ Blk (wk.setCell ⟨gW, j, none⟩ v) gR zs 38 ∧ Below B w (wk.setCell ⟨gW, j, none⟩ v) :=
  ⟨hW.set j v, hR.other hne v, hB.setCell (p := ⟨gW, j, none⟩) hg v⟩
theorem advD {B gR gW : Nat} {w wk : World} {cs zs : List Value} (hW : Blk wk gW cs 38) (hR : Blk wk gR zs 38) (hB : Below B w wk) (hg : B ≤ gW) (hne : gR ≠ gW) (j : Nat) (v : Value) :
    Blk (wk.setCell ⟨gW, j, none⟩ v).drew gW (cs.set j v) 38 ∧ Blk (wk.setCell ⟨gW, j, none⟩ v).drew gR zs 38 ∧ Below B w (wk.setCell ⟨gW, j, none⟩ v).drew :=
  ⟨hW.set j v, hR.other hne v, (hB.setCell (p := ⟨gW, j, none⟩) hg v).drew⟩

set_option maxRecDepth 100000 in
set_option maxHeartbeats 8000000 in
theorem mo_any (bs : List Int) (vb : Value) (gM : Nat) (v0 c0 cm0 : Int) (r s x : Value) (R0 S0 : Option (List Int)) (X0 : Option (List Ext)) (w : World) (hgM : gM < w.heap.size) (hr : Rd w r R0 (fun k => k = gM)) (hs : Rd w s S0 (fun k => k = gM)) (hx : XRd w x X0 (fun k => k = gM))
    (hv : Rd w vb (some bs) (fun k => k = gM)) (hb : Bytes bs) (hlim : bs.length ≤ 1099511627776) :
    Calls Yba.prog 5 #[vb, .agg #[.int .u16 v0, r, s, .int .u16 c0, .int .u8 cm0, x]] w fun e w' => ∃ v, e = .returned v ∧ WIs w' v (parse bs ⟨false, v0, R0, S0, c0, cm0, X0⟩) (fun k => k = gM) ∧ Below w.heap.size w w' := by
  obtain ⟨ra, rn, rc, rfl, _⟩ := hr.shape
  obtain ⟨sa, sn, sc, rfl, _⟩ := hs.shape
  obtain ⟨xa, xn, xc, rfl, _⟩ := hx.shape
  obtain ⟨ad, cap, rfl, hc, ha⟩ := hv
  obtain ⟨n, hn⟩ : ∃ n, n = bs.length := ⟨_, rfl⟩
  rw [← hn] at hc hlim ⊢
  have HN : Hid (n = bs.length) := hn
  clear hn
  go_enter Yba.func5, Yba.ntmps5
  go_upto_region 3 with fail
  have hR : Blk (((w.alloc (.cells #[.int .u16 v0, .slice ra rn rc, .slice sa sn sc, .int .u16 c0, .int .u8 cm0, .slice xa xn xc] 26)).alloc (.cells #[.bool false, .int .u16 0, .slice none 0 0, .slice none 0 0, .int .u16 0, .int .u8 0, .slice none 0 0] 38)).alloc (.cells #[.bool false, .int .u16 v0, .slice ra rn rc, .slice sa sn sc, .int .u16 c0, .int .u8 cm0, .slice xa xn xc] 38)) (w.heap.size + 1) [.bool false, .int .u16 0, .slice none 0 0, .slice none 0 0, .int .u16 0, .int .u8 0, .slice none 0 0] 38 :=
    Blk.alloc (show Blk _ _ _ _ from heap_alloc2_new w _ _) _
  have hW : Blk (((w.alloc (.cells #[.int .u16 v0, .slice ra rn rc, .slice sa sn sc, .int .u16 c0, .int .u8 cm0, .slice xa xn xc] 26)).alloc (.cells #[.bool false, .int .u16 0, .slice none 0 0, .slice none 0 0, .int .u16 0, .int .u8 0, .slice none 0 0] 38)).alloc (.cells #[.bool false, .int .u16 v0, .slice ra rn rc, .slice sa sn sc, .int .u16 c0, .int .u8 cm0, .slice xa xn xc] 38)) (w.heap.size + 1 + 1) [.bool false, .int .u16 v0, .slice ra rn rc, .slice sa sn sc, .int .u16 c0, .int .u8 cm0, .slice xa xn xc] 38 :=
    by have := Blk.made ((w.alloc (.cells #[.int .u16 v0, .slice ra rn rc, .slice sa sn sc, .int .u16 c0, .int .u8 cm0, .slice xa xn xc] 26)).alloc (.cells #[.bool false, .int .u16 0, .slice none 0 0, .slice none 0 0, .int .u16 0, .int .u8 0, .slice none 0 0] 38)) [.bool false, .int .u16 v0, .slice ra rn rc, .slice sa sn sc, .int .u16 c0, .int .u8 cm0, .slice xa xn xc] 38; simpa using this
  have hB : Below w.heap.size w (((w.alloc (.cells #[.int .u16 v0, .slice ra rn rc, .slice sa sn sc, .int .u16 c0, .int .u8 cm0, .slice xa xn xc] 26)).alloc (.cells #[.bool false, .int .u16 0, .slice none 0 0, .slice none 0 0, .int .u16 0, .int .u8 0, .slice none 0 0] 38)).alloc (.cells #[.bool false, .int .u16 v0, .slice ra rn rc, .slice sa sn sc, .int .u16 c0, .int .u8 cm0, .slice xa xn xc] 38)) :=
    (((Below.refl _ _).alloc (Nat.le_refl _) _).alloc (by simp) _).alloc (by simp; omega) _
  generalize (((w.alloc (.cells #[.int .u16 v0, .slice ra rn rc, .slice sa sn sc, .int .u16 c0, .int .u8 cm0, .slice xa xn xc] 26)).alloc (.cells #[.bool false, .int .u16 0, .slice none 0 0, .slice none 0 0, .int .u16 0, .int .u8 0, .slice none 0 0] 38)).alloc (.cells #[.bool false, .int .u16 v0, .slice ra rn rc, .slice sa sn sc, .int .u16 c0, .int .u8 cm0, .slice xa xn xc] 38)) = wk at *
  by_cases h2 : n < 2
  · have w0 := hW.cell 0; have w1 := hW.cell 1; have w2 := hW.cell 2; have w3 := hW.cell 3; have w4 := hW.cell 4; have w5 := hW.cell 5; have w6 := hW.cell 6
    have r0 := hR.cell 0; have r1 := hR.cell 1; have r2 := hR.cell 2; have r3 := hR.cell 3; have r4 := hR.cell 4; have r5 := hR.cell 5; have r6 := hR.cell 6
    have f0 := hR.free 0; have f1 := hR.free 1; have f2 := hR.free 2; have f3 := hR.free 3; have f4 := hR.free 4; have f5 := hR.free 5; have f6 := hR.free 6
    simp only [List.getElem?_cons_succ, List.getElem?_cons_zero] at w0 w1 w2 w3 w4 w5 w6 r0 r1 r2 r3 r4 r5 r6
    have h2' : (n : Int) < 2 := by omega
    have HBR : Hid (Blk wk (w.heap.size + 1) _ 38) := hR
    clear hW hR
    go_wp2
    have q := set7 HBR.out hB (by omega) (.bool false) (.int .u16 v0) (.slice ra rn rc) (.slice sa sn sc) (.int .u16 c0) (.int .u8 cm0) (.slice xa xn xc)
    refine bodyPost_ret (res7 q.1 _ rfl) rfl ⟨_, rfl, ?_, q.2⟩
    rw [parse1 _ _ (by rw [← HN.out]; exact h2)]
    exact ⟨_, _, _, rfl, hr.grown q.2, hs.grown q.2, hx.grown q.2⟩
  · have h2' : ¬ (n : Int) < 2 := by omega
    obtain ⟨b, o, rfl, hcell⟩ := ha.spot (by rw [← HN.out]; omega)
    have hlt : b < w.heap.size := (ha (by rw [← HN.out]; omega)).1
    have HC : Hid (∀ j, j < n → ∀ w', Below w.heap.size w w' → w'.cell? ⟨b, o + j, none⟩ = some (.int .u8 (bs.getD j 0))) := fun j hj w' h => (h.cell (by exact hlt)).trans (hcell j (by rw [← HN.out]; exact hj))
    clear hcell
    obtain ⟨z0, cz0, hz0⟩ : ∃ z, wk.cell? ⟨b, o, none⟩ = some (.int .u8 z) ∧ Hid (z = bs.getD 0 0) := ⟨_, HC.out 0 (by omega) wk hB, rfl⟩
    obtain ⟨z1, cz1, hz1⟩ : ∃ z, wk.cell? ⟨b, o + 1, none⟩ = some (.int .u8 z) ∧ Hid (z = bs.getD 1 0) := ⟨_, HC.out 1 (by omega) wk hB, rfl⟩
    have k0 : (0 : Int) < (n : Int) := by omega
    have k1 : (1 : Int) < (n : Int) := by omega
    have E1 : Hid (bits BinOp.or IntKind.u16 (IntKind.u16.wrap (IntKind.u16.wrap z0 * 256)) (IntKind.u16.wrap z1) = be bs 0) := by
      show _ = _
      rw [hz0.out, hz1.out]
      exact be16 _ _ (hb.at 0).1 (hb.at 0).2 (hb.at 1).1 (hb.at 1).2
    have cw := hW.cell 1
    simp only [List.getElem?_cons_succ, List.getElem?_cons_zero] at cw
    have fw := hW.free 1
    go_upto_region 5 with fail
    go_region
    rw [E1.out]
    have A := advD hW hR hB (by omega) (by omega) 1 (.int .u16 (be bs 0))
    clear hW hR hB cz0 cz1 cw fw k0 k1 E1 hz0 hz1
    generalize (World.setCell wk ⟨w.heap.size + 1 + 1, 1, none⟩ (.int .u16 (be bs 0))).drew = wk2 at A ⊢
    clear wk
    obtain ⟨wk, hwk⟩ : ∃ y, y = wk2 := ⟨_, rfl⟩
    subst hwk
    obtain ⟨hW, hR, hB⟩ := A
    by_cases h34 : n < 34
    · have h34' : (n : Int) < 34 := by omega
      have w0 := hW.cell 0; have w1 := hW.cell 1; have w2 := hW.cell 2; have w3 := hW.cell 3; have w4 := hW.cell 4; have w5 := hW.cell 5; have w6 := hW.cell 6
      have r0 := hR.cell 0; have r1 := hR.cell 1; have r2 := hR.cell 2; have r3 := hR.cell 3; have r4 := hR.cell 4; have r5 := hR.cell 5; have r6 := hR.cell 6
      have f0 := hR.free 0; have f1 := hR.free 1; have f2 := hR.free 2; have f3 := hR.free 3; have f4 := hR.free 4; have f5 := hR.free 5; have f6 := hR.free 6
      simp only [List.getElem?_cons_succ, List.getElem?_cons_zero] at w0 w1 w2 w3 w4 w5 w6 r0 r1 r2 r3 r4 r5 r6
      have HBR : Hid (Blk wk (w.heap.size + 1) _ 38) := hR
      clear hW hR
      go_wp2
      have q := set7 HBR.out hB (by omega) (.bool false) (.int .u16 (be bs 0)) (.slice ra rn rc) (.slice sa sn sc) (.int .u16 c0) (.int .u8 cm0) (.slice xa xn xc)
      refine bodyPost_ret (res7 q.1 _ rfl) rfl ⟨_, rfl, ?_, q.2⟩
      rw [parse2 _ _ (by rw [← HN.out]; exact h2) (by rw [← HN.out]; exact h34)]
      exact ⟨_, _, _, rfl, hr.grown q.2, hs.grown q.2, hx.grown q.2⟩
    · have h34' : ¬ (n : Int) < 34 := by omega
      have cw := hW.cell 2
      have fw := hW.free 2
      go_upto_region 9 with ((with_reducible refine at_slice ?_); refine wpList_slice_part rfl (.tmp 47) _ _ rfl ⟨b, o, none⟩ n cap 2 34 2 34 rfl rfl rfl rfl rfl (by omega) (by omega) ?_; intro A2 hA2)
      have A := adv hW hR hB (by omega) (by omega) 2 (.slice (some A2) 32 (cap - 2))
      clear hW hR hB cw fw
      generalize (World.setCell wk ⟨w.heap.size + 1 + 1, 2, none⟩ (.slice (some A2) 32 (cap - 2))) = wk2 at A ⊢
      clear wk
      obtain ⟨wk, hwk⟩ : ∃ y, y = wk2 := ⟨_, rfl⟩
      subst hwk
      obtain ⟨hW', hR, hB⟩ := A
      have hW : Blk wk (w.heap.size + 1 + 1) [.bool false, .int .u16 (be bs 0), .slice (some A2) 32 (cap - 2), .slice sa sn sc, .int .u16 c0, .int .u8 cm0, .slice xa xn xc] 38 := hW'
      clear hW'
      have D2 : Rd w (.slice (some A2) 32 (cap - 2)) (some ((bs.drop 2).take 32)) (fun k => k = gM) := by rw [hA2.out]; exact Rd.part ha 2 32 cap (by rw [← HN.out]; exact hc) (by rw [← HN.out]; omega)
      clear hA2
      by_cases h35 : n < 35
      · have h35' : (n : Int) < 35 := by omega
        have w0 := hW.cell 0; have w1 := hW.cell 1; have w2 := hW.cell 2; have w3 := hW.cell 3; have w4 := hW.cell 4; have w5 := hW.cell 5; have w6 := hW.cell 6
        have r0 := hR.cell 0; have r1 := hR.cell 1; have r2 := hR.cell 2; have r3 := hR.cell 3; have r4 := hR.cell 4; have r5 := hR.cell 5; have r6 := hR.cell 6
        have f0 := hR.free 0; have f1 := hR.free 1; have f2 := hR.free 2; have f3 := hR.free 3; have f4 := hR.free 4; have f5 := hR.free 5; have f6 := hR.free 6
        simp only [List.getElem?_cons_succ, List.getElem?_cons_zero] at w0 w1 w2 w3 w4 w5 w6 r0 r1 r2 r3 r4 r5 r6
        have HBR : Hid (Blk wk (w.heap.size + 1) _ 38) := hR
        clear hW hR
        go_wp2
        have q := set7 HBR.out hB (by omega) (.bool false) (.int .u16 (be bs 0)) (.slice (some A2) 32 (cap - 2)) (.slice sa sn sc) (.int .u16 c0) (.int .u8 cm0) (.slice xa xn xc)
        refine bodyPost_ret (res7 q.1 _ rfl) rfl ⟨_, rfl, ?_, q.2⟩
        rw [parse3 _ _ (by rw [← HN.out]; exact h34) (.inl (by rw [← HN.out]; exact h35))]
        exact ⟨_, _, _, rfl, D2.grown q.2, hs.grown q.2, hx.grown q.2⟩
      · have h35' : ¬ (n : Int) < 35 := by omega
        obtain ⟨sl, hsl⟩ := Int.eq_ofNat_of_zero_le (hb.at 34).1
        have hslb : (sl : Int) ≤ 255 := by rw [← hsl]; exact (hb.at 34).2
        have cs := HC.out 34 (by omega) wk hB
        rw [hsl] at cs
        have HSL : Hid ((bs.getD 34 0).toNat = sl) := by show _ = _; rw [hsl]; simp
        have k34 : (34 : Int) < (n : Int) := by omega
        clear hsl
        by_cases hsl1 : n - 35 < sl
        · have hsl1' : (n : Int) - 35 < (sl : Int) := by omega
          have w0 := hW.cell 0; have w1 := hW.cell 1; have w2 := hW.cell 2; have w3 := hW.cell 3; have w4 := hW.cell 4; have w5 := hW.cell 5; have w6 := hW.cell 6
          have r0 := hR.cell 0; have r1 := hR.cell 1; have r2 := hR.cell 2; have r3 := hR.cell 3; have r4 := hR.cell 4; have r5 := hR.cell 5; have r6 := hR.cell 6
          have f0 := hR.free 0; have f1 := hR.free 1; have f2 := hR.free 2; have f3 := hR.free 3; have f4 := hR.free 4; have f5 := hR.free 5; have f6 := hR.free 6
          simp only [List.getElem?_cons_succ, List.getElem?_cons_zero] at w0 w1 w2 w3 w4 w5 w6 r0 r1 r2 r3 r4 r5 r6
          have HBR : Hid (Blk wk (w.heap.size + 1) _ 38) := hR
          clear hW hR
          go_wp2
          have q := set7 HBR.out hB (by omega) (.bool false) (.int .u16 (be bs 0)) (.slice (some A2) 32 (cap - 2)) (.slice sa sn sc) (.int .u16 c0) (.int .u8 cm0) (.slice xa xn xc)
          refine bodyPost_ret (res7 q.1 _ rfl) rfl ⟨_, rfl, ?_, q.2⟩
          rw [parse3 _ _ (by rw [← HN.out]; exact h34) (.inr (by rw [← HN.out, HSL.out]; exact hsl1))]
          exact ⟨_, _, _, rfl, D2.grown q.2, hs.grown q.2, hx.grown q.2⟩
        · have hsl1' : ¬ (n : Int) - 35 < (sl : Int) := by omega
          have cw := hW.cell 3
          simp only [List.getElem?_cons_succ, List.getElem?_cons_zero] at cw
          have fw := hW.free 3
          go_upto_region 15 with ((with_reducible refine at_slice ?_); refine wpList_slice_part rfl (.tmp 62) _ _ rfl ⟨b, o, none⟩ n cap 35 (35 + sl) 35 (35 + (sl : Int)) rfl rfl rfl rfl (by simp) (by omega) (by omega) ?_; intro A3 hA3)
          have A := adv hW hR hB (by omega) (by omega) 3 (.slice (some A3) sl (cap - 35))
          clear hW hR hB cw fw cs
          generalize (World.setCell wk ⟨w.heap.size + 1 + 1, 3, none⟩ (.slice (some A3) sl (cap - 35))) = wk2 at A ⊢
          clear wk
          obtain ⟨wk, hwk⟩ : ∃ y, y = wk2 := ⟨_, rfl⟩
          subst hwk
          obtain ⟨hW', hR, hB⟩ := A
          have hW : Blk wk (w.heap.size + 1 + 1) [.bool false, .int .u16 (be bs 0), .slice (some A2) 32 (cap - 2), .slice (some A3) sl (cap - 35), .int .u16 c0, .int .u8 cm0, .slice xa xn xc] 38 := hW'
          clear hW'
          have D3 : Rd w (.slice (some A3) sl (cap - 35)) (some ((bs.drop 35).take sl)) (fun k => k = gM) := by rw [hA3.out]; exact Rd.part ha 35 sl cap (by rw [← HN.out]; exact hc) (by rw [← HN.out]; omega)
          clear hA3
          have Q3 : Hid (¬ (bs.length < 35 ∨ bs.length - 35 < (bs.getD 34 0).toNat)) := by show ¬ _; rw [← HN.out, HSL.out]; omega
          by_cases h32 : 32 < sl
          · have h32' : (32 : Int) < (sl : Int) := by omega
            have w0 := hW.cell 0; have w1 := hW.cell 1; have w2 := hW.cell 2; have w3 := hW.cell 3; have w4 := hW.cell 4; have w5 := hW.cell 5; have w6 := hW.cell 6
            have r0 := hR.cell 0; have r1 := hR.cell 1; have r2 := hR.cell 2; have r3 := hR.cell 3; have r4 := hR.cell 4; have r5 := hR.cell 5; have r6 := hR.cell 6
            have f0 := hR.free 0; have f1 := hR.free 1; have f2 := hR.free 2; have f3 := hR.free 3; have f4 := hR.free 4; have f5 := hR.free 5; have f6 := hR.free 6
            simp only [List.getElem?_cons_succ, List.getElem?_cons_zero] at w0 w1 w2 w3 w4 w5 w6 r0 r1 r2 r3 r4 r5 r6
            have HBR : Hid (Blk wk (w.heap.size + 1) _ 38) := hR
            clear hW hR
            go_wp2
            have q := set7 HBR.out hB (by omega) (.bool false) (.int .u16 (be bs 0)) (.slice (some A2) 32 (cap - 2)) (.slice (some A3) sl (cap - 35)) (.int .u16 c0) (.int .u8 cm0) (.slice xa xn xc)
            refine bodyPost_ret (res7 q.1 _ rfl) rfl ⟨_, rfl, ?_, q.2⟩
            rw [parse4 _ _ Q3.out (.inl (by rw [HSL.out]; exact h32)), HSL.out]
            exact ⟨_, _, _, rfl, D2.grown q.2, D3.grown q.2, hx.grown q.2⟩
          · have h32' : ¬ (32 : Int) < (sl : Int) := by omega
            by_cases h37 : n - (35 + sl) < 2
            · have h37' : (n : Int) - (35 + (sl : Int)) < 2 := by omega
              have w0 := hW.cell 0; have w1 := hW.cell 1; have w2 := hW.cell 2; have w3 := hW.cell 3; have w4 := hW.cell 4; have w5 := hW.cell 5; have w6 := hW.cell 6
              have r0 := hR.cell 0; have r1 := hR.cell 1; have r2 := hR.cell 2; have r3 := hR.cell 3; have r4 := hR.cell 4; have r5 := hR.cell 5; have r6 := hR.cell 6
              have f0 := hR.free 0; have f1 := hR.free 1; have f2 := hR.free 2; have f3 := hR.free 3; have f4 := hR.free 4; have f5 := hR.free 5; have f6 := hR.free 6
              simp only [List.getElem?_cons_succ, List.getElem?_cons_zero] at w0 w1 w2 w3 w4 w5 w6 r0 r1 r2 r3 r4 r5 r6
              have HBR : Hid (Blk wk (w.heap.size + 1) _ 38) := hR
              clear hW hR
              go_wp2
              have q := set7 HBR.out hB (by omega) (.bool false) (.int .u16 (be bs 0)) (.slice (some A2) 32 (cap - 2)) (.slice (some A3) sl (cap - 35)) (.int .u16 c0) (.int .u8 cm0) (.slice xa xn xc)
              refine bodyPost_ret (res7 q.1 _ rfl) rfl ⟨_, rfl, ?_, q.2⟩
              rw [parse4 _ _ Q3.out (.inr (by rw [← HN.out, HSL.out]; exact h37)), HSL.out]
              exact ⟨_, _, _, rfl, D2.grown q.2, D3.grown q.2, hx.grown q.2⟩
            · have h37' : ¬ (n : Int) - (35 + (sl : Int)) < 2 := by omega
              have cw := hW.cell 4
              simp only [List.getElem?_cons_succ, List.getElem?_cons_zero] at cw
              have fw := hW.free 4
              obtain ⟨y0, cy0, hy0⟩ : ∃ z, wk.cell? ⟨b, o + (35 + sl), none⟩ = some (.int .u8 z) ∧ Hid (z = bs.getD (35 + sl) 0) := ⟨_, HC.out _ (by omega) wk hB, rfl⟩
              obtain ⟨y1, cy1, hy1⟩ : ∃ z, wk.cell? ⟨b, o + (35 + sl + 1), none⟩ = some (.int .u8 z) ∧ Hid (z = bs.getD (35 + sl + 1) 0) := ⟨_, HC.out _ (by omega) wk hB, rfl⟩
              have k5 : (35 + (sl : Int)) < (n : Int) := by omega
              have k6 : (35 + (sl : Int)) + 1 < (n : Int) := by omega
              go_upto_region 20 with fail
              go_region
              have E2 : bits BinOp.or IntKind.u16 (IntKind.u16.wrap (IntKind.u16.wrap y0 * 256)) (IntKind.u16.wrap y1) = be bs (35 + sl) := by
                rw [hy0.out, hy1.out]
                exact be16 _ _ (hb.at _).1 (hb.at _).2 (hb.at _).1 (hb.at _).2
              rw [E2]
              have A := advD hW hR hB (by omega) (by omega) 4 (.int .u16 (be bs (35 + sl)))
              clear hW hR hB cw fw cy0 cy1 hy0 hy1 E2 k5 k6
              generalize (World.setCell wk ⟨w.heap.size + 1 + 1, 4, none⟩ (.int .u16 (be bs (35 + sl)))).drew = wk2 at A ⊢
              clear wk
              obtain ⟨wk, hwk⟩ : ∃ y, y = wk2 := ⟨_, rfl⟩
              subst hwk
              obtain ⟨hW', hR, hB⟩ := A
              have hW : Blk wk (w.heap.size + 1 + 1) [.bool false, .int .u16 (be bs 0), .slice (some A2) 32 (cap - 2), .slice (some A3) sl (cap - 35), .int .u16 (be bs (35 + sl)), .int .u8 cm0, .slice xa xn xc] 38 := hW'
              clear hW'
              have Q4 : Hid (¬ (32 < (bs.getD 34 0).toNat ∨ bs.length - (35 + (bs.getD 34 0).toNat) < 2)) := by show ¬ _; rw [← HN.out, HSL.out]; omega
              by_cases h38 : n - (35 + sl) < 3
              · have h38' : (n : Int) - (35 + (sl : Int)) < 3 := by omega
                have w0 := hW.cell 0; have w1 := hW.cell 1; have w2 := hW.cell 2; have w3 := hW.cell 3; have w4 := hW.cell 4; have w5 := hW.cell 5; have w6 := hW.cell 6
                have r0 := hR.cell 0; have r1 := hR.cell 1; have r2 := hR.cell 2; have r3 := hR.cell 3; have r4 := hR.cell 4; have r5 := hR.cell 5; have r6 := hR.cell 6
                have f0 := hR.free 0; have f1 := hR.free 1; have f2 := hR.free 2; have f3 := hR.free 3; have f4 := hR.free 4; have f5 := hR.free 5; have f6 := hR.free 6
                simp only [List.getElem?_cons_succ, List.getElem?_cons_zero] at w0 w1 w2 w3 w4 w5 w6 r0 r1 r2 r3 r4 r5 r6
                have HBR : Hid (Blk wk (w.heap.size + 1) _ 38) := hR
                clear hW hR
                go_wp2
                have q := set7 HBR.out hB (by omega) (.bool false) (.int .u16 (be bs 0)) (.slice (some A2) 32 (cap - 2)) (.slice (some A3) sl (cap - 35)) (.int .u16 (be bs (35 + sl))) (.int .u8 cm0) (.slice xa xn xc)
                refine bodyPost_ret (res7 q.1 _ rfl) rfl ⟨_, rfl, ?_, q.2⟩
                rw [parse5 _ _ Q3.out Q4.out (by rw [← HN.out, HSL.out]; exact h38), HSL.out]
                exact ⟨_, _, _, rfl, D2.grown q.2, D3.grown q.2, hx.grown q.2⟩
              · have h38' : ¬ (n : Int) - (35 + (sl : Int)) < 3 := by omega
                have cw := hW.cell 5
                have cw6 := hW.cell 6
                simp only [List.getElem?_cons_succ, List.getElem?_cons_zero] at cw cw6
                have fw := hW.free 5
                have fw6 := hW.free 6
                obtain ⟨y2, cy2, hy2⟩ : ∃ z, wk.cell? ⟨b, o + (35 + sl + 2), none⟩ = some (.int .u8 z) ∧ Hid (z = bs.getD (37 + sl) 0) := ⟨_, HC.out _ (by omega) wk hB, by show _ = _; congr 1; omega⟩
                have k7 : (35 + (sl : Int)) + 2 < (n : Int) := by omega
                go_upto_region 26 with fail
                have A1 := adv hW hR hB (by omega) (by omega) 5 (.int .u8 y2)
                have A := adv A1.1 A1.2.1 A1.2.2 (by omega) (by omega) 6 (.slice none 0 0)
                clear hW hR hB cw cw6 fw fw6 cy2 k7 A1
                generalize ((World.setCell wk ⟨w.heap.size + 1 + 1, 5, none⟩ (.int .u8 y2)).setCell ⟨w.heap.size + 1 + 1, 6, none⟩ (.slice none 0 0)) = wk2 at A ⊢
                clear wk
                obtain ⟨wk, hwk⟩ : ∃ y, y = wk2 := ⟨_, rfl⟩
                subst hwk
                obtain ⟨hW', hR, hB⟩ := A
                have hW : Blk wk (w.heap.size + 1 + 1) [.bool false, .int .u16 (be bs 0), .slice (some A2) 32 (cap - 2), .slice (some A3) sl (cap - 35), .int .u16 (be bs (35 + sl)), .int .u8 y2, .slice none 0 0] 38 := hW'
                clear hW'
                obtain ⟨p, hp⟩ : ∃ p, p = 38 + sl := ⟨_, rfl⟩
                rw [show (35 + (sl : Int) + 3) = (p : Int) by omega]
                have hpn : p ≤ n := by omega
                have HP : Hid (p = 38 + sl) := hp
                have Q5 : Hid (parse bs ⟨false, v0, R0, S0, c0, cm0, X0⟩ = ⟨(exts (bs.drop p)).1, be bs 0, some ((bs.drop 2).take 32), some ((bs.drop 35).take sl), be bs (35 + sl), y2, (exts (bs.drop p)).2⟩) := by
                  show _ = _
                  rw [parse6 _ _ Q3.out Q4.out (by rw [← HN.out, HSL.out]; exact h38), HSL.out, hy2.out, hp]
                clear hp h38' h37' h34' h35' hsl1' k34 Q3 Q4
                have HLn : Hid ((bs.drop p).length = n - p) := by show _ = _; rw [List.length_drop, ← HN.out]
                by_cases hpe : p = n
                · have hpe' : ((p : Int) == (n : Int)) = true := by simp; omega
                  have cw := hW.cell 0
                  simp only [List.getElem?_cons_zero] at cw
                  have fw := hW.free 0
                  go_upto_region 28 with fail
                  have A := adv hW hR hB (by omega) (by omega) 0 (.bool true)
                  clear hW hR hB cw fw
                  generalize (World.setCell wk ⟨w.heap.size + 1 + 1, 0, none⟩ (.bool true)) = wk2 at A ⊢
                  clear wk
                  obtain ⟨wk, hwk⟩ : ∃ y, y = wk2 := ⟨_, rfl⟩
                  subst hwk
                  obtain ⟨hW', hR, hB⟩ := A
                  have hW : Blk wk (w.heap.size + 1 + 1) [.bool true, .int .u16 (be bs 0), .slice (some A2) 32 (cap - 2), .slice (some A3) sl (cap - 35), .int .u16 (be bs (35 + sl)), .int .u8 y2, .slice none 0 0] 38 := hW'
                  clear hW'
                  have w0 := hW.cell 0; have w1 := hW.cell 1; have w2 := hW.cell 2; have w3 := hW.cell 3; have w4 := hW.cell 4; have w5 := hW.cell 5; have w6 := hW.cell 6
                  have r0 := hR.cell 0; have r1 := hR.cell 1; have r2 := hR.cell 2; have r3 := hR.cell 3; have r4 := hR.cell 4; have r5 := hR.cell 5; have r6 := hR.cell 6
                  have f0 := hR.free 0; have f1 := hR.free 1; have f2 := hR.free 2; have f3 := hR.free 3; have f4 := hR.free 4; have f5 := hR.free 5; have f6 := hR.free 6
                  simp only [List.getElem?_cons_succ, List.getElem?_cons_zero] at w0 w1 w2 w3 w4 w5 w6 r0 r1 r2 r3 r4 r5 r6
                  have HBR : Hid (Blk wk (w.heap.size + 1) _ 38) := hR
                  clear hW hR
                  go_wp2
                  have q := set7 HBR.out hB (by omega) (.bool true) (.int .u16 (be bs 0)) (.slice (some A2) 32 (cap - 2)) (.slice (some A3) sl (cap - 35)) (.int .u16 (be bs (35 + sl))) (.int .u8 y2) (.slice none 0 0)
                  refine bodyPost_ret (res7 q.1 _ rfl) rfl ⟨_, rfl, ?_, q.2⟩
                  rw [Q5.out, show exts (bs.drop p) = (true, none) by unfold exts; rw [if_pos (by rw [HLn.out]; omega)]]
                  exact ⟨_, _, _, rfl, D2.grown q.2, D3.grown q.2, rfl⟩
                · have hpe' : ((p : Int) == (n : Int)) = false := by simp; omega
                  by_cases h2r : n - p < 2
                  · have h2r' : (n : Int) - (p : Int) < 2 := by omega
                    have w0 := hW.cell 0; have w1 := hW.cell 1; have w2 := hW.cell 2; have w3 := hW.cell 3; have w4 := hW.cell 4; have w5 := hW.cell 5; have w6 := hW.cell 6
                    have r0 := hR.cell 0; have r1 := hR.cell 1; have r2 := hR.cell 2; have r3 := hR.cell 3; have r4 := hR.cell 4; have r5 := hR.cell 5; have r6 := hR.cell 6
                    have f0 := hR.free 0; have f1 := hR.free 1; have f2 := hR.free 2; have f3 := hR.free 3; have f4 := hR.free 4; have f5 := hR.free 5; have f6 := hR.free 6
                    simp only [List.getElem?_cons_succ, List.getElem?_cons_zero] at w0 w1 w2 w3 w4 w5 w6 r0 r1 r2 r3 r4 r5 r6
                    have HBR : Hid (Blk wk (w.heap.size + 1) _ 38) := hR
                    clear hW hR
                    go_wp2
                    have q := set7 HBR.out hB (by omega) (.bool false) (.int .u16 (be bs 0)) (.slice (some A2) 32 (cap - 2)) (.slice (some A3) sl (cap - 35)) (.int .u16 (be bs (35 + sl))) (.int .u8 y2) (.slice none 0 0)
                    refine bodyPost_ret (res7 q.1 _ rfl) rfl ⟨_, rfl, ?_, q.2⟩
                    rw [Q5.out, show exts (bs.drop p) = (false, none) by unfold exts; rw [if_neg (by rw [HLn.out]; omega), if_pos (by rw [HLn.out]; exact h2r)]]
                    exact ⟨_, _, _, rfl, D2.grown q.2, D3.grown q.2, rfl⟩
                  · have h2r' : ¬ (n : Int) - (p : Int) < 2 := by omega
                    obtain ⟨x0, cx0, hx0⟩ : ∃ z, wk.cell? ⟨b, o + p, none⟩ = some (.int .u8 z) ∧ Hid (z = bs.getD p 0) := ⟨_, HC.out _ (by omega) wk hB, rfl⟩
                    obtain ⟨x1, cx1, hx1⟩ : ∃ z, wk.cell? ⟨b, o + (p + 1), none⟩ = some (.int .u8 z) ∧ Hid (z = bs.getD (p + 1) 0) := ⟨_, HC.out _ (by omega) wk hB, rfl⟩
                    have k5 : (p : Int) < (n : Int) := by omega
                    have k6 : (p : Int) + 1 < (n : Int) := by omega
                    go_upto_region 31 with fail
                    go_quiet (fail)
                    obtain ⟨L, hL⟩ : ∃ L : Nat, be bs p = (L : Int) := Int.eq_ofNat_of_zero_le (by have h1 := hb.at p; have h2 := hb.at (p + 1); unfold be; omega)
                    have E3 : bits BinOp.or IntKind.i64 (wrap64 (wrap64 x0 * 256)) (wrap64 x1) = (L : Int) := by
                      rw [hx0.out, hx1.out, or64b _ _ (hb.at _).1 (hb.at _).2 (hb.at _).1 (hb.at _).2, ← hL]; rfl
                    rw [E3]
                    have HL : Hid ((be (bs.drop p) 0).toNat = L) := by show _ = _; rw [show be (bs.drop p) 0 = be bs p by simp [be], hL]; simp
                    have A : Blk (wk.drewN nq) (w.heap.size + 1 + 1) _ 38 ∧ Blk (wk.drewN nq) (w.heap.size + 1) _ 38 ∧ Below w.heap.size w (wk.drewN nq) := ⟨hW, hR, below_drewN' hB nq⟩
                    clear hW hR hB cx0 cx1 hx0 hx1 E3 hL k5 k6
                    generalize (wk.drewN nq) = wk2 at A ⊢
                    clear wk
                    obtain ⟨wk, hwk⟩ : ∃ y, y = wk2 := ⟨_, rfl⟩
                    subst hwk
                    obtain ⟨hW, hR, hB⟩ := A
                    by_cases hLn : n - p - 2 = L
                    · have hLn' : ((n : Int) - (p : Int) - 2 != (L : Int)) = false := by simp; omega
                      have Q6 : Hid (exts (bs.drop p) = fin (exl ((bs.drop p).length + 1) (bs.drop (p + 2)) [])) := by
                        show _ = _
                        unfold exts
                        rw [if_neg (by rw [HLn.out]; omega), if_neg (by rw [HLn.out]; omega), if_neg (by rw [HLn.out, HL.out]; omega), List.drop_drop]
                      obtain ⟨zc, zc1, zc2, hz44⟩ := zero44
                      have ZF : Hid (FlagsIs zc []) := FlagsIs.start zc1 zc2
                      have zne : ¬ zc = [] := by intro e; rw [e] at zc1; simp at zc1
                      clear zc1 zc2
                      go_wp2
                      clear hz44 zne hLn' h2r' hpe'
                      obtain ⟨R, hR0⟩ : ∃ R, R = exl ((bs.drop p).length + 1) (bs.drop (p + 2)) [] := ⟨_, rfl⟩
                      rw [← hR0] at Q6
                      have HR0 : Hid (exl (n - p + 1) (bs.drop (p + 2)) [] = R) := by show _ = _; rw [hR0, HLn.out]
                      clear hR0
                      have hgW := hW.lt
                      have I0 : Blk (wk.alloc (.cells zc.toArray 44)) wk.heap.size zc 44 := Blk.made wk zc 44
                      have I1 := hW.alloc (.cells zc.toArray 44)
                      have I2 := hR.alloc (.cells zc.toArray 44)
                      have I3 : Below w.heap.size w (wk.alloc (.cells zc.toArray 44)) := hB.alloc (by omega) _
                      obtain ⟨gS, hgS⟩ : ∃ g, g = wk.heap.size := ⟨_, rfl⟩
                      rw [← hgS] at I0 hgW ⊢
                      clear hW hR hB hgS
                      generalize (wk.alloc (.cells zc.toArray 44)) = wl at *
                      go_loopw [10, 12] (fun q ov wr => ∃ (f qn : Nat) (acc : List Ext) (cs : List Value), q = .int .i64 qn ∧ Hid (qn ≤ n ∧ n - qn < f ∧ exl f (bs.drop qn) acc = R ∧ FlagsIs cs acc ∧ acc.length + (n - qn) ≤ n) ∧ Blk wr (w.heap.size + 1 + 1) [.bool false, .int .u16 (be bs 0), .slice (some A2) 32 (cap - 2), .slice (some A3) sl (cap - 35), .int .u16 (be bs (35 + sl)), .int .u8 y2, .slice none 0 0] 38 ∧ Blk wr (w.heap.size + 1) [.bool false, .int .u16 0, .slice none 0 0, .slice none 0 0, .int .u16 0, .int .u8 0, .slice none 0 0] 38 ∧ Blk wr gS cs 44 ∧ XOwn wr (gS + 1) 28 ov acc (fun k => k = gM ∨ w.heap.size ≤ k) ∧ Below w.heap.size w wr) (fun q _ _ => n - (intOf q).toNat)
                      case atStart => exact ⟨n - p + 1, p + 2, [], zc, by simp, ⟨by omega, by omega, HR0.out, ZF.out, by simp⟩, I1, I2, I0, XOwn.nil _ _ _ _, I3⟩
                      case round =>
                        obtain ⟨f, qn, acc, cs, rfl, H, hW, hR, hS, hX, hB⟩ := hrel
                        clear I0 I1 I2 I3 ZF HR0
                        clear wl wk
                        obtain ⟨wk, hwk⟩ : ∃ y, y = wr := ⟨_, rfl⟩
                        subst hwk
                        by_cases hqn : qn = n
                        · have i0 : ¬ (qn : Int) < (n : Int) := by omega
                          have hRa : R = some acc := by
                            obtain ⟨h1, h2', h3, _⟩ := H.out
                            rw [← h3]
                            cases f with
                            | zero => omega
                            | succ f => unfold exl; rw [if_pos (by rw [List.length_drop, ← HN.out]; omega)]
                          obtain ⟨ao, no, co, rfl⟩ := hX.shape
                          have cw := hW.cell 0
                          have cw6 := hW.cell 6
                          simp only [List.getElem?_cons_succ, List.getElem?_cons_zero] at cw cw6
                          have fw := hW.free 0
                          have fw6 := hW.free 6
                          go_upto_region 51 with fail
                          have A1 := adv hW hR hB (by omega) (by omega) 6 (.slice ao no co)
                          have A := adv A1.1 A1.2.1 A1.2.2 (by omega) (by omega) 0 (.bool true)
                          have hX2 := hX.kept (((Kp.refl wk [w.heap.size + 1 + 1]).set (w.heap.size + 1 + 1) 6 (.slice ao no co) (by simp)).set (w.heap.size + 1 + 1) 0 (.bool true) (by simp)) (fun k hk _ => ⟨.inr (by simp at hk; omega), fun e => by have := hX.lt k e; simp at hk; omega⟩)
                          clear hW hR hB hX cw cw6 fw fw6 A1 hS
                          generalize ((World.setCell wk ⟨w.heap.size + 1 + 1, 6, none⟩ (.slice ao no co)).setCell ⟨w.heap.size + 1 + 1, 0, none⟩ (.bool true)) = wk2 at A hX2 ⊢
                          clear wk
                          obtain ⟨wk, hwk⟩ : ∃ y, y = wk2 := ⟨_, rfl⟩
                          subst hwk
                          obtain ⟨hW', hR, hB⟩ := A
                          have hW : Blk wk (w.heap.size + 1 + 1) [.bool true, .int .u16 (be bs 0), .slice (some A2) 32 (cap - 2), .slice (some A3) sl (cap - 35), .int .u16 (be bs (35 + sl)), .int .u8 y2, .slice ao no co] 38 := hW'
                          clear hW'
                          have w0 := hW.cell 0; have w1 := hW.cell 1; have w2 := hW.cell 2; have w3 := hW.cell 3; have w4 := hW.cell 4; have w5 := hW.cell 5; have w6 := hW.cell 6
                          have r0 := hR.cell 0; have r1 := hR.cell 1; have r2 := hR.cell 2; have r3 := hR.cell 3; have r4 := hR.cell 4; have r5 := hR.cell 5; have r6 := hR.cell 6
                          have f0 := hR.free 0; have f1 := hR.free 1; have f2 := hR.free 2; have f3 := hR.free 3; have f4 := hR.free 4; have f5 := hR.free 5; have f6 := hR.free 6
                          simp only [List.getElem?_cons_succ, List.getElem?_cons_zero] at w0 w1 w2 w3 w4 w5 w6 r0 r1 r2 r3 r4 r5 r6
                          have HBR : Hid (Blk wk (w.heap.size + 1) _ 38) := hR
                          clear hW hR
                          go_wp2
                          have q := set7 HBR.out hB (by omega) (.bool true) (.int .u16 (be bs 0)) (.slice (some A2) 32 (cap - 2)) (.slice (some A3) sl (cap - 35)) (.int .u16 (be bs (35 + sl))) (.int .u8 y2) (.slice ao no co)
                          refine bodyPost_ret (res7 q.1 _ rfl) rfl ⟨_, rfl, ?_, q.2⟩
                          rw [Q5.out, Q6.out, hRa]
                          have hq := (hX2.kept (set7K (gR := w.heap.size + 1) (.bool true) (.int .u16 (be bs 0)) (.slice (some A2) 32 (cap - 2)) (.slice (some A3) sl (cap - 35)) (.int .u16 (be bs (35 + sl))) (.int .u8 y2) (.slice ao no co)) (fun k hk _ => ⟨.inr (by simp at hk; omega), fun e => by have := hX2.lt k e; simp at hk; omega⟩)).read (bad' := fun k => k = gM) (fun k _ e => .inl e) (fun k hk e => by omega)
                          exact ⟨_, _, _, rfl, D2.grown q.2, D3.grown q.2, hq⟩
                        · have i0 : (qn : Int) < (n : Int) := by have := H.out.1; omega
                          by_cases hq4 : n - qn < 4
                          · have hq4' : (n : Int) - (qn : Int) < 4 := by have := H.out.1; omega
                            have hRa : R = none := by
                              obtain ⟨h1, h2', h3, _⟩ := H.out
                              rw [← h3]
                              cases f with
                              | zero => rfl
                              | succ f => unfold exl; rw [if_neg (by rw [List.length_drop, ← HN.out]; omega), if_pos (by rw [List.length_drop, ← HN.out]; omega)]
                            have w0 := hW.cell 0; have w1 := hW.cell 1; have w2 := hW.cell 2; have w3 := hW.cell 3; have w4 := hW.cell 4; have w5 := hW.cell 5; have w6 := hW.cell 6
                            have r0 := hR.cell 0; have r1 := hR.cell 1; have r2 := hR.cell 2; have r3 := hR.cell 3; have r4 := hR.cell 4; have r5 := hR.cell 5; have r6 := hR.cell 6
                            have f0 := hR.free 0; have f1 := hR.free 1; have f2 := hR.free 2; have f3 := hR.free 3; have f4 := hR.free 4; have f5 := hR.free 5; have f6 := hR.free 6
                            simp only [List.getElem?_cons_succ, List.getElem?_cons_zero] at w0 w1 w2 w3 w4 w5 w6 r0 r1 r2 r3 r4 r5 r6
                            have HBR : Hid (Blk wk (w.heap.size + 1) _ 38) := hR
                            clear hW hR
                            go_wp2
                            have q := set7 HBR.out hB (by omega) (.bool false) (.int .u16 (be bs 0)) (.slice (some A2) 32 (cap - 2)) (.slice (some A3) sl (cap - 35)) (.int .u16 (be bs (35 + sl))) (.int .u8 y2) (.slice none 0 0)
                            refine bodyPost_ret (res7 q.1 _ rfl) rfl ⟨_, rfl, ?_, q.2⟩
                            rw [Q5.out, Q6.out, hRa]
                            exact ⟨_, _, _, rfl, D2.grown q.2, D3.grown q.2, rfl⟩
                          · have hq4' : ¬ (n : Int) - (qn : Int) < 4 := by have := H.out.1; omega
                            obtain ⟨a0, ca0, ha0⟩ : ∃ z, wk.cell? ⟨b, o + qn, none⟩ = some (.int .u8 z) ∧ Hid (z = bs.getD qn 0) := ⟨_, HC.out _ (by omega) wk hB, rfl⟩
                            obtain ⟨a1, ca1, ha1⟩ : ∃ z, wk.cell? ⟨b, o + (qn + 1), none⟩ = some (.int .u8 z) ∧ Hid (z = bs.getD (qn + 1) 0) := ⟨_, HC.out _ (by omega) wk hB, rfl⟩
                            obtain ⟨a2, ca2, ha2⟩ : ∃ z, wk.cell? ⟨b, o + (qn + 2), none⟩ = some (.int .u8 z) ∧ Hid (z = bs.getD (qn + 2) 0) := ⟨_, HC.out _ (by omega) wk hB, rfl⟩
                            obtain ⟨a3, ca3, ha3⟩ : ∃ z, wk.cell? ⟨b, o + (qn + 3), none⟩ = some (.int .u8 z) ∧ Hid (z = bs.getD (qn + 3) 0) := ⟨_, HC.out _ (by omega) wk hB, rfl⟩
                            have k1 : (qn : Int) + 1 < (n : Int) := by omega
                            have k2 : (qn : Int) + 2 < (n : Int) := by omega
                            have k3 : (qn : Int) + 3 < (n : Int) := by omega
                            go_upto_region 40 with fail
                            go_quiet (fail)
                            obtain ⟨nq1, hnq⟩ : ∃ y, y = nq := ⟨_, rfl⟩
                            subst hnq
                            go_upto_region 41 with fail
                            go_quiet (fail)
                            obtain ⟨t, ht⟩ : ∃ t : Nat, be bs qn = (t : Int) := Int.eq_ofNat_of_zero_le (by have h1 := hb.at qn; have h2 := hb.at (qn + 1); unfold be; omega)
                            have htl : t < 65536 := by have h1 := hb.at qn; have h2 := hb.at (qn + 1); unfold be at ht; omega
                            obtain ⟨dl, hdl⟩ : ∃ t : Nat, be bs (qn + 2) = (t : Int) := Int.eq_ofNat_of_zero_le (by have h1 := hb.at (qn + 2); have h2 := hb.at (qn + 2 + 1); unfold be; omega)
                            have hdll : dl < 65536 := by have h1 := hb.at (qn + 2); have h2 := hb.at (qn + 2 + 1); unfold be at hdl; omega
                            have E4 : bits BinOp.or IntKind.u16 (IntKind.u16.wrap (IntKind.u16.wrap a0 * 256)) (IntKind.u16.wrap a1) = (t : Int) := by
                              rw [ha0.out, ha1.out, be16 _ _ (hb.at _).1 (hb.at _).2 (hb.at _).1 (hb.at _).2, ← ht]; rfl
                            have E5 : bits BinOp.or IntKind.i64 (wrap64 (wrap64 a2 * 256)) (wrap64 a3) = (dl : Int) := by
                              rw [ha2.out, ha3.out, or64b _ _ (hb.at _).1 (hb.at _).2 (hb.at _).1 (hb.at _).2, ← hdl]; rfl
                            rw [E4, E5]
                            have HT : Hid (be (bs.drop qn) 0 = (t : Int)) := by show _ = _; rw [show be (bs.drop qn) 0 = be bs qn by simp [be], ht]
                            have HD : Hid ((be (bs.drop qn) 2).toNat = dl) := by show _ = _; rw [show be (bs.drop qn) 2 = be bs (qn + 2) by simp [be], hdl]; simp
                            have HLq : Hid ((bs.drop qn).length = n - qn) := by show _ = _; rw [List.length_drop, ← HN.out]
                            have A : Blk ((wk.drewN nq1).drewN nq) (w.heap.size + 1 + 1) _ 38 ∧ Blk ((wk.drewN nq1).drewN nq) (w.heap.size + 1) _ 38 ∧ Blk ((wk.drewN nq1).drewN nq) gS cs 44 ∧ XOwn ((wk.drewN nq1).drewN nq) (gS + 1) 28 _ acc _ ∧ Below w.heap.size w ((wk.drewN nq1).drewN nq) := ⟨hW, hR, hS, hX.kept (((Kp.refl wk []).drewN nq1).drewN nq) (by simp), below_drewN' (below_drewN' hB nq1) nq⟩
                            clear hW hR hS hX hB ca0 ca1 ca2 ca3 ha0 ha1 ha2 ha3 E4 E5 k1 k2 k3 ht hdl
                            generalize ((wk.drewN nq1).drewN nq) = wk2 at A ⊢
                            clear wk
                            obtain ⟨wk, hwk⟩ : ∃ y, y = wk2 := ⟨_, rfl⟩
                            subst hwk
                            obtain ⟨hW, hR, hS, hX, hB⟩ := A
                            by_cases hqd : n - qn - 4 < dl
                            · have hqd' : (n : Int) - (qn : Int) - 4 < (dl : Int) := by omega
                              have hRa : R = none := by
                                obtain ⟨h1, h2', h3, _⟩ := H.out
                                rw [← h3]
                                cases f with
                                | zero => rfl
                                | succ f => unfold exl; rw [if_neg (by rw [HLq.out]; omega), if_neg (by rw [HLq.out]; omega), if_pos (by rw [HLq.out, HD.out]; exact hqd)]
                              have w0 := hW.cell 0; have w1 := hW.cell 1; have w2 := hW.cell 2; have w3 := hW.cell 3; have w4 := hW.cell 4; have w5 := hW.cell 5; have w6 := hW.cell 6
                              have r0 := hR.cell 0; have r1 := hR.cell 1; have r2 := hR.cell 2; have r3 := hR.cell 3; have r4 := hR.cell 4; have r5 := hR.cell 5; have r6 := hR.cell 6
                              have f0 := hR.free 0; have f1 := hR.free 1; have f2 := hR.free 2; have f3 := hR.free 3; have f4 := hR.free 4; have f5 := hR.free 5; have f6 := hR.free 6
                              simp only [List.getElem?_cons_succ, List.getElem?_cons_zero] at w0 w1 w2 w3 w4 w5 w6 r0 r1 r2 r3 r4 r5 r6
                              have HBR : Hid (Blk wk (w.heap.size + 1) _ 38) := hR
                              clear hW hR
                              go_wp2
                              have q := set7 HBR.out hB (by omega) (.bool false) (.int .u16 (be bs 0)) (.slice (some A2) 32 (cap - 2)) (.slice (some A3) sl (cap - 35)) (.int .u16 (be bs (35 + sl))) (.int .u8 y2) (.slice none 0 0)
                              refine bodyPost_ret (res7 q.1 _ rfl) rfl ⟨_, rfl, ?_, q.2⟩
                              rw [Q5.out, Q6.out, hRa]
                              exact ⟨_, _, _, rfl, D2.grown q.2, D3.grown q.2, rfl⟩
                            · have hqd' : ¬ (n : Int) - (qn : Int) - 4 < (dl : Int) := by omega
                              have ct := hS.cell t
                              rw [H.out.2.2.2.1.2 t htl] at ct
                              have ft := hS.free t
                              have kt : (t : Int) < 65536 := by omega
                              cases hh : has acc t with
                              | true =>
                                rw [hh] at ct
                                have hRa : R = none := by
                                  obtain ⟨h1, h2', h3, _⟩ := H.out
                                  rw [← h3]
                                  cases f with
                                  | zero => rfl
                                  | succ f => unfold exl; rw [if_neg (by rw [HLq.out]; omega), if_neg (by rw [HLq.out]; omega), if_neg (by rw [HLq.out, HD.out]; exact hqd), if_pos (by rw [HT.out]; exact hh)]
                                have w0 := hW.cell 0; have w1 := hW.cell 1; have w2 := hW.cell 2; have w3 := hW.cell 3; have w4 := hW.cell 4; have w5 := hW.cell 5; have w6 := hW.cell 6
                                have r0 := hR.cell 0; have r1 := hR.cell 1; have r2 := hR.cell 2; have r3 := hR.cell 3; have r4 := hR.cell 4; have r5 := hR.cell 5; have r6 := hR.cell 6
                                have f0 := hR.free 0; have f1 := hR.free 1; have f2 := hR.free 2; have f3 := hR.free 3; have f4 := hR.free 4; have f5 := hR.free 5; have f6 := hR.free 6
                                simp only [List.getElem?_cons_succ, List.getElem?_cons_zero] at w0 w1 w2 w3 w4 w5 w6 r0 r1 r2 r3 r4 r5 r6
                                have HBR : Hid (Blk wk (w.heap.size + 1) _ 38) := hR
                                clear hW hR
                                go_wp2
                                have q := set7 HBR.out hB (by omega) (.bool false) (.int .u16 (be bs 0)) (.slice (some A2) 32 (cap - 2)) (.slice (some A3) sl (cap - 35)) (.int .u16 (be bs (35 + sl))) (.int .u8 y2) (.slice none 0 0)
                                refine bodyPost_ret (res7 q.1 _ rfl) rfl ⟨_, rfl, ?_, q.2⟩
                                rw [Q5.out, Q6.out, hRa]
                                exact ⟨_, _, _, rfl, D2.grown q.2, D3.grown q.2, rfl⟩
                              | false =>
                                rw [hh] at ct
                                go_upto_region 47 with fail
                                have hSlt := hS.lt
                                have K6 : Kp wk (wk.setCell ⟨gS, t, none⟩ (.bool true)) [gS] := (Kp.refl wk _).set _ _ _ (by simp)
                                have hX6 := hX.kept K6 (fun k hk _ => ⟨.inr (by simp at hk; omega), fun e => by have := hX.lt k e; simp at hk; omega⟩)
                                have hW6 := hW.kept K6 (by simp; omega)
                                have hR6 := hR.kept K6 (by simp; omega)
                                have hS6 := hS.set t (.bool true)
                                have hB6 := hB.trans (K6.below w.heap.size (by omega) (by simp; omega))
                                have hsz6 : gS < (wk.setCell ⟨gS, t, none⟩ (.bool true)).heap.size := Nat.lt_of_lt_of_le hSlt K6.size
                                clear hX hW hR hS hB K6 ct ft
                                generalize (wk.setCell ⟨gS, t, none⟩ (.bool true)) = w6 at *
                                have hlen : acc.length < 1099511627776 := by have := H.out; omega
                                have hD : ∀ A, A = cutAd ⟨b, o, none⟩ (qn + 4) cap → Rd (w6.alloc (.cells #[.int .u16 t, .slice (some A) dl (cap - (qn + 4))] 28)) (.slice (some A) dl (cap - (qn + 4))) (some ((bs.drop (qn + 4)).take dl)) (fun k => k = gM ∨ w.heap.size ≤ k) := by
                                  intro A hA
                                  rw [hA]
                                  exact ((Rd.part ha (qn + 4) dl cap (by rw [← HN.out]; exact hc) (by rw [← HN.out]; omega)).rebad (bad' := fun k => k = gM ∨ w.heap.size ≤ k) (fun k hk e => by rcases e with e | e; exact e; omega)).grown (hB6.alloc (by omega) _)
                                have hXa := fun O => hX6.kept ((Kp.refl w6 []).alloc O) (by simp)
                                have ca0 : ∀ A, (w6.alloc (.cells #[.int .u16 t, .slice (some A) dl (cap - (qn + 4))] 28)).cell? ⟨w6.heap.size, 0, none⟩ = some (.int .u16 t) := fun A => by rw [cell_of_row _ _ 0 #[.int .u16 (t : Int), .slice (some A) dl (cap - (qn + 4))] 28 (0, 0) (heap_alloc_new w6 _)]; rfl
                                have ca1 : ∀ A, (w6.alloc (.cells #[.int .u16 t, .slice (some A) dl (cap - (qn + 4))] 28)).cell? ⟨w6.heap.size, 1, none⟩ = some (.slice (some A) dl (cap - (qn + 4))) := fun A => by rw [cell_of_row _ _ 1 #[.int .u16 (t : Int), .slice (some A) dl (cap - (qn + 4))] 28 (0, 0) (heap_alloc_new w6 _)]; rfl
                                have HDD : Hid _ := hD
                                have HXA : Hid _ := hXa
                                have HC0 : Hid _ := ca0
                                have HC1 : Hid _ := ca1
                                clear hD hXa ca0 ca1 hX6
                                have ed : qn + 4 + dl - (qn + 4) = dl := by omega
                                go_wp2_with (first | ((with_reducible refine at_slice ?_); refine wpList_slice_part rfl (.tmp 187) _ _ rfl ⟨b, o, none⟩ n cap (qn + 4) (qn + 4 + dl) ((qn : Int) + 4) ((qn : Int) + 4 + (dl : Int)) rfl rfl rfl (by simp) (by simp) (by omega) (by omega) ?_; intro A6 hA6; rw [ed]) | (at_builtin; refine wpList_append_pair rfl (.tmp 185) (.tmp 196) 24 28 Yba.underlying24 Yba.info28 rfl (gS + 1) _ acc _ rfl (HXA.out _) w6.heap.size 1 t _ _ rfl (HC0.out A6) (HC1.out A6) (HDD.out A6 hA6.out) hlen (by simp; omega) (fun k hk => .inr (by omega)) ?_; intro v8 w8 hX8 hk8 hb8))
                                have hb8' : ∀ k ∈ (Value.ownBlock _).toList, gS + 1 ≤ k := hb8
                                have hk8' : Kp (w6.alloc (.cells #[.int .u16 t, .slice (some A6) dl (cap - (qn + 4))] 28)) w8 (Value.ownBlock _).toList := hk8
                                obtain ⟨h1, h2', h3', h4, h5⟩ := H.out
                                go_roundw
                                case measure => simp [intOf]; omega
                                case rel =>
                                  obtain ⟨f', rfl⟩ : ∃ f', f = f' + 1 := ⟨f - 1, by omega⟩
                                  refine ⟨f', qn + (4 + dl), acc ++ [((t : Int), some ((bs.drop (qn + 4)).take dl))], cs.set t (.bool true), by go_num, ⟨by omega, by omega, ?_, h4.add t htl _, by simp; omega⟩, ?_, ?_, ?_, hX8, ?_⟩
                                  · rw [← h3']
                                    conv => rhs; unfold exl
                                    rw [if_neg (by rw [HLq.out]; omega), if_neg (by rw [HLq.out]; omega), if_neg (by rw [HLq.out, HD.out]; exact hqd), if_neg (by rw [HT.out]; have := hh; unfold has at this; rw [this]; simp), HD.out, HT.out, List.drop_drop, List.drop_drop]
                                  · exact (hW6.alloc _).kept hk8' (fun e => by have := hb8' _ e; omega)
                                  · exact (hR6.alloc _).kept hk8' (fun e => by have := hb8' _ e; omega)
                                  · exact (hS6.alloc _).kept hk8' (fun e => by have := hb8' _ e; omega)
                                  · exact (hB6.alloc (by omega) _).trans (hk8'.below _ (by simp; omega) (fun k hk => by have := hb8' k hk; omega))
                    · have hLn' : ((n : Int) - (p : Int) - 2 != (L : Int)) = true := by simp; omega
                      have w0 := hW.cell 0; have w1 := hW.cell 1; have w2 := hW.cell 2; have w3 := hW.cell 3; have w4 := hW.cell 4; have w5 := hW.cell 5; have w6 := hW.cell 6
                      have r0 := hR.cell 0; have r1 := hR.cell 1; have r2 := hR.cell 2; have r3 := hR.cell 3; have r4 := hR.cell 4; have r5 := hR.cell 5; have r6 := hR.cell 6
                      have f0 := hR.free 0; have f1 := hR.free 1; have f2 := hR.free 2; have f3 := hR.free 3; have f4 := hR.free 4; have f5 := hR.free 5; have f6 := hR.free 6
                      simp only [List.getElem?_cons_succ, List.getElem?_cons_zero] at w0 w1 w2 w3 w4 w5 w6 r0 r1 r2 r3 r4 r5 r6
                      have HBR : Hid (Blk wk (w.heap.size + 1) _ 38) := hR
                      clear hW hR
                      go_wp2
                      have q := set7 HBR.out hB (by omega) (.bool false) (.int .u16 (be bs 0)) (.slice (some A2) 32 (cap - 2)) (.slice (some A3) sl (cap - 35)) (.int .u16 (be bs (35 + sl))) (.int .u8 y2) (.slice none 0 0)
                      refine bodyPost_ret (res7 q.1 _ rfl) rfl ⟨_, rfl, ?_, q.2⟩
                      rw [Q5.out, show exts (bs.drop p) = (false, none) by unfold exts; rw [if_neg (by rw [HLn.out]; omega), if_neg (by rw [HLn.out]; omega), if_pos (by rw [HLn.out, HL.out]; exact hLn)]]
                      exact ⟨_, _, _, rfl, D2.grown q.2, D3.grown q.2, rfl⟩
end Go.Proofs.Ybulkdrkk
