/-
  readVector (function 12), and the readers as they are called.
-/
import Derived.Test.YbulkdrkkPart
namespace Go.Proofs.Ybulkdrkk
open Go.RowKit
set_option linter.unusedVariables false
set_option linter.unusedSectionVars false

/-- The number that the first k bytes write. -/
def vac (zs : List Int) : Nat → Int
  | 0 => 0
  | k + 1 => vac zs k * 256 + zs.getD k 0
theorem vac_le (zs : List Int) (hb : Bytes zs) : ∀ k, 0 ≤ vac zs k ∧ vac zs k < 256 ^ k
  | 0 => by simp [vac]
  | k + 1 => by
    have h := vac_le zs hb k
    have b := hb.at k
    simp only [vac, Int.pow_succ]
    omega
theorem vac_small (zs : List Int) (hb : Bytes zs) (k : Nat) (hk : k ≤ 2) : 0 ≤ vac zs k ∧ vac zs k < 65536 := by
  have h := vac_le zs hb k
  rcases (show k = 0 ∨ k = 1 ∨ k = 2 by omega) with rfl | rfl | rfl <;> simp at h ⊢ <;> omega

theorem w64 (n : Int) (h : -9223372036854775808 ≤ n ∧ n ≤ 9223372036854775807) : wrap64 n = n := by unfold wrap64; omega
theorem or64 (s z : Int) (h0 : 0 ≤ s) (h1 : s < 65536) (h2 : 0 ≤ z) (h3 : z ≤ 255) : bits BinOp.or IntKind.i64 (wrap64 (s * 256)) (wrap64 z) = s * 256 + z := by
  rw [w64 _ (by omega), w64 _ (by omega)]
  exact bits_join .i64 62 (by decide) (fun n h0 h1 => by rw [IntKind.wrap_i64]; omega) 8 (s * 256) z (by omega) (by omega) (by omega) h2 (by omega) (by omega)
theorem rv_none (gP n cap lb : Nat) (ad : Addr) (tg : Value) (w : World) (hP : Blk w gP [.slice (some ad) n cap] 45) (hk : n < lb) :
    Calls Yba.prog 12 #[.pointer (some ⟨gP, 0, none⟩), .int .i64 lb, tg] w fun e w' => e = .returned (.bool false) ∧ w' = w := by
  have c0 := hP.cell 0
  simp only [List.getElem?_cons_zero] at c0
  have hk' : (n : Int) < (lb : Int) := by omega
  clear hP
  go_enter Yba.func12, Yba.ntmps12
  go_wp2
  go_ret
  exact ⟨rfl, rfl⟩

set_option maxRecDepth 100000 in
theorem rv_main (gP cap lb gT oT b o : Nat) (zs : List Int) (cs : List Value) (tT : TypeId) (w : World) (hP : Blk w gP [.slice (some ⟨b, o, none⟩) zs.length cap] 45) (hT : Blk w gT cs tT) (ho : oT < cs.length) (hne : gT ≠ gP)
    (hc : zs.length ≤ cap) (hl : 1 ≤ lb) (hl2 : lb ≤ 2) (hk : lb ≤ zs.length) (hb : Bytes zs) (hz : ∀ j, j < zs.length → w.cell? ⟨b, o + j, none⟩ = some (.int .u8 (zs.getD j 0))) :
    Calls Yba.prog 12 #[.pointer (some ⟨gP, 0, none⟩), .int .i64 lb, .pointer (some ⟨gT, oT, none⟩)] w fun e w' => 
      (zs.length - lb < (vac zs lb).toNat ∧ e = .returned (.bool false) ∧ Kp w w' []) ∨
      ((vac zs lb).toNat ≤ zs.length - lb ∧ e = .returned (.bool true) ∧ Blk w' gP [.slice (some (cutAd (cutAd ⟨b, o, none⟩ lb cap) (vac zs lb).toNat (cap - lb))) (zs.length - lb - (vac zs lb).toNat) (cap - lb - (vac zs lb).toNat)] 45 ∧
        Blk w' gT (cs.set oT (.slice (some (cutAd ⟨b, o, none⟩ lb cap)) (vac zs lb).toNat (vac zs lb).toNat)) tT ∧ Kp w w' [gP, gT]) := by
  have c0 := hP.cell 0
  simp only [List.getElem?_cons_zero] at c0
  obtain ⟨n, hn⟩ : ∃ n, n = zs.length := ⟨_, rfl⟩
  rw [← hn] at hk hz c0 hP hc ⊢
  have hk' : ¬ (n : Int) < (lb : Int) := by omega
  have hk2 : (lb : Int) ≤ (cap : Int) := by omega
  have HN : Hid (n = zs.length) := hn
  have HZ : Hid (∀ j, j < n → w.cell? ⟨b, o + j, none⟩ = some (.int .u8 (zs.getD j 0))) := hz
  clear hn hz
  go_enter Yba.func12, Yba.ntmps12
  go_wp2
  go_loop [7, 9, 23] (fun s c i => ∃ k : Nat, i = .int .i64 k ∧ k ≤ lb ∧ s = .int .i64 (vac zs k)) (fun s c i => lb - (intOf i).toNat)
  case atStart => exact ⟨0, rfl, Nat.zero_le _, rfl⟩
  case round =>
    obtain ⟨k, rfl, hkl, rfl⟩ := hrel
    by_cases hlt : k < lb
    · have i0 : (k : Int) < (lb : Int) := by omega
      obtain ⟨z, cz, hz⟩ : ∃ z, w.cell? ⟨b, o + k, none⟩ = some (.int .u8 z) ∧ z = zs.getD k 0 := ⟨_, HZ.out k (by omega), rfl⟩
      have HZ2 : Hid (z = zs.getD k 0) := hz
      clear hz
      obtain ⟨s, hs⟩ : ∃ s, s = vac zs k := ⟨_, rfl⟩
      have HS : Hid (s = vac zs k) := hs
      rw [← hs]
      clear hs
      go_wp2
      go_round
      case rel =>
        refine ⟨k + 1, by go_num, by omega, ?_⟩
        have hv := vac_small zs hb k (by omega)
        have hz2 := hb.at k
        rw [← HS.out] at hv
        rw [← HZ2.out] at hz2
        rw [or64 s z hv.1 hv.2 hz2.1 hz2.2, HS.out, HZ2.out]
        rfl
      case measure => simp [intOf]; omega
    · obtain rfl : k = lb := by omega
      have hv := vac_small zs hb k hl2
      obtain ⟨N, hN⟩ := Int.eq_ofNat_of_zero_le hv.1
      rw [hN] at hv ⊢
      have E3 : Hid ((vac zs k).toNat = N) := by show _ = _; rw [hN]; simp
      clear hN HZ hkl hlt hb
      have hgP := hP.lt
      have hgT := hT.lt
      have n1 : gT ≠ w.heap.size := by omega
      have n2 : gP ≠ w.heap.size := by omega
      by_cases hcap : cap = k
      · obtain rfl : n = cap := by omega
        subst hcap
        by_cases hNn : 0 < N
        · clear hl hl2 hk hk2 hk' hc
          go_wp2_with (go_at_call 11; refine (rb_short _ 0 0 N ⟨b, o, none⟩ _ _ (Blk.made _ _ _) hNn).mono ?_; rintro e w2 ⟨rfl, rfl⟩)
          go_ret
          rw [E3.out]
          exact .inl ⟨by omega, rfl, (Kp.refl w []).alloc _⟩
        · obtain rfl : N = 0 := by omega
          go_wp2_with (go_at_call 11; refine (rb_long _ 0 0 0 gT oT ⟨b, o, none⟩ cs tT _ (Blk.made _ _ _) (hT.alloc _) ho n1 (Nat.le_refl _) (Nat.le_refl _)).mono ?_; rintro e w2 ⟨rfl, h1, h2, h3⟩; have c2 := h1.cell 0; simp only [List.getElem?_cons_zero] at c2; have c3 := ((hP.alloc _).kept h3 (by simp; omega)).cell 0; simp only [List.getElem?_cons_zero] at c3; have f3 := ((hP.alloc _).kept h3 (by simp; omega)).free 0)
          go_ret
          rw [E3.out]
          refine .inr ⟨Nat.zero_le _, rfl, ?_, ?_, ?_⟩
          · simpa [cutAd] using ((hP.alloc _).kept h3 (by simp; omega)).set 0 _
          · simpa [cutAd] using h2.other (a := ⟨gP, 0, none⟩) hne _
          · exact (((Kp.refl w [w.heap.size, gT, gP]).alloc _).trans (h3.mono (by intro k hk _; simp at hk ⊢; omega))).set gP 0 _ (by simp) |>.mono (by intro k hk _; simp at hk ⊢; omega)
      · have hcap' : ¬ (k : Int) = (cap : Int) := by omega
        have hcl : (k : Int) ≤ (n : Int) := by omega
        by_cases hNn : n - k < N
        · clear hl hl2 hk2 hk'
          go_wp2_with (go_at_call 11; refine (rb_short _ (n - k) (cap - k) N ⟨b, o + k, none⟩ _ _ (Blk.made _ _ _) hNn).mono ?_; rintro e w2 ⟨rfl, rfl⟩)
          go_ret
          rw [E3.out]
          exact .inl ⟨by omega, rfl, (Kp.refl w []).alloc _⟩
        · go_wp2_with (go_at_call 11; refine (rb_long _ (n - k) (cap - k) N gT oT ⟨b, o + k, none⟩ cs tT _ (Blk.made _ _ _) (hT.alloc _) ho n1 (by omega) (by omega)).mono ?_; rintro e w2 ⟨rfl, h1, h2, h3⟩; have c2 := h1.cell 0; simp only [List.getElem?_cons_zero] at c2; have c3 := ((hP.alloc _).kept h3 (by simp; omega)).cell 0; simp only [List.getElem?_cons_zero] at c3; have f3 := ((hP.alloc _).kept h3 (by simp; omega)).free 0)
          go_ret
          rw [E3.out]
          refine .inr ⟨by omega, rfl, ?_, ?_, ?_⟩
          · have e1 : cutAd ⟨b, o, none⟩ k cap = ⟨b, o + k, none⟩ := by simp [cutAd, Addr.add, hcap]; omega
            rw [e1]
            exact ((hP.alloc _).kept h3 (by simp; omega)).set 0 _
          · have e1 : cutAd ⟨b, o, none⟩ k cap = ⟨b, o + k, none⟩ := by simp [cutAd, Addr.add, hcap]; omega
            rw [e1]
            exact h2.other (a := ⟨gP, 0, none⟩) hne _
          · exact (((Kp.refl w [w.heap.size, gT, gP]).alloc _).trans (h3.mono (by intro k hk _; simp at hk ⊢; omega))).set gP 0 _ (by simp) |>.mono (by intro k hk _; simp at hk ⊢; omega)

theorem At.spot {w : World} {ad : Addr} {xs : List Int} {bad : Nat → Prop} (h : At w ad xs bad) (h0 : 0 < xs.length) : ∃ b o, ad = ⟨b, o, none⟩ ∧ ∀ j, j < xs.length → w.cell? ⟨b, o + j, none⟩ = some (.int .u8 (xs.getD j 0)) := by
  obtain ⟨b, o, e, _, h⟩ := h.bytesAt.spot h0
  simp only [Option.some.injEq] at e
  exact ⟨b, o, e, h⟩
/-- The parser at block gP has zs left. -/
def Par (w : World) (gP : Nat) (zs : List Int) (bad : Nat → Prop) : Prop := ∃ v, Blk w gP [v] 45 ∧ Rd w v (some zs) bad
theorem Par.kept {w w' : World} {gP : Nat} {zs : List Int} {bad : Nat → Prop} {S : List Nat} (h : Par w gP zs bad) (hk : Kp w w' S) (hn : gP ∉ S) (hs : ∀ k ∈ S, k < w.heap.size → bad k) : Par w' gP zs bad := by
  obtain ⟨v, h1, h2⟩ := h
  exact ⟨v, h1.kept hk hn, h2.kept hk hs⟩
theorem Par.lt {w : World} {gP : Nat} {zs : List Int} {bad : Nat → Prop} (h : Par w gP zs bad) : gP < w.heap.size := by obtain ⟨v, h1, _⟩ := h; exact h1.lt

section
variable (gP gT oT : Nat) (zs : List Int) (bad : Nat → Prop) (cs : List Value) (tT : TypeId) (w : World) (hP : Par w gP zs bad) (hT : Blk w gT cs tT) (ho : oT < cs.length) (hne : gT ≠ gP) (b1 : bad gP) (b2 : bad gT) (hb : Bytes zs)
include hP

theorem r16_no (tg : Value) (h : zs.length < 2) : Calls Yba.prog 10 #[.pointer (some ⟨gP, 0, none⟩), tg] w fun e w' => e = .returned (.bool false) ∧ w' = w := by
  obtain ⟨v, h1, ad, cap, rfl, hc, ha⟩ := hP
  exact r16_short gP zs.length cap ad tg w h1 h
theorem r8_no (tg : Value) (h : zs.length < 1) : Calls Yba.prog 13 #[.pointer (some ⟨gP, 0, none⟩), tg] w fun e w' => e = .returned (.bool false) ∧ w' = w := by
  obtain ⟨v, h1, ad, cap, rfl, hc, ha⟩ := hP
  rw [show zs.length = 0 by omega] at h1
  exact r8_short gP cap ad tg w h1
theorem rb_no (tg : Value) (k : Nat) (h : zs.length < k) : Calls Yba.prog 11 #[.pointer (some ⟨gP, 0, none⟩), .int .i64 k, tg] w fun e w' => e = .returned (.bool false) ∧ w' = w := by
  obtain ⟨v, h1, ad, cap, rfl, hc, ha⟩ := hP
  exact rb_short gP zs.length cap k ad tg w h1 h

include hT ho hne b1 b2
theorem rest_spec {w' : World} (ad : Addr) (cap k : Nat) (hc : zs.length ≤ cap) (hk : k ≤ zs.length) (ha : At w ad zs bad) (h1 : Blk w' gP [.slice (some (cutAd ad k cap)) (zs.length - k) (cap - k)] 45) (h3 : Kp w w' [gP, gT]) : Par w' gP (zs.drop k) bad := by
  have hs : ∀ j ∈ [gP, gT], j < w.heap.size → bad j := by intro j hj _; simp at hj; rcases hj with rfl | rfl <;> assumption
  refine ⟨_, h1, cutAd ad k cap, cap - k, by simp, by simp; omega, ?_⟩
  have := (ha.kept h3 hs).part k (zs.length - k) cap (by omega) (by omega)
  rwa [List.take_of_length_le (by simp)] at this
theorem rb_yes (k : Nat) (h : k ≤ zs.length) : Calls Yba.prog 11 #[.pointer (some ⟨gP, 0, none⟩), .int .i64 k, .pointer (some ⟨gT, oT, none⟩)] w fun e w' => e = .returned (.bool true) ∧ Par w' gP (zs.drop k) bad ∧ (∃ u, Blk w' gT (cs.set oT u) tT ∧ Rd w' u (some (zs.take k)) bad) ∧ Kp w w' [gP, gT] := by
  obtain ⟨v, h1, ad, cap, rfl, hc, ha⟩ := hP
  refine (rb_long gP zs.length cap k gT oT ad cs tT w h1 hT ho hne h hc).mono ?_
  rintro e w' ⟨rfl, h1', h2', h3⟩
  have hs : ∀ j ∈ [gP, gT], j < w.heap.size → bad j := by intro j hj _; simp at hj; rcases hj with rfl | rfl <;> assumption
  refine ⟨rfl, rest_spec gP gT oT zs bad cs tT w ⟨_, h1, ad, cap, rfl, hc, ha⟩ hT ho hne b1 b2 ad cap k hc h ha h1' h3, ⟨_, h2', ad, k, by simp [Nat.min_eq_left h], by simp; omega, ?_⟩, h3⟩
  have := (ha.kept h3 hs).part 0 k (k + 1) (by omega) (by omega)
  rw [show cutAd ad 0 (k + 1) = ad by unfold cutAd; rw [if_neg (by omega)]; unfold Addr.add; split <;> simp_all] at this
  simpa using this
include hb
theorem r8_yes (h : 1 ≤ zs.length) : Calls Yba.prog 13 #[.pointer (some ⟨gP, 0, none⟩), .pointer (some ⟨gT, oT, none⟩)] w fun e w' => e = .returned (.bool true) ∧ Par w' gP (zs.drop 1) bad ∧ Blk w' gT (cs.set oT (.int .u8 (zs.getD 0 0))) tT ∧ Kp w w' [gP, gT] := by
  obtain ⟨v, h1, ad, cap, rfl, hc, ha⟩ := hP
  obtain ⟨b, o, rfl, hcell⟩ := ha.spot (by omega)
  refine (r8_long gP zs.length cap gT oT b o _ cs tT w h1 hT ho hne h hc (hcell 0 (by omega))).mono ?_
  rintro e w' ⟨rfl, h1', h2', h3⟩
  exact ⟨rfl, rest_spec gP gT oT zs bad cs tT w ⟨_, h1, _, cap, rfl, hc, ha⟩ hT ho hne b1 b2 _ cap 1 hc h ha h1' h3, h2', h3⟩
theorem r16_yes (h : 2 ≤ zs.length) : Calls Yba.prog 10 #[.pointer (some ⟨gP, 0, none⟩), .pointer (some ⟨gT, oT, none⟩)] w fun e w' => e = .returned (.bool true) ∧ Par w' gP (zs.drop 2) bad ∧ Blk w' gT (cs.set oT (.int .u16 (be zs 0))) tT ∧ Kp w w' [gP, gT] := by
  obtain ⟨v, h1, ad, cap, rfl, hc, ha⟩ := hP
  obtain ⟨b, o, rfl, hcell⟩ := ha.spot (by omega)
  refine (r16_long gP zs.length cap gT oT b o _ _ cs tT w h1 hT ho hne h hc (hb.at 0).1 (hb.at 0).2 (hb.at 1).1 (hb.at 1).2 (hcell 0 (by omega)) (hcell 1 (by omega))).mono ?_
  rintro e w' ⟨rfl, h1', h2', h3⟩
  exact ⟨rfl, rest_spec gP gT oT zs bad cs tT w ⟨_, h1, _, cap, rfl, hc, ha⟩ hT ho hne b1 b2 _ cap 2 hc h ha h1' h3, h2', h3⟩
/-- readVector whose length takes lb bytes, one or two. -/
theorem rv_spec (lb : Nat) (hl : 1 ≤ lb) (hl2 : lb ≤ 2) : Calls Yba.prog 12 #[.pointer (some ⟨gP, 0, none⟩), .int .i64 lb, .pointer (some ⟨gT, oT, none⟩)] w fun e w' =>
    ((zs.length < lb ∨ zs.length - lb < (vac zs lb).toNat) ∧ e = .returned (.bool false) ∧ Kp w w' []) ∨
    (lb ≤ zs.length ∧ (vac zs lb).toNat ≤ zs.length - lb ∧ e = .returned (.bool true) ∧ Par w' gP (zs.drop (lb + (vac zs lb).toNat)) bad ∧ (∃ u, Blk w' gT (cs.set oT u) tT ∧ Rd w' u (some ((zs.drop lb).take (vac zs lb).toNat)) bad) ∧ Kp w w' [gP, gT]) := by
  obtain ⟨v, h1, ad, cap, rfl, hc, ha⟩ := hP
  by_cases hk : zs.length < lb
  · refine (rv_none gP zs.length cap lb ad _ w h1 hk).mono ?_
    rintro e w' ⟨rfl, rfl⟩
    exact .inl ⟨.inl hk, rfl, Kp.refl _ _⟩
  · obtain ⟨b, o, rfl, hcell⟩ := ha.spot (by omega)
    refine (rv_main gP cap lb gT oT b o zs cs tT w h1 hT ho hne hc hl hl2 (by omega) hb hcell).mono ?_
    have hs : ∀ j ∈ [gP, gT], j < w.heap.size → bad j := by intro j hj _; simp at hj; rcases hj with rfl | rfl <;> assumption
    rintro e w' (⟨h4, rfl, h5⟩ | ⟨h4, rfl, h1', h2', h3⟩)
    · exact .inl ⟨.inr h4, rfl, h5⟩
    · have ha2 := (ha.kept h3 hs).part lb (zs.length - lb) cap (by omega) (by omega)
      rw [List.take_of_length_le (by simp)] at ha2
      refine .inr ⟨by omega, h4, rfl, ⟨_, h1', _, _, rfl.trans (by simp only [List.length_drop]; rw [Nat.sub_sub]), by simp; omega, ?_⟩, ⟨_, h2', _, _, by rw [List.length_take, List.length_drop, Nat.min_eq_left h4], by rw [List.length_take]; exact Nat.min_le_left _ _, ?_⟩, h3⟩
      · have := ha2.part (vac zs lb).toNat (zs.length - lb - (vac zs lb).toNat) (cap - lb) (by omega) (by simp; omega)
        rw [List.take_of_length_le (by simp; omega), List.drop_drop] at this
        exact this
      · have := ha2.part 0 (vac zs lb).toNat ((vac zs lb).toNat + 1) (by omega) (by simp; omega)
        rw [show ∀ A : Addr, cutAd A 0 ((vac zs lb).toNat + 1) = A from fun A => by unfold cutAd; rw [if_neg (by omega)]; unfold Addr.add; split <;> simp_all] at this
        simpa using this
end
end Go.Proofs.Ybulkdrkk
