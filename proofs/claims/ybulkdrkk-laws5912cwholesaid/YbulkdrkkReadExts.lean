/-
  readExtensions (function 14).
-/
import Derived.Test.YbulkdrkkExts
namespace Go.Proofs.Ybulkdrkk
open Go.RowKit
set_option linter.unusedVariables false

theorem XOwn.lt {w : World} {base : Nat} {te : TypeId} {v : Value} {es : List Ext} {bad : Nat → Prop} (h : XOwn w base te v es bad) (k : Nat) (hk : v.ownBlock = some k) : base ≤ k ∧ k < w.heap.size := by
  obtain ⟨ds, h1, _⟩ := h
  exact World.ownsRow.lt h1 k hk
theorem w_bit (b : Nat) (hb : b < 64) : IntKind.u64.wrap ((2 : Int) ^ b) = ((2 ^ b : Nat) : Int) := by
  have h : 2 ^ b < 2 ^ 64 := Nat.pow_lt_pow_right (by decide) hb
  have e : ((2 : Int) ^ b) = ((2 ^ b : Nat) : Int) := by simp
  rw [e]
  exact wraps_u64 _ (Int.natCast_nonneg _) (by exact_mod_cast h)
theorem and_bit (x b : Nat) (hx : x < 2 ^ 64) (hb : b < 64) : (bits BinOp.and IntKind.u64 (x : Int) (IntKind.u64.wrap ((2 : Int) ^ b)) != 0) = x.testBit b := by
  have h : 2 ^ b < 2 ^ 64 := Nat.pow_lt_pow_right (by decide) hb
  rw [w_bit b hb, (bits_nat .u64 64 (by decide) wraps_u64 x (2 ^ b) hx h).1]
  cases hb2 : x.testBit b with
  | true =>
    have h1 : (x &&& 2 ^ b).testBit b = true := by rw [Nat.testBit_and, hb2, Nat.testBit_two_pow_self]; rfl
    have h2 : x &&& 2 ^ b ≠ 0 := fun e => by rw [e, Nat.zero_testBit] at h1; cases h1
    have h3 : ¬ ((x &&& 2 ^ b : Nat) : Int) = 0 := by omega
    simpa using h2
  | false =>
    have h1 : x &&& 2 ^ b = 0 := by
      apply Nat.eq_of_testBit_eq
      intro i
      rw [Nat.testBit_and, Nat.zero_testBit, Nat.testBit_two_pow]
      by_cases e : b = i
      · subst e; rw [hb2]; rfl
      · simp [e]
    rw [h1]; rfl
theorem or_bit (x b : Nat) (hx : x < 2 ^ 64) (hb : b < 64) : bits BinOp.or IntKind.u64 (x : Int) (IntKind.u64.wrap ((2 : Int) ^ b)) = ((x ||| 2 ^ b : Nat) : Int) := by
  have h : 2 ^ b < 2 ^ 64 := Nat.pow_lt_pow_right (by decide) hb
  rw [w_bit b hb, (bits_nat .u64 64 (by decide) wraps_u64 x (2 ^ b) hx h).2]
theorem vac2 (zs : List Int) : vac zs 2 = be zs 0 := by simp [vac, be]
theorem ret_two {a b : Value} {p q : Bool} (h : a = b) (k : p = q) : Ending.returned (.tuple #[a, .bool p]) = .returned (.tuple #[b, .bool q]) := by rw [h, k]

set_option maxRecDepth 100000 in
set_option maxHeartbeats 2000000 in
theorem re_any (zs : List Int) (v : Value) (gM hi : Nat) (w : World) (hgM : gM < hi) (hhi : hi ≤ w.heap.size) (hv : Rd w v (some zs) (fun k => k = gM ∨ hi ≤ k)) (hb : Bytes zs) (hlim : zs.length ≤ 1099511627776) :
    Calls Yba.prog 14 #[v] w fun e w' => ∃ x, e = .returned (.tuple #[x, .bool (exts zs).1]) ∧ XRd w' x (exts zs).2 (fun k => k = gM) ∧ Below w.heap.size w w' := by
  by_cases h0 : zs.length = 0
  · obtain ⟨ad, cap, rfl, hc, ha⟩ := hv
    rw [h0]
    go_enter Yba.func14, Yba.ntmps14
    go_wp2
    refine bodyPost_ret (v := .tuple #[.slice none 0 0, .bool true]) (by simp [results, Yba.results14, go_sem]) rfl ⟨_, ret_two rfl ?_, ?_, (Below.refl _ _).alloc (Nat.le_refl _) _⟩
    · simp [exts, h0]
    · simp [exts, h0, XRd]
  · obtain ⟨ad, cap, rfl, hc, ha⟩ := hv
    have hA : Below w.heap.size w ((w.alloc (.cells #[.slice (some ad) zs.length cap] 45)).alloc (.cells #[.slice none 0 0] 45)) := ((Below.refl _ _).alloc (Nat.le_refl _) _).alloc (by simp) _
    have hP : Par ((w.alloc (.cells #[.slice (some ad) zs.length cap] 45)).alloc (.cells #[.slice none 0 0] 45)) w.heap.size zs (fun k => k = gM ∨ hi ≤ k) := ⟨_, (Blk.made w [.slice (some ad) zs.length cap] 45).alloc _, ad, cap, rfl, hc, ha.kept (Kp.ofBelow hA []) (by simp)⟩
    have hT : Blk ((w.alloc (.cells #[.slice (some ad) zs.length cap] 45)).alloc (.cells #[.slice none 0 0] 45)) (w.heap.size + 1) [.slice none 0 0] 45 := heap_alloc2_new w _ _
    have hC := rv_spec w.heap.size (w.heap.size + 1) 0 zs _ _ 45 _ hP hT (by simp) (by omega) (.inr hhi) (.inr (by omega)) hb 2 (by decide) (by decide)
    rw [vac2, show (((2 : Nat) : Int)) = (2 : Int) from rfl] at hC
    have HA : Hid (Below w.heap.size w ((w.alloc (.cells #[.slice (some ad) zs.length cap] 45)).alloc (.cells #[.slice none 0 0] 45))) := hA
    obtain ⟨n, hn⟩ : ∃ n, n = zs.length := ⟨_, rfl⟩
    by_cases hs : zs.length < 2 ∨ zs.length - 2 < (be zs 0).toNat
    · have hC1 := hC.mono (R' := fun e w' => e = .returned (.bool false) ∧ Kp ((w.alloc (.cells #[.slice (some ad) zs.length cap] 45)).alloc (.cells #[.slice none 0 0] 45)) w' []) (by rintro e w' (h | h); exact h.2; exact absurd hs (by omega))
      have E : Hid (exts zs = (false, none)) := by
        show _ = _
        unfold exts
        rw [if_neg h0]
        by_cases h2 : zs.length < 2
        · rw [if_pos h2]
        · rw [if_neg h2, if_pos (by omega)]
      rw [← hn] at hC1 h0 HA ⊢
      clear hC hP hT hA ha hs hc hlim hn
      have h0' : ¬ (n : Int) = 0 := by omega
      go_enter Yba.func14, Yba.ntmps14
      go_wp2_with (go_at_call 12; refine hC1.mono ?_; rintro e w2 ⟨rfl, hk⟩)
      refine bodyPost_ret (v := .tuple #[.slice none 0 0, .bool false]) (by simp [results, Yba.results14, go_sem]) rfl ⟨_, ret_two rfl ?_, ?_, HA.out.trans (hk.below _ (by simp; omega) (by simp))⟩
      · rw [E.out]
      · rw [E.out]; rfl
    · have hC1 := hC.mono (R' := fun e w' => e = .returned (.bool true) ∧ ∃ ad' m cap', Hid (m = zs.length - (2 + (be zs 0).toNat)) ∧ w'.cell? ⟨w.heap.size, 0, none⟩ = some (.slice (some ad') m cap') ∧ Par w' (w.heap.size + 1) ((zs.drop 2).take (be zs 0).toNat) (fun k => k = gM ∨ hi ≤ k) ∧ Below w.heap.size w w') (by
        rintro e w' (h | ⟨h1, h2, h3, ⟨v', h4, ad', cap', rfl, h5, h6⟩, ⟨u, h7, h8⟩, h9⟩)
        · exact absurd h.1 hs
        · exact ⟨h3, ad', _, cap', by show _ = _; exact List.length_drop, by have := h4.cell 0; simpa using this, ⟨u, h7, h8⟩, hA.trans (h9.below _ (by simp; omega) (by simp))⟩)
      obtain ⟨N, hN⟩ : ∃ N, N = (be zs 0).toNat := ⟨_, rfl⟩
      rw [← hN] at hC1
      have h0' : ¬ (n : Int) = 0 := by omega
      by_cases hs2 : zs.length - 2 = N
      · have E : Hid (exts zs = fin (exl (zs.length + 1) (zs.drop 2) [])) := by
          show _ = _
          unfold exts
          rw [if_neg h0, if_neg (by omega), if_neg (by omega)]
        obtain ⟨zc, zc1, zc2, hz56⟩ := zero56
        have ZB : Hid (BitsIs zc []) := BitsIs.start zc1 zc2
        have zne : ¬ zc = [] := by intro e; rw [e] at zc1; simp at zc1
        have HR : Hid ((zs.drop 2).take N = zs.drop 2) := List.take_of_length_le (by simp; omega)
        rw [HR.out] at hC1
        have HL : Hid (n = N + 2) := by show _ = _; omega
        rw [← hn] at hC1 h0 HA ⊢
        clear hC hP hT hA ha hs hc hn zc1 zc2 HR hs2 hN
        go_enter Yba.func14, Yba.ntmps14
        go_wp2_with (go_at_call 12; refine hC1.mono ?_; rintro e w2 ⟨rfl, ad2, m, cap2, hm, hcell, hpar, hbel⟩; obtain rfl : m = 0 := by have := hm.out; have := HL.out; omega)
        clear hC1 hz56 zne hm hcell h0 h0' HA
        obtain ⟨R, hR⟩ : ∃ R, R = exl (zs.length + 1) (zs.drop 2) [] := ⟨_, rfl⟩
        rw [← hR] at E
        have hgS : w.heap.size + 1 < w2.heap.size := hpar.lt
        have I0 : Blk (w2.alloc (.cells zc.toArray 56)) w2.heap.size zc 56 := Blk.made w2 zc 56
        have I1 : Par (w2.alloc (.cells zc.toArray 56)) (w.heap.size + 1) (zs.drop 2) (fun k => k = gM ∨ hi ≤ k) := hpar.kept ((Kp.refl w2 []).alloc _) (by simp) (by simp)
        have I2 : Below w.heap.size w (w2.alloc (.cells zc.toArray 56)) := hbel.alloc (by omega) _
        have I3 : Hid (exl (zs.length + 1) (zs.drop 2) [] = R) := hR.symm
        have I4 : Bytes (zs.drop 2) := fun z hz => hb z (List.mem_of_mem_drop hz)
        have HE : Hid (exts zs = fin R) := E
        clear hpar hbel hR E
        generalize (w2.alloc (.cells zc.toArray 56)) = w3 at *
        go_loopg [5] (zs.drop 2).length (fun gk s wr => ∃ (f : Nat) (rest : List Int) (acc : List Ext) (cs : List Value), Hid (rest.length = gk ∧ gk < f ∧ exl f rest acc = R ∧ Bytes rest ∧ BitsIs cs acc ∧ acc.length + gk ≤ zs.length) ∧ Par wr (w.heap.size + 1) rest (fun k => k = gM ∨ hi ≤ k) ∧ Blk wr w2.heap.size cs 56 ∧ XOwn wr (w2.heap.size + 1) 33 s acc (fun k => k = gM ∨ hi ≤ k) ∧ Below w.heap.size w wr)
        case atStart => exact ⟨_, _, [], zc, ⟨rfl, by simp; omega, I3.out, I4, ZB.out, by simp⟩, I1, I0, XOwn.nil _ _ _ _, I2⟩
        case round =>
          obtain ⟨f, rest, acc, cs, H, hp, hS, hX, hB⟩ := hrel
          clear I0 I1 I2 I3 I4 ZB HL
          by_cases hg0 : gk = 0
          · obtain ⟨vb, hb1, adb, capb, rfl, hb2, hb3⟩ := hp
            have cb := hb1.cell 0
            have hl0 : rest.length = 0 := by rw [H.out.1, hg0]
            simp only [List.getElem?_cons_zero, hl0] at cb
            clear hb1 hb2 hb3
            go_wp2
            have hR : R = some acc := by
              obtain ⟨h1, h2, h3, _⟩ := H.out
              rw [← h3]
              cases f with
              | zero => omega
              | succ f => unfold exl; rw [if_pos hl0]
            refine bodyPost_ret (v := .tuple #[_, .bool true]) (by simp [results, Yba.results14, go_sem]; rfl) rfl ⟨_, ret_two rfl ?_, ?_, hB⟩
            · rw [HE.out, hR]; rfl
            · rw [HE.out, hR]
              exact hX.read (fun k _ e => .inl e) (fun k hk e => by omega)
          · have hAl : Kp wr ((wr.alloc (.cells #[.int .u16 0] 22)).alloc (.cells #[.slice none 0 0] 23)) [] := ((Kp.refl wr []).alloc _).alloc _
            have hp3 := hp.kept hAl (by simp) (by simp)
            have hT3 : Blk ((wr.alloc (.cells #[.int .u16 0] 22)).alloc (.cells #[.slice none 0 0] 23)) wr.heap.size [.int .u16 0] 22 := (Blk.made wr [.int .u16 0] 22).alloc _
            have hD3 : Blk ((wr.alloc (.cells #[.int .u16 0] 22)).alloc (.cells #[.slice none 0 0] 23)) (wr.heap.size + 1) [.slice none 0 0] 23 := heap_alloc2_new wr _ _
            have hS3 := hS.kept hAl (by simp)
            have hX3 := hX.kept hAl (by simp)
            have hB3 : Below w.heap.size w ((wr.alloc (.cells #[.int .u16 0] 22)).alloc (.cells #[.slice none 0 0] 23)) := hB.trans (hAl.below _ hB.size (by simp))
            have hlt := hp.lt
            have hSlt := hS.lt
            have hOw : Hid (∀ k, Value.ownBlock _ = some k → _ ∧ _) := fun k => hX.lt k
            obtain ⟨vb, hb1, adb, capb, rfl, hb2, hb3⟩ := hp
            have cb := hb1.cell 0
            simp only [List.getElem?_cons_zero, H.out.1] at cb
            have hgk : (0 : Int) < (gk : Int) := by omega
            clear hb1 hb2 hb3 hS hX hB hAl
            by_cases h2 : rest.length < 2
            · have hC := r16_no _ rest _ _ hp3 (.pointer (some ⟨wr.heap.size, 0, none⟩)) h2
              have hR : R = none := by
                obtain ⟨h1, h2', h3, _⟩ := H.out
                rw [← h3]
                cases f with
                | zero => rfl
                | succ f => unfold exl; rw [if_neg (by omega), if_pos (by omega)]
              clear hp3 hT3 hD3 hS3 hX3
              go_wp2_with (go_at_call 10; refine hC.mono ?_; rintro e w4 ⟨rfl, rfl⟩)
              refine bodyPost_ret (v := .tuple #[.slice none 0 0, .bool false]) (by simp [results, Yba.results14, go_sem]) rfl ⟨_, ret_two rfl ?_, ?_, hB3⟩
              · rw [HE.out, hR]; rfl
              · rw [HE.out, hR]; rfl
            · have hC := r16_yes (w.heap.size + 1) wr.heap.size 0 rest _ _ 22 _ hp3 hT3 (by simp) (by omega) (.inr (by omega)) (.inr (by omega)) H.out.2.2.2.1 (by omega)
              have hbd : Bytes (rest.drop 2) := fun z hz => H.out.2.2.2.1 z (List.mem_of_mem_drop hz)
              have hV := fun (w4 : World) (h1 : Par w4 (w.heap.size + 1) (rest.drop 2) (fun k => k = gM ∨ hi ≤ k)) (h2 : Blk w4 (wr.heap.size + 1) [.slice none 0 0] 23) =>
                rv_spec (w.heap.size + 1) (wr.heap.size + 1) 0 (rest.drop 2) _ _ 23 w4 h1 h2 (by simp) (by omega) (.inr (by omega)) (.inr (by omega)) hbd 2 (by decide) (by decide)
              have ebe : be (rest.drop 2) 0 = be rest 2 := by simp [be]
              simp only [vac2, ebe, show (((2 : Nat) : Int)) = (2 : Int) from rfl, List.length_drop] at hV
              by_cases h3 : rest.length < 4 ∨ rest.length - 4 < (be rest 2).toNat
              · have hV1 := fun w4 h1 h2 => (hV w4 h1 h2).mono (R' := fun e w' => e = .returned (.bool false) ∧ Kp w4 w' []) (by
                  rintro e w' (h | h)
                  · exact h.2
                  · exact absurd h3 (by omega))
                have hR : R = none := by
                  obtain ⟨h1, h2', h3', _⟩ := H.out
                  rw [← h3']
                  cases f with
                  | zero => rfl
                  | succ f =>
                    unfold exl
                    rw [if_neg (by omega)]
                    by_cases h4 : rest.length < 4
                    · rw [if_pos h4]
                    · rw [if_neg h4, if_pos (by omega)]
                clear hV
                have HD3 : Hid (Blk ((wr.alloc (.cells #[.int .u16 0] 22)).alloc (.cells #[.slice none 0 0] 23)) (wr.heap.size + 1) [.slice none 0 0] 23) := hD3
                clear hp3 hT3 hS3 hX3 hD3
                go_wp2_with (first | (go_at_call 10; refine hC.mono ?_; rintro e w4 ⟨rfl, hp4, hT4, hk4⟩) | (go_at_call 12; refine (hV1 w4 hp4 (HD3.out.kept hk4 (by simp; omega))).mono ?_; rintro e w5 ⟨rfl, hk5⟩))
                refine bodyPost_ret (v := .tuple #[.slice none 0 0, .bool false]) (by simp [results, Yba.results14, go_sem]) rfl ⟨_, ret_two rfl ?_, ?_, (hB3.trans (hk4.below _ (by simp; omega) (by simp; omega))).trans (hk5.below _ (Nat.le_trans (by simp; omega) hk4.size) (by simp))⟩
                · rw [HE.out, hR]; rfl
                · rw [HE.out, hR]; rfl
              · have hV1 := fun w4 h1 h2 => (hV w4 h1 h2).mono (R' := fun e w' => e = .returned (.bool true) ∧ Par w' (w.heap.size + 1) ((rest.drop 2).drop (2 + (be rest 2).toNat)) (fun k => k = gM ∨ hi ≤ k) ∧ (∃ u, Blk w' (wr.heap.size + 1) [u] 23 ∧ Rd w' u (some (((rest.drop 2).drop 2).take (be rest 2).toNat)) (fun k => k = gM ∨ hi ≤ k)) ∧ Kp w4 w' [w.heap.size + 1, wr.heap.size + 1]) (by
                  rintro e w' (h | ⟨_, _, h⟩)
                  · exact absurd h.1 (by omega)
                  · exact h)
                clear hV
                have HD3 : Hid (Blk ((wr.alloc (.cells #[.int .u16 0] 22)).alloc (.cells #[.slice none 0 0] 23)) (wr.heap.size + 1) [.slice none 0 0] 23) := hD3
                have hbt : 0 ≤ be rest 0 ∧ be rest 0 < 65536 := by
                  have h1 := H.out.2.2.2.1.at 0
                  have h2 := H.out.2.2.2.1.at 1
                  unfold be; simp only [Nat.zero_add]; omega
                obtain ⟨t, ht⟩ := Int.eq_ofNat_of_zero_le hbt.1
                have HT : Hid (be rest 0 = (t : Int)) := ht
                have htl : t < 65536 := by omega
                rw [ht] at hC
                obtain ⟨x, hx, hx1, hx2⟩ := H.out.2.2.2.2.1.2 (t / 64) (by omega)
                have HS3 := hS3
                have HX3 := hX3
                have HB3 : Hid (Below w.heap.size w ((wr.alloc (.cells #[.int .u16 0] 22)).alloc (.cells #[.slice none 0 0] 23))) := hB3
                clear hp3 hT3 hS3 hX3 hD3 ht hbt hB3
                go_wp2_with (first | (go_at_call 10; refine hC.mono ?_; rintro e w4 ⟨rfl, hp4, hT4, hk4⟩) | (go_at_call 12; refine (hV1 w4 hp4 (HD3.out.kept hk4 (by simp; omega))).mono ?_; rintro e w5 ⟨rfl, hp5, ⟨u, hD5, hu5⟩, hk5⟩))
                have hk4' := hk4
                have ow : ∀ k, Value.ownBlock _ = some k → w2.heap.size + 1 ≤ k ∧ k < wr.heap.size := hOw.out
                have hT5 : Blk w5 wr.heap.size [.int .u16 (t : Int)] 22 := hT4.kept hk5 (by simp; omega)
                have hS5 := (HS3.kept hk4 (by simp; omega)).kept hk5 (by simp; omega)
                have hX5 := (HX3.kept hk4 (fun k hk _ => ⟨.inr (by simp at hk; omega), fun e => by have := ow k e; simp at hk; omega⟩)).kept hk5 (fun k hk _ => ⟨.inr (by simp at hk; omega), fun e => by have := ow k e; simp at hk; omega⟩)
                have hB5 := (HB3.out.trans (hk4.below _ (by simp; omega) (by simp; omega))).trans (hk5.below _ (Nat.le_trans (by simp; omega) hk4.size) (by simp; omega))
                have hsz : wr.heap.size + 1 < w5.heap.size := hD5.lt
                have c1 := hT5.cell 0
                simp only [List.getElem?_cons_zero] at c1
                have c2 := hS5.cell (t / 64)
                rw [hx] at c2
                have f2 := hS5.free (t / 64)
                have HX : Hid (x < 2 ^ 64 ∧ ∀ (b : Nat), b < 64 → x.testBit b = has acc ↑(64 * (t / 64) + b)) := ⟨hx1, hx2⟩
                have t64 : (t : Int) / 64 < 1024 := by omega
                clear hV1 hC HS3 HX3 HD3 HB3 hp4 hT4 hk4 hk4' hk5 hx1 hx2 hbd ebe cb
                have c3 := hD5.cell 0
                simp only [List.getElem?_cons_zero] at c3
                obtain ⟨ao, nn, cc, rfl, _⟩ := hu5.shape
                have hm : t % 64 < 64 := Nat.mod_lt _ (by decide)
                have EA : (bits BinOp.and IntKind.u64 (x : Int) (IntKind.u64.wrap (2 ^ (t % 64))) != 0) = has acc t := by
                  rw [and_bit x (t % 64) HX.out.1 hm, HX.out.2 _ hm]
                  congr 1
                  omega
                have EO : Hid (bits BinOp.or IntKind.u64 (x : Int) (IntKind.u64.wrap (2 ^ (t % 64))) = ((x ||| 2 ^ (t % 64) : Nat) : Int)) := or_bit x (t % 64) HX.out.1 hm
                cases hh : has acc t with
                | true =>
                  rw [hh] at EA
                  have hR : R = none := by
                    obtain ⟨h1, h2', h3', _⟩ := H.out
                    rw [← h3']
                    cases f with
                    | zero => rfl
                    | succ f =>
                      unfold exl
                      rw [if_neg (by omega), if_neg (by omega), if_neg (by omega), if_pos (by rw [HT.out]; exact hh)]
                  go_quiet (fail)
                  go_wp2
                  refine bodyPost_ret (v := .tuple #[.slice none 0 0, .bool false]) (by simp [results, Yba.results14, go_sem]) rfl ⟨_, ret_two rfl ?_, ?_, below_drewN' hB5 _⟩
                  · rw [HE.out, hR]; rfl
                  · rw [HE.out, hR]; rfl
                | false =>
                  rw [hh] at EA
                  have HH : Hid (has acc t = false) := hh
                  clear hh
                  go_quiet (fail)
                  go_upto_region 17 with fail
                  obtain ⟨Xo, hXo⟩ : ∃ y, y = bits BinOp.or IntKind.u64 (x : Int) (IntKind.u64.wrap (2 ^ (t % 64))) := ⟨_, rfl⟩
                  rw [← hXo] at EO ⊢
                  clear hXo EA
                  have K6 : Kp w5 ((w5.drewN nq).setCell ⟨w2.heap.size, t / 64, none⟩ (.int .u64 Xo)) [w2.heap.size] := ((Kp.refl w5 _).drewN nq).set _ _ _ (by simp)
                  have hs6 : ∀ k ∈ [w2.heap.size], k < w5.heap.size → (fun k => k = gM ∨ hi ≤ k) k := by intro k hk _; simp at hk; exact .inr (by omega)
                  have hS6 : Blk ((w5.drewN nq).setCell ⟨w2.heap.size, t / 64, none⟩ (.int .u64 Xo)) w2.heap.size (cs.set (t / 64) (.int .u64 Xo)) 56 := (hS5.drewN nq).set _ _
                  have hp6 := hp5.kept K6 (by simp; omega) hs6
                  have hX6 := hX5.kept K6 (fun k hk hl => ⟨hs6 k hk hl, fun e => by have := ow k e; simp at hk; omega⟩)
                  have hu6 := hu5.kept K6 hs6
                  have hT6 := hT5.kept K6 (by simp; omega)
                  have hD6 := hD5.kept K6 (by simp; omega)
                  have hB6 := hB5.trans (K6.below w.heap.size (by omega) (by simp; omega))
                  have hsz6 : w5.heap.size ≤ ((w5.drewN nq).setCell ⟨w2.heap.size, t / 64, none⟩ (.int .u64 Xo)).heap.size := K6.size
                  clear hS5 hp5 hX5 hu5 hT5 hD5 hB5 K6 hs6 c1 c2 c3 f2
                  generalize ((w5.drewN nq).setCell ⟨w2.heap.size, t / 64, none⟩ (.int .u64 Xo)) = w6 at *
                  have c1 := hT6.cell 0
                  have c3 := hD6.cell 0
                  simp only [List.getElem?_cons_zero] at c1 c3
                  have hKa := (Kp.refl w6 []).alloc (.cells #[.int .u16 t, .slice ao nn cc] 33)
                  have hX7 := hX6.kept hKa (by simp)
                  have hu7 := hu6.kept hKa (by simp)
                  have ca0 : (w6.alloc (.cells #[.int .u16 t, .slice ao nn cc] 33)).cell? ⟨w6.heap.size, 0, none⟩ = some (.int .u16 t) := by rw [cell_of_row _ _ 0 #[.int .u16 (t : Int), .slice ao nn cc] 33 (0, 0) (heap_alloc_new w6 _)]; rfl
                  have ca1 : (w6.alloc (.cells #[.int .u16 t, .slice ao nn cc] 33)).cell? ⟨w6.heap.size, 1, none⟩ = some (.slice ao nn cc) := by rw [cell_of_row _ _ 1 #[.int .u16 (t : Int), .slice ao nn cc] 33 (0, 0) (heap_alloc_new w6 _)]; rfl
                  have hlen : acc.length < 1099511627776 := by have := H.out; omega
                  clear hX6 hu6 hT6 hD6
                  go_wp2_with (at_builtin; refine wpList_append_pair rfl (.tmp 47) (.tmp 51) 31 33 Yba.underlying31 Yba.info33 rfl (w2.heap.size + 1) _ acc _ rfl hX7 w6.heap.size 1 t (.slice ao nn cc) _ rfl ca0 ca1 hu7 hlen (by simp; omega) (fun k hk => .inr (by omega)) ?_; intro v8 w8 hX8 hk8 hb8)
                  have ed : (rest.drop 2).drop (2 + (be rest 2).toNat) = rest.drop (4 + (be rest 2).toNat) := by rw [List.drop_drop]; congr 1; omega
                  have ed2 : (rest.drop 2).drop 2 = rest.drop 4 := by rw [List.drop_drop]
                  rw [ed] at hp6
                  rw [ed2] at hX8
                  have hb8' : ∀ k ∈ (Value.ownBlock _).toList, w2.heap.size + 1 ≤ k := hb8
                  have hk8' : Kp (w6.alloc (.cells #[.int .u16 t, .slice ao nn cc] 33)) w8 (Value.ownBlock _).toList := hk8
                  obtain ⟨h1, h2', h3', h4, h5, h6⟩ := H.out
                  go_roundg (gk - (4 + (be rest 2).toNat))
                  case measure => omega
                  case rel =>
                    obtain ⟨f', rfl⟩ : ∃ f', f = f' + 1 := ⟨f - 1, by omega⟩
                    refine ⟨f', rest.drop (4 + (be rest 2).toNat), acc ++ [((t : Int), some ((rest.drop 4).take (be rest 2).toNat))], cs.set (t / 64) (.int .u64 Xo), ⟨by simp; omega, by omega, ?_, fun z hz => h4 z (List.mem_of_mem_drop hz), ?_, by simp; omega⟩, ?_, ?_, hX8, ?_⟩
                    · rw [← h3', ← HT.out]
                      conv => rhs; unfold exl
                      rw [if_neg (by omega), if_neg (by omega), if_neg (by omega), if_neg (by rw [HT.out]; have := HH.out; unfold has at this; rw [this]; simp)]
                    · rw [EO.out]; exact h5.add t x htl hx _
                    · exact (hp6.kept ((Kp.refl w6 []).alloc _) (by simp) (by simp)).kept hk8' (fun e => by have := hb8' _ e; omega) (fun k hk _ => .inr (by have := hb8' k hk; omega))
                    · exact (hS6.alloc _).kept hk8' (fun e => by have := hb8' _ e; omega)
                    · exact (hB6.alloc (by omega) _).trans (hk8'.below _ (by simp; omega) (fun k hk => by have := hb8' k hk; omega))
      · have E : Hid (exts zs = (false, none)) := by
          show _ = _
          unfold exts
          rw [if_neg h0, if_neg (by omega), if_pos (by omega)]
        have HM : Hid (n - (2 + N) ≠ 0) := by show _ ≠ _; omega
        rw [← hn] at hC1 h0 HA ⊢
        clear hC hP hT hA ha hs hc hn
        go_enter Yba.func14, Yba.ntmps14
        go_wp2_with (go_at_call 12; refine hC1.mono ?_; rintro e w2 ⟨rfl, ad2, m, cap2, hm, hcell, hpar, hbel⟩; have hm0 : ¬ (m : Int) = 0 := by have := hm.out; have := HM.out; omega)
        refine bodyPost_ret (v := .tuple #[.slice none 0 0, .bool false]) (by simp [results, Yba.results14, go_sem]) rfl ⟨_, ret_two rfl ?_, ?_, hbel⟩
        · rw [E.out]
        · rw [E.out]; rfl
end Go.Proofs.Ybulkdrkk
