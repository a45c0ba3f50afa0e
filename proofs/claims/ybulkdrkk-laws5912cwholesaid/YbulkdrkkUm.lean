/-
  unmarshal (function 6).
-/
import Derived.Test.YbulkdrkkReadExts
namespace Go.Proofs.Ybulkdrkk
open Go.RowKit
set_option linter.unusedVariables false

theorem XRd.shape {w : World} {v : Value} {X : Option (List Ext)} {bad : Nat → Prop} (h : XRd w v X bad) : ∃ ao n cap, v = .slice ao n cap ∧ n ≤ cap := by
  cases X with
  | none => exact ⟨none, 0, 0, h, Nat.le_refl _⟩
  | some xs => obtain ⟨ad, cap, e, hc, h⟩ := h; exact ⟨_, _, _, e, hc⟩
theorem vac1 (zs : List Int) : vac zs 1 = zs.getD 0 0 := by simp [vac]
theorem parse1 (bs : List Int) (i : Out) (h : bs.length < 2) : parse bs i = i := by unfold parse; rw [if_pos h]
theorem parse2 (bs : List Int) (i : Out) (h : ¬ bs.length < 2) (h2 : bs.length < 34) : parse bs i = { i with v := be bs 0 } := by unfold parse; rw [if_neg h, if_pos h2]
theorem parse3 (bs : List Int) (i : Out) (h2 : ¬ bs.length < 34) (h3 : bs.length < 35 ∨ bs.length - 35 < (bs.getD 34 0).toNat) : parse bs i = { i with v := be bs 0, r := some ((bs.drop 2).take 32) } := by
  unfold parse; rw [if_neg (by omega), if_neg h2, if_pos h3]
theorem parse4 (bs : List Int) (i : Out) (h3 : ¬ (bs.length < 35 ∨ bs.length - 35 < (bs.getD 34 0).toNat)) (h4 : 32 < (bs.getD 34 0).toNat ∨ bs.length - (35 + (bs.getD 34 0).toNat) < 2) :
    parse bs i = { i with v := be bs 0, r := some ((bs.drop 2).take 32), s := some ((bs.drop 35).take (bs.getD 34 0).toNat) } := by
  unfold parse; rw [if_neg (by omega), if_neg (by omega), if_neg h3, if_pos h4]
theorem parse5 (bs : List Int) (i : Out) (h3 : ¬ (bs.length < 35 ∨ bs.length - 35 < (bs.getD 34 0).toNat)) (h4 : ¬ (32 < (bs.getD 34 0).toNat ∨ bs.length - (35 + (bs.getD 34 0).toNat) < 2)) (h5 : bs.length - (35 + (bs.getD 34 0).toNat) < 3) :
    parse bs i = { i with v := be bs 0, r := some ((bs.drop 2).take 32), s := some ((bs.drop 35).take (bs.getD 34 0).toNat), c := be bs (35 + (bs.getD 34 0).toNat) } := by
  unfold parse; rw [if_neg (by omega), if_neg (by omega), if_neg h3, if_neg h4, if_pos h5]
theorem parse6 (bs : List Int) (i : Out) (h3 : ¬ (bs.length < 35 ∨ bs.length - 35 < (bs.getD 34 0).toNat)) (h4 : ¬ (32 < (bs.getD 34 0).toNat ∨ bs.length - (35 + (bs.getD 34 0).toNat) < 2)) (h5 : ¬ bs.length - (35 + (bs.getD 34 0).toNat) < 3) :
    parse bs i = { ok := (exts (bs.drop (38 + (bs.getD 34 0).toNat))).1, v := be bs 0, r := some ((bs.drop 2).take 32), s := some ((bs.drop 35).take (bs.getD 34 0).toNat), c := be bs (35 + (bs.getD 34 0).toNat), cm := bs.getD (37 + (bs.getD 34 0).toNat) 0, x := (exts (bs.drop (38 + (bs.getD 34 0).toNat))).2 } := by
  unfold parse; rw [if_neg (by omega), if_neg (by omega), if_neg h3, if_neg h4, if_neg h5]

/-- What a receiver's block reads as. -/
def MIs (w : World) (gM : Nat) (o : Out) : Prop := ∃ r s x, Blk w gM [.int .u16 o.v, r, s, .int .u16 o.c, .int .u8 o.cm, x] 36 ∧ Rd w r o.r (fun k => k = gM) ∧ Rd w s o.s (fun k => k = gM) ∧ XRd w x o.x (fun k => k = gM)

set_option maxRecDepth 100000 in
set_option maxHeartbeats 2000000 in
theorem um_any (bs : List Int) (vb : Value) (gM : Nat) (i : Out) (w : World) (hi : i.ok = false) (hM : MIs w gM i) (hv : Rd w vb (some bs) (fun k => k = gM)) (hb : Bytes bs) (hlim : bs.length ≤ 1099511627776) :
    Calls Yba.prog 6 #[.pointer (some ⟨gM, 0, none⟩), vb] w fun e w' => e = .returned (.bool (parse bs i).ok) ∧ MIs w' gM (parse bs i) ∧ Kp w w' [gM] := by
  obtain ⟨ok, v0, R0, S0, c0, cm0, X0⟩ := i
  simp only at hi
  subst hi
  obtain ⟨r, s, x, hB, hr, hs, hx⟩ := hM
  simp only at hB hr hs hx
  obtain ⟨ad, cap, rfl, hc, ha⟩ := hv
  have hgM := hB.lt
  obtain ⟨bad, hbad⟩ : ∃ bad : Nat → Prop, bad = fun k => k = gM ∨ w.heap.size ≤ k := ⟨_, rfl⟩
  have bP : bad w.heap.size := by rw [hbad]; exact .inr (Nat.le_refl _)
  have bM : bad gM := by rw [hbad]; exact .inl rfl
  have ha' : At w ad bs bad := fun h0 => ⟨(ha h0).1, by rw [hbad]; intro e; have := (ha h0).1; rcases e with e | e; exact (ha h0).2.1 e; omega, (ha h0).2.2⟩
  have hb0 : ∀ k, k = gM → bad k := fun k e => by rw [hbad]; exact .inl e
  have hne : gM ≠ w.heap.size := by omega
  have K1 : Kp w (w.alloc (.cells #[.slice (some ad) bs.length cap] 45)) [] := (Kp.refl w []).alloc _
  have P1 : Par (w.alloc (.cells #[.slice (some ad) bs.length cap] 45)) w.heap.size bs bad := ⟨_, Blk.made w [.slice (some ad) bs.length cap] 45, ad, cap, rfl, hc, ha'.kept K1 (by simp)⟩
  have M1 := hB.kept K1 (by simp)
  have hfin : ∀ w', Kp w w' [w.heap.size, gM] → Kp w w' [gM] := fun w' h => h.mono (by intro k hk hl; simp at hk ⊢; omega)
  by_cases h2 : bs.length < 2
  · have C1 := r16_no _ bs _ _ P1 (.pointer (some ⟨gM, 0, none⟩)) h2
    rw [parse1 _ _ h2]
    have F : Hid (MIs (w.alloc (.cells #[.slice (some ad) bs.length cap] 45)) gM ⟨false, v0, R0, S0, c0, cm0, X0⟩ ∧ Kp w (w.alloc (.cells #[.slice (some ad) bs.length cap] 45)) [gM]) := ⟨⟨r, s, x, M1, hr.kept K1 (by simp), hs.kept K1 (by simp), hx.kept K1 (by simp)⟩, K1.mono (by simp)⟩
    clear P1 M1 K1 hB hr hs hx ha ha' hfin
    go_enter Yba.func6, Yba.ntmps6
    go_wp2_with (go_at_call 10; refine C1.mono ?_; rintro e w2 ⟨rfl, rfl⟩)
    go_ret
    exact ⟨rfl, F.out⟩
  · have C1 := r16_yes w.heap.size gM 0 bs bad _ 36 _ P1 M1 (by simp) hne bP bM hb (by omega)
    have hK1 : Hid (Kp w (w.alloc (.cells #[.slice (some ad) bs.length cap] 45)) [w.heap.size, gM]) := K1.mono (by simp)
    clear P1 M1 K1 ha ha' hc
    have C1' := C1.mono (R' := fun e w' => e = .returned (.bool true) ∧ Par w' w.heap.size (bs.drop 2) bad ∧ Blk w' gM [.int .u16 (be bs 0), r, s, .int .u16 c0, .int .u8 cm0, x] 36 ∧ Kp w w' [w.heap.size, gM]) (by
      rintro e w' ⟨h1, h2, h3, h4⟩
      exact ⟨h1, h2, h3, hK1.out.trans h4⟩)
    clear C1 hK1
    have hbad' : ∀ w' : World, ∀ k ∈ [w.heap.size, gM], k < w'.heap.size → bad k := fun w' k hk _ => by simp at hk; rcases hk with rfl | rfl; exact bP; exact bM
    by_cases h34 : bs.length < 34
    · have C2 := fun (w2 : World) (h : Par w2 w.heap.size (bs.drop 2) bad) => rb_no w.heap.size (bs.drop 2) bad w2 h (.pointer (some ⟨gM, 1, none⟩)) 32 (by simp; omega)
      simp only [show (((32 : Nat) : Int)) = (32 : Int) from rfl] at C2
      rw [parse2 _ _ h2 h34]
      have HR : Hid (Rd w r R0 (fun k => k = gM) ∧ Rd w s S0 (fun k => k = gM) ∧ XRd w x X0 (fun k => k = gM)) := ⟨hr, hs, hx⟩
      clear hB hr hs hx
      go_enter Yba.func6, Yba.ntmps6
      go_wp2_with (first | (go_at_call_of 10 (Value.pointer (some (⟨gM, 0, none⟩ : Addr))); refine C1'.mono ?_; rintro e w2 ⟨rfl, P2, M2, K2⟩) | (go_at_call 11; refine (C2 w2 P2).mono ?_; rintro e w3 ⟨rfl, rfl⟩))
      go_ret
      have K := hfin _ K2
      obtain ⟨hr, hs, hx⟩ := HR.out
      exact ⟨rfl, ⟨r, s, x, M2, hr.kept K (by simp), hs.kept K (by simp), hx.kept K (by simp)⟩, K⟩
    · have hbd : ∀ k, Bytes (bs.drop k) := fun k z hz => hb z (List.mem_of_mem_drop hz)
      have C2 := fun (w2 : World) (h : Par w2 w.heap.size (bs.drop 2) bad) (hm : Blk w2 gM [.int .u16 (be bs 0), r, s, .int .u16 c0, .int .u8 cm0, x] 36) (hk : Kp w w2 [w.heap.size, gM]) =>
        (rb_yes w.heap.size gM 1 (bs.drop 2) bad _ 36 w2 h hm (by simp) hne bP bM 32 (by simp; omega)).mono (R' := fun e w' => e = .returned (.bool true) ∧ Par w' w.heap.size (bs.drop 34) bad ∧ (∃ u, Blk w' gM [.int .u16 (be bs 0), u, s, .int .u16 c0, .int .u8 cm0, x] 36 ∧ Rd w' u (some ((bs.drop 2).take 32)) bad) ∧ Kp w w' [w.heap.size, gM]) (by
          rintro e w' ⟨h1, h2, h3, h4⟩
          rw [List.drop_drop] at h2
          exact ⟨h1, h2, h3, hk.trans h4⟩)
      simp only [show (((32 : Nat) : Int)) = (32 : Int) from rfl] at C2
      obtain ⟨sl, hsl⟩ : ∃ sl, sl = (bs.getD 34 0).toNat := ⟨_, rfl⟩
      have evac : (vac (bs.drop 34) 1).toNat = sl := by rw [vac1, hsl]; simp
      have V3 := fun (w3 : World) (u : Value) (h : Par w3 w.heap.size (bs.drop 34) bad) (hm : Blk w3 gM [.int .u16 (be bs 0), u, s, .int .u16 c0, .int .u8 cm0, x] 36) =>
        rv_spec w.heap.size gM 2 (bs.drop 34) bad _ 36 w3 h hm (by simp) hne bP bM (hbd 34) 1 (by decide) (by decide)
      simp only [evac, show (((1 : Nat) : Int)) = (1 : Int) from rfl, List.length_drop] at V3
      have HR : Hid (Rd w r R0 (fun k => k = gM) ∧ Rd w s S0 (fun k => k = gM) ∧ XRd w x X0 (fun k => k = gM)) := ⟨hr, hs, hx⟩
      clear hB hr hs hx evac
      by_cases h35 : bs.length < 35 ∨ bs.length - 35 < sl
      · have C3 := fun w3 u h hm => (V3 w3 u h hm).mono (R' := fun e w' => e = .returned (.bool false) ∧ Kp w3 w' []) (by
          rintro e w' (h | h)
          · exact h.2
          · exact absurd h35 (by omega))
        clear V3
        rw [hsl] at h35
        rw [parse3 _ _ h34 h35]
        clear hsl h35
        go_enter Yba.func6, Yba.ntmps6
        go_wp2_with (first | (go_at_call_of 10 (Value.pointer (some (⟨gM, 0, none⟩ : Addr))); refine C1'.mono ?_; rintro e w2 ⟨rfl, P2, M2, K2⟩) | (go_at_call 11; refine (C2 w2 P2 M2 K2).mono ?_; rintro e w3 ⟨rfl, P3, ⟨u, M3, U3⟩, K3⟩) | (go_at_call 12; refine (C3 w3 u P3 M3).mono ?_; rintro e w4 ⟨rfl, K4⟩))
        go_ret
        have K := hfin _ (K3.trans (K4.mono (by simp)))
        obtain ⟨hr, hs, hx⟩ := HR.out
        exact ⟨rfl, ⟨u, s, x, M3.kept K4 (by simp), (U3.kept K4 (by simp)).rebad (fun k _ => hb0 k), hs.kept K (by simp), hx.kept K (by simp)⟩, K⟩
      · have C3 := fun w3 u h hm (hk : Kp w w3 [w.heap.size, gM]) (hu : Rd w3 u (some ((bs.drop 2).take 32)) bad) => (V3 w3 u h hm).mono (R' := fun e w' => e = .returned (.bool true) ∧ Par w' w.heap.size (bs.drop (35 + sl)) bad ∧ (∃ ad cap, Blk w' gM [.int .u16 (be bs 0), u, .slice (some ad) sl cap, .int .u16 c0, .int .u8 cm0, x] 36 ∧ Rd w' (.slice (some ad) sl cap) (some ((bs.drop 35).take sl)) bad) ∧ Kp w w' [w.heap.size, gM] ∧ Rd w' u (some ((bs.drop 2).take 32)) bad) (by
          rintro e w' (h | ⟨h1, h2, h3, h4, ⟨y, h5, h6⟩, h7⟩)
          · exact absurd h.1 (by omega)
          · rw [List.drop_drop] at h4 h6
            have hlen : ((bs.drop 35).take sl).length = sl := by simp; omega
            have h6' := h6
            obtain ⟨ad, cap, rfl, _, _⟩ := h6'
            rw [show (List.take sl (List.drop (34 + 1) bs)).length = sl from hlen] at h5 h6
            refine ⟨h3, ?_, ⟨ad, cap, h5, h6⟩, hk.trans h7, hu.kept h7 (hbad' w3)⟩
            rw [show 34 + (1 + sl) = 35 + sl by omega] at h4
            exact h4)
        clear V3
        have hlS : (sl : Int) ≤ 255 := by have := hb.at 34; omega
        by_cases h32 : 32 < sl
        · rw [hsl] at h35
          rw [parse4 _ _ h35 (.inl (by omega)), ← hsl]
          have h32' : (32 : Int) < (sl : Int) := by omega
          clear hsl h35 h32
          go_enter Yba.func6, Yba.ntmps6
          go_wp2_with (first | (go_at_call_of 10 (Value.pointer (some (⟨gM, 0, none⟩ : Addr))); refine C1'.mono ?_; rintro e w2 ⟨rfl, P2, M2, K2⟩) | (go_at_call 11; refine (C2 w2 P2 M2 K2).mono ?_; rintro e w3 ⟨rfl, P3, ⟨u, M3, U3⟩, K3⟩) | (go_at_call 12; refine (C3 w3 u P3 M3 K3 U3).mono ?_; rintro e w4 ⟨rfl, P4, ⟨ad4, cap4, M4, S4⟩, K4, U4⟩; have cS := M4.cell 2; simp only [List.getElem?_cons_succ, List.getElem?_cons_zero] at cS))
          go_ret
          have K := hfin _ K4
          obtain ⟨hr, hs, hx⟩ := HR.out
          exact ⟨rfl, ⟨u, _, x, M4, U4.rebad (fun k _ => hb0 k), S4.rebad (fun k _ => hb0 k), hx.kept K (by simp)⟩, K⟩
        · have h32' : ¬ (32 : Int) < (sl : Int) := by omega
          by_cases h37 : bs.length - (35 + sl) < 2
          · have C4 := fun (w4 : World) (h : Par w4 w.heap.size (bs.drop (35 + sl)) bad) => r16_no w.heap.size _ bad w4 h (.pointer (some ⟨gM, 3, none⟩)) (by simp; omega)
            rw [hsl] at h35 h37
            rw [parse4 _ _ h35 (.inr h37), ← hsl]
            clear hsl h35 h32 h37
            go_enter Yba.func6, Yba.ntmps6
            go_wp2_with (first | (go_at_call_of 10 (Value.pointer (some (⟨gM, 0, none⟩ : Addr))); refine C1'.mono ?_; rintro e w2 ⟨rfl, P2, M2, K2⟩) | (go_at_call 11; refine (C2 w2 P2 M2 K2).mono ?_; rintro e w3 ⟨rfl, P3, ⟨u, M3, U3⟩, K3⟩) | (go_at_call 12; refine (C3 w3 u P3 M3 K3 U3).mono ?_; rintro e w4 ⟨rfl, P4, ⟨ad4, cap4, M4, S4⟩, K4, U4⟩; have cS := M4.cell 2; simp only [List.getElem?_cons_succ, List.getElem?_cons_zero] at cS) | (go_at_call_of 10 (Value.pointer (some (⟨gM, 3, none⟩ : Addr))); refine (C4 w4 P4).mono ?_; rintro e w5 ⟨rfl, rfl⟩))
            go_ret
            have K := hfin _ K4
            obtain ⟨hr, hs, hx⟩ := HR.out
            exact ⟨rfl, ⟨u, _, x, M4, U4.rebad (fun k _ => hb0 k), S4.rebad (fun k _ => hb0 k), hx.kept K (by simp)⟩, K⟩
          · have C4 := fun (w4 : World) (u y : Value) (h : Par w4 w.heap.size (bs.drop (35 + sl)) bad) (hm : Blk w4 gM [.int .u16 (be bs 0), u, y, .int .u16 c0, .int .u8 cm0, x] 36) (hk : Kp w w4 [w.heap.size, gM]) (hu : Rd w4 u (some ((bs.drop 2).take 32)) bad) (hy : Rd w4 y (some ((bs.drop 35).take sl)) bad) =>
              (r16_yes w.heap.size gM 3 _ bad _ 36 w4 h hm (by simp) hne bP bM (hbd _) (by simp; omega)).mono (R' := fun e w' => e = .returned (.bool true) ∧ Par w' w.heap.size (bs.drop (37 + sl)) bad ∧ Blk w' gM [.int .u16 (be bs 0), u, y, .int .u16 (be bs (35 + sl)), .int .u8 cm0, x] 36 ∧ Kp w w' [w.heap.size, gM] ∧ Rd w' u (some ((bs.drop 2).take 32)) bad ∧ Rd w' y (some ((bs.drop 35).take sl)) bad) (by
                rintro e w' ⟨h1, h2, h3, h4⟩
                rw [List.drop_drop, show 35 + sl + 2 = 37 + sl by omega] at h2
                rw [show be (bs.drop (35 + sl)) 0 = be bs (35 + sl) by simp [be]] at h3
                exact ⟨h1, h2, h3, hk.trans h4, hu.kept h4 (hbad' w4), hy.kept h4 (hbad' w4)⟩)
            by_cases h38 : bs.length - (35 + sl) < 3
            · have C5 := fun (w5 : World) (h : Par w5 w.heap.size (bs.drop (37 + sl)) bad) => r8_no w.heap.size _ bad w5 h (.pointer (some ⟨gM, 4, none⟩)) (by simp; omega)
              rw [hsl] at h35 h37 h38 h32
              rw [parse5 _ _ h35 (by omega) h38, ← hsl]
              clear hsl h35 h32 h37 h38
              go_enter Yba.func6, Yba.ntmps6
              go_wp2_with (first | (go_at_call_of 10 (Value.pointer (some (⟨gM, 0, none⟩ : Addr))); refine C1'.mono ?_; rintro e w2 ⟨rfl, P2, M2, K2⟩) | (go_at_call 11; refine (C2 w2 P2 M2 K2).mono ?_; rintro e w3 ⟨rfl, P3, ⟨u, M3, U3⟩, K3⟩) | (go_at_call 12; refine (C3 w3 u P3 M3 K3 U3).mono ?_; rintro e w4 ⟨rfl, P4, ⟨ad4, cap4, M4, S4⟩, K4, U4⟩; have cS := M4.cell 2; simp only [List.getElem?_cons_succ, List.getElem?_cons_zero] at cS) | (go_at_call_of 10 (Value.pointer (some (⟨gM, 3, none⟩ : Addr))); refine (C4 w4 u _ P4 M4 K4 U4 S4).mono ?_; rintro e w5 ⟨rfl, P5, M5, K5, U5, S5⟩) | (go_at_call 13; refine (C5 w5 P5).mono ?_; rintro e w6 ⟨rfl, rfl⟩))
              go_ret
              have K := hfin _ K5
              obtain ⟨hr, hs, hx⟩ := HR.out
              exact ⟨rfl, ⟨u, _, x, M5, U5.rebad (fun k _ => hb0 k), S5.rebad (fun k _ => hb0 k), hx.kept K (by simp)⟩, K⟩
            · have C5 := fun (w5 : World) (u y : Value) (h : Par w5 w.heap.size (bs.drop (37 + sl)) bad) (hm : Blk w5 gM [.int .u16 (be bs 0), u, y, .int .u16 (be bs (35 + sl)), .int .u8 cm0, x] 36) (hk : Kp w w5 [w.heap.size, gM]) (hu : Rd w5 u (some ((bs.drop 2).take 32)) bad) (hy : Rd w5 y (some ((bs.drop 35).take sl)) bad) =>
                (r8_yes w.heap.size gM 4 _ bad _ 36 w5 h hm (by simp) hne bP bM (hbd _) (by simp; omega)).mono (R' := fun e w' => e = .returned (.bool true) ∧ (∃ vP, Blk w' w.heap.size [vP] 45 ∧ Rd w' vP (some (bs.drop (38 + sl))) (fun k => k = gM ∨ w.heap.size ≤ k)) ∧ Blk w' gM [.int .u16 (be bs 0), u, y, .int .u16 (be bs (35 + sl)), .int .u8 (bs.getD (37 + sl) 0), x] 36 ∧ Kp w w' [w.heap.size, gM] ∧ Rd w' u (some ((bs.drop 2).take 32)) bad ∧ Rd w' y (some ((bs.drop 35).take sl)) bad) (by
                  rintro e w' ⟨h1, h2, h3, h4⟩
                  rw [List.drop_drop, show 37 + sl + 1 = 38 + sl by omega, hbad] at h2
                  rw [show (bs.drop (37 + sl)).getD 0 0 = bs.getD (37 + sl) 0 by simp] at h3
                  exact ⟨h1, h2, h3, hk.trans h4, hu.kept h4 (hbad' w5), hy.kept h4 (hbad' w5)⟩)
              have C6 := fun (w6 : World) (vP : Value) (hk : Kp w w6 [w.heap.size, gM]) (h : Rd w6 vP (some (bs.drop (38 + sl))) (fun k => k = gM ∨ w.heap.size ≤ k)) => re_any (bs.drop (38 + sl)) vP gM w.heap.size w6 hgM hk.size h (hbd _) (by simp; omega)
              rw [hsl] at h35 h37 h38 h32
              rw [parse6 _ _ h35 (by omega) h38, ← hsl]
              clear hsl h35 h32 h37 h38
              go_enter Yba.func6, Yba.ntmps6
              go_wp2_with (first | (go_at_call_of 10 (Value.pointer (some (⟨gM, 0, none⟩ : Addr))); refine C1'.mono ?_; rintro e w2 ⟨rfl, P2, M2, K2⟩) | (go_at_call 11; refine (C2 w2 P2 M2 K2).mono ?_; rintro e w3 ⟨rfl, P3, ⟨u, M3, U3⟩, K3⟩) | (go_at_call 12; refine (C3 w3 u P3 M3 K3 U3).mono ?_; rintro e w4 ⟨rfl, P4, ⟨ad4, cap4, M4, S4⟩, K4, U4⟩; have cS := M4.cell 2; simp only [List.getElem?_cons_succ, List.getElem?_cons_zero] at cS) | (go_at_call_of 10 (Value.pointer (some (⟨gM, 3, none⟩ : Addr))); refine (C4 w4 u _ P4 M4 K4 U4 S4).mono ?_; rintro e w5 ⟨rfl, P5, M5, K5, U5, S5⟩) | (go_at_call 13; refine (C5 w5 u _ P5 M5 K5 U5 S5).mono ?_; rintro e w6 ⟨rfl, ⟨vP, P6, R6⟩, M6, K6, U6, S6⟩; have cP := P6.cell 0; simp only [List.getElem?_cons_zero] at cP) | (go_at_call 14; refine (C6 w6 vP K6 R6).mono ?_; rintro e w7 ⟨x7, rfl, X7, B7⟩; obtain ⟨ao7, n7, c7, rfl, _⟩ := X7.shape; have cX := (M6.kept (Kp.ofBelow B7 []) (by simp)).cell 5; simp only [List.getElem?_cons_succ, List.getElem?_cons_zero] at cX; have fX := (M6.kept (Kp.ofBelow B7 []) (by simp)).free 5))
              go_ret
              have K7 : Kp w6 w7 [] := Kp.ofBelow B7 []
              have K8 : Kp w7 (w7.setCell ⟨gM, 5, none⟩ (.slice ao7 n7 c7)) [gM] := (Kp.refl w7 _).set gM 5 _ (by simp)
              have K := hfin _ ((K6.trans (K7.mono (by simp))).trans (K8.mono (by simp)))
              have hg : ∀ k ∈ [gM], k < w7.heap.size → bad k := fun k hk _ => by simp at hk; subst hk; exact bM
              exact ⟨rfl, ⟨u, _, _, (M6.kept K7 (by simp)).set 5 _, ((U6.kept K7 (by simp)).kept K8 hg).rebad (fun k _ => hb0 k), ((S6.kept K7 (by simp)).kept K8 hg).rebad (fun k _ => hb0 k), X7.kept K8 (by simp)⟩, K⟩
end Go.Proofs.Ybulkdrkk
