/-
  LawS5910AWhole (function 3): the walks: nil, at most 40 bytes, more.
-/
import Derived.Test.YbulkdrjiOwn
namespace Go.Proofs.Ybulkdrji
open Go.RowKit
set_option linter.unusedVariables false

set_option maxRecDepth 100000 in
set_option maxHeartbeats 2000000 in
theorem walk_short (a : Option Addr) (n cap : Nat) (xs : List Int) (w : World) (ha : a.isNone = false) (hn : xs.length = n) (hb : BytesAt w a xs) (h40 : n ≤ 40) :
    Calls Yba.prog 3 #[.slice a n cap] w fun e w' => e = .returned (.bool true) ∧ Below w.heap.size w w' := by
  have e1 : ∀ w, (binOp .neq 22 (.slice a n cap) (.slice none 0 0)).run Yba.prog w = .ok (.bool true) w := fun w => by
    rw [run_neq_slice_nil_any (P := Yba.prog) w 22 5 a n cap 0 0 Yba.underlying22, ha]; rfl
  have hmin : xs.length = Nat.min n n := by rw [hn]; exact (Nat.min_self n).symm
  have HN : Hid (xs.length = n) := hn
  have HA : Hid (a = none → xs = []) := fun h => by rw [h] at ha; simp at ha
  clear hn ha
  go_enter Yba.func3, Yba.ntmps3
  go_wp2_with (first | (at_make; refine wpList_make_row rfl (.tmp 30) (.tmp 30) rfl _ _ n rfl rfl rfl rfl (by omega) ?_; intro w1 y1 hy1 hr1 hg1) | ((with_reducible refine at_copy ?_); refine wpList_copy_row rfl (.tmp 32) (.tmp 33) rfl w.heap.size n n a n cap rfl rfl y1 xs hr1 (by rw [hy1.out]; simp) hmin (hb.grown (below_of_gb hg1 (by simp))).plain ?_; intro w2 y2 hy2 hr2 hg2))
  have e2 : y2 = xs := by rw [hy2.out, List.drop_eq_nil_of_le (by rw [hy1.out, HN.out]; simp), List.append_nil]
  subst e2
  have B2 : Below w.heap.size w w2 := below_gb (below_of_gb hg1 (by simp)) hg2 hg1.size (by simp)
  clear hy1 hr1 hg1 hy2 hg2 e1
  refine (exc_short a n cap y2 w2 HN.out (hb.grown B2) HA.out h40).mono ?_
  rintro e w' ⟨rfl, rfl⟩
  go_wp2_with (at_make; refine wpList_make_want rfl (.const (.int .i64 0)) (.tmp 41) rfl _ n rfl rfl rfl (by omega) ?_; intro w3 hown3 hg3)
  have B3 : Below w.heap.size w w3 := below_gb B2 hg3 B2.size (by simp)
  have hr3 := hr2.grown hg3 (by simp)
  have HZ : Hid (w.heap.size < w2.heap.size ∧ w2.heap.size ≤ w3.heap.size) := ⟨hr2.lt, hg3.size⟩
  clear B2 hr2 hg3 hmin
  go_loopw [7, 8] (fun v i wr => ∃ k : Nat, k ≤ n ∧ i = .int .i64 k ∧ Own wr w2.heap.size v (y2.take k) ∧ Row wr w.heap.size y2 ∧ Below w.heap.size w wr ∧ w2.heap.size ≤ wr.heap.size) (fun _ i _ => n - (intOf i).toNat)
  case atStart => exact ⟨0, Nat.zero_le _, rfl, hown3, hr3, B3, HZ.out.2⟩
  case round =>
    clear hown3 hr3 B3
    obtain ⟨k, hk, rfl, hown, hr, BB, hsz⟩ := hrel
    by_cases hlt : k < n
    · obtain ⟨bK, oK, rfl, hbK, hcK⟩ := hb.spot (by rw [HN.out]; omega)
      obtain ⟨z, hz⟩ : ∃ z, z = y2.getD k 0 := ⟨_, rfl⟩
      have ck : wr.cell? ⟨bK, oK + k, none⟩ = some (.int .u8 z) := by rw [hz]; exact (BB.cell (by exact hbK)).trans (hcK k (by rw [HN.out]; exact hlt))
      have i0 : (k : Int) < (n : Int) := by omega
      have HT : Hid (y2.take k ++ [z] = y2.take (k + 1)) := by
        show _ = _
        rw [hz, List.getD_eq_getElem?_getD, List.getElem?_eq_getElem (by rw [HN.out]; exact hlt)]
        exact (List.take_succ_eq_append_getElem (by rw [HN.out]; exact hlt)).symm
      have hlen : (y2.take k).length ≤ 40 := by simp; omega
      clear hz hcK
      go_wp2_with (at_builtin; refine wpList_append_bytes rfl (.tmp 49) (.tmp 54) rfl w2.heap.size _ _ rfl (hown.alloc _) wr.heap.size 1 1 [z] rfl rfl (one_new wr z) (by omega) (by simp; omega) ?_; intro v' w4 hown4 hb4 hs4)
      have hown5 : Own w4 w2.heap.size v' (y2.take (k + 1)) := by rw [← HT.out]; exact hown4
      have hr5 : Row w4 w.heap.size y2 := (hr.alloc _).keep (hb4.block _ HZ.out.1)
      have B5 : Below w.heap.size w w4 := (BB.alloc BB.size _).trans (hb4.mono (by have := HZ.out; omega))
      have hs5 : w2.heap.size ≤ w4.heap.size := by have h : (wr.alloc (.cells #[.int .u8 z] 5)).heap.size = wr.heap.size + 1 := by simp
                                                   rw [h] at hs4; omega
      clear hown hown4 hb4 hs4 hr BB
      go_roundw
      case rel => exact ⟨k + 1, by omega, by go_num, hown5, hr5, B5, hs5⟩
      case measure => simp [intOf]; omega
    · have hkn : k = n := by omega
      have hown' : Own wr w2.heap.size u7 y2 := by rw [← List.take_of_length_le (l := y2) (i := k) (by rw [HN.out]; omega)]; exact hown
      have hcv := hown'.conv
      have hrF := hr
      have BF := BB
      clear hkn hown hown' hr BB
      go_wp2
      go_loopw [10] (fun i wr => ∃ k : Nat, k ≤ n ∧ i = .int .i64 k ∧ Row wr w.heap.size y2 ∧ Below w.heap.size w wr) (fun i _ => n - (intOf i).toNat)
      case atStart => exact ⟨0, Nat.zero_le _, rfl, hrF, BF⟩
      case round =>
        clear hrF BF
        obtain ⟨k, hk, rfl, hrF, BF⟩ := hrel
        by_cases hlt : k < n
        · obtain ⟨bK, oK, rfl, hbK, hcK⟩ := hb.spot (by rw [HN.out]; omega)
          obtain ⟨z, cz, hz⟩ := hrF.cell_ex k (by rw [HN.out]; exact hlt)
          have ck : wr.cell? ⟨bK, oK + k, none⟩ = some (.int .u8 z) := by rw [hz]; exact (BF.cell (by exact hbK)).trans (hcK k (by rw [HN.out]; exact hlt))
          have i0 : (k : Int) < (n : Int) := by omega
          clear hz hcK
          go_wp2_with fail
          go_quiet (fail)
          go_wp2
          go_roundw
          case rel => exact ⟨k + 1, by omega, by go_num, hrF.drewN _, below_drewN' BF _⟩
          case measure => simp [intOf]; omega
        · go_wp2
          go_ret
          exact ⟨rfl, BF⟩

set_option maxRecDepth 100000 in
set_option maxHeartbeats 2000000 in
theorem walk_nil (w : World) : Calls Yba.prog 3 #[.slice none 0 0] w fun e w' => e = .returned (.bool true) ∧ Below w.heap.size w w' := by
  have e1 : ∀ w, (binOp .neq 22 (.slice none 0 0) (.slice none 0 0)).run Yba.prog w = .ok (.bool false) w := fun w => by
    rw [run_neq_slice_nil_any (P := Yba.prog) w 22 5 none 0 0 0 0 Yba.underlying22]; rfl
  go_enter Yba.func3, Yba.ntmps3
  go_wp2_with fail
  refine (exc_short none 0 0 [] w rfl (fun h => by simp at h) (fun _ => rfl) (by omega)).mono ?_
  rintro e w' ⟨rfl, rfl⟩
  go_wp2_with (at_make; refine wpList_make_want rfl (.const (.int .i64 0)) (.tmp 41) rfl _ 0 rfl rfl rfl (by omega) ?_; intro w3 hown3 hg3)
  have B3 : Below w.heap.size w w3 := below_of_gb hg3 (by simp)
  have hcv := hown3.conv
  clear hg3 hown3
  refine wp_loop_rounds 1 ?_
  rw [rounds_succ]
  go_wp2
  refine wp_loop_rounds 1 ?_
  rw [rounds_succ]
  go_wp2
  go_ret
  exact ⟨rfl, B3⟩

/-- L is the last rune start among the first k bytes, or -1. -/
def LastIs (xs : List Int) (k : Nat) (L : Int) : Prop :=
  (L = -1 ∧ ∀ i, i < k → rs (xs.getD i 0) = false) ∨ ∃ m : Nat, L = m ∧ m < k ∧ rs (xs.getD m 0) = true ∧ ∀ i, m < i → i < k → rs (xs.getD i 0) = false
theorem LastIs.bound {xs : List Int} {k : Nat} {L : Int} (h : LastIs xs k L) : -1 ≤ L ∧ L < k := by
  rcases h with ⟨rfl, _⟩ | ⟨m, rfl, h1, _⟩ <;> omega
theorem LastIs.yes {xs : List Int} {k : Nat} (h : rs (xs.getD k 0) = true) : LastIs xs (k + 1) k := .inr ⟨k, rfl, by omega, h, fun i h1 h2 => by omega⟩
theorem LastIs.no {xs : List Int} {k : Nat} {L : Int} (h : LastIs xs k L) (hk : rs (xs.getD k 0) = false) : LastIs xs (k + 1) L := by
  rcases h with ⟨rfl, h1⟩ | ⟨m, rfl, h1, h2, h3⟩
  · refine .inl ⟨rfl, fun i hi => ?_⟩
    by_cases e : i = k
    · rw [e]; exact hk
    · exact h1 i (by omega)
  · refine .inr ⟨m, rfl, by omega, h2, fun i h4 h5 => ?_⟩
    by_cases e : i = k
    · rw [e]; exact hk
    · exact h3 i h4 (by omega)

set_option maxRecDepth 100000 in
set_option maxHeartbeats 2000000 in
theorem walk_long (b o n cap : Nat) (xs : List Int) (w : World) (hn : xs.length = n) (hbB : b < w.heap.size) (hc : ∀ j, j < n → w.cell? ⟨b, o + j, none⟩ = some (.int .u8 (xs.getD j 0))) (h40 : 40 < n) (hcap : n ≤ cap) (hreach : n ≤ 140737488351232) :
    Calls Yba.prog 3 #[.slice (some ⟨b, o, none⟩) n cap] w fun e w' => e = .returned (.bool true) ∧ Below w.heap.size w w' := by
  have e1 : ∀ w, (binOp .neq 22 (.slice (some ⟨b, o, none⟩) n cap) (.slice none 0 0)).run Yba.prog w = .ok (.bool true) w := fun w => by
    rw [run_neq_slice_nil_any (P := Yba.prog) w 22 5 _ n cap 0 0 Yba.underlying22]; rfl
  have hmin : xs.length = Nat.min n n := by rw [hn]; exact (Nat.min_self n).symm
  have HN : Hid (xs.length = n) := hn
  have HC : Hid (∀ j, j < n → w.cell? ⟨b, o + j, none⟩ = some (.int .u8 (xs.getD j 0))) := hc
  clear hn hc
  go_enter Yba.func3, Yba.ntmps3
  go_wp2
  go_loop [3, 4] (fun l i => ∃ (k : Nat) (L : Int), k ≤ 41 ∧ i = .int .i64 k ∧ l = .int .i64 L ∧ Hid (LastIs xs k L)) (fun _ i => 41 - (intOf i).toNat)
  case atStart => exact ⟨0, -1, by omega, rfl, rfl, .inl ⟨rfl, fun i hi => by omega⟩⟩
  case round =>
    obtain ⟨k, L, hk, rfl, rfl, HL⟩ := hrel
    by_cases hlt : k < 41
    · obtain ⟨z, hz⟩ : ∃ z, z = xs.getD k 0 := ⟨_, rfl⟩
      have cz : w.cell? ⟨b, o + k, none⟩ = some (.int .u8 z) := by rw [hz]; exact HC.out k (by omega)
      have i0 : (k : Int) < (n : Int) := by omega
      have i1 : (k : Int) ≤ 40 := by omega
      have HZ : Hid (z = xs.getD k 0) := hz
      clear hz
      cases hr : (bits BinOp.and IntKind.u8 z 192 != 128) with
      | true =>
        have HL2 : Hid (LastIs xs (k + 1) k) := LastIs.yes (by rw [← HZ.out]; exact hr)
        go_wp2
        go_round
        case rel => exact ⟨k + 1, k, by omega, by go_num, rfl, HL2⟩
        case measure => simp [intOf]; omega
      | false =>
        have HL2 : Hid (LastIs xs (k + 1) L) := HL.out.no (by rw [← HZ.out]; exact hr)
        go_wp2
        go_round
        case rel => exact ⟨k + 1, L, by omega, by go_num, rfl, HL2⟩
        case measure => simp [intOf]; omega
    · have hk41 : k = 41 := by omega
      subst hk41
      rcases HL.out with ⟨rfl, _⟩ | ⟨last, rfl, hl1, hl2, hl3⟩
      · go_wp2
        go_ret
        exact ⟨rfl, Below.refl _ _⟩
      · have HX := fun w2 (hb2 : Below w.heap.size w w2) => exc_long b o n cap last xs w2 HN.out (fun j hj => (hb2.cell (by exact hbB)).trans (HC.out j hj)) h40 hcap (by omega) hl2 (fun i h1 h2 => hl3 i h1 (by omega))
        clear hl2 hl3 HL
        have l0 : (0 : Int) ≤ (last : Int) := by omega
        have hsrc : BytesAt w (some ⟨b, o, none⟩) xs := by
          intro _
          refine ⟨_, rfl, hbB, fun j hj => ?_⟩
          have hadd : (⟨b, o, none⟩ : Addr).add j = ⟨b, o + j, none⟩ := by unfold Addr.add; split <;> simp_all
          rw [hadd]; exact HC.out j (by rw [← HN.out]; exact hj)
        go_wp2_with (first | (at_make; refine wpList_make_row rfl (.tmp 30) (.tmp 30) rfl _ _ n rfl rfl rfl rfl hreach ?_; intro w1 y1 hy1 hr1 hg1) | ((with_reducible refine at_copy ?_); refine wpList_copy_row rfl (.tmp 32) (.tmp 33) rfl w.heap.size n n (some ⟨b, o, none⟩) n cap rfl rfl y1 xs hr1 (by rw [hy1.out]; simp) hmin (hsrc.grown (below_of_gb hg1 (by simp))).plain ?_; intro w2 y2 hy2 hr2 hg2))
        have e2 : y2 = xs := by rw [hy2.out, List.drop_eq_nil_of_le (by rw [hy1.out, HN.out]; simp), List.append_nil]
        subst e2
        have B2 : Below w.heap.size w w2 := below_gb (below_of_gb hg1 (by simp)) hg2 hg1.size (by simp)
        clear hy1 hr1 hg1 hy2 hg2 e1
        refine (HX w2 B2).mono ?_
        rintro e w' ⟨rfl, rfl⟩
        obtain ⟨S, hS⟩ : ∃ S, S = strOfNums (y2.take last ++ [46, 46, 46]) := ⟨_, rfl⟩
        have HS : Hid (S = strOfNums (y2.take last ++ [46, 46, 46])) := hS
        rw [← hS]
        clear hS HX hmin
        go_wp2_with (at_make; refine wpList_make_want rfl (.const (.int .i64 0)) (.tmp 57) rfl _ (last + 3) rfl rfl (by omega) (by omega) ?_; intro w3 hown3 hg3)
        have B3 : Below w.heap.size w w3 := below_gb B2 hg3 B2.size (by simp)
        have hr3 := hr2.grown hg3 (by simp)
        have HZ : Hid (w.heap.size < w2.heap.size ∧ w2.heap.size ≤ w3.heap.size) := ⟨hr2.lt, hg3.size⟩
        clear B2 hr2 hg3 hsrc
        go_loopw [7, 9] (fun v i wr => ∃ k : Nat, k ≤ last ∧ i = .int .i64 k ∧ Own wr w2.heap.size v (y2.take k) ∧ Row wr w.heap.size y2 ∧ Below w.heap.size w wr ∧ w2.heap.size ≤ wr.heap.size) (fun _ i _ => last - (intOf i).toNat)
        case atStart => exact ⟨0, Nat.zero_le _, rfl, hown3, hr3, B3, HZ.out.2⟩
        case round =>
          clear hown3 hr3 B3
          obtain ⟨k, hk, rfl, hown, hr, BB, hsz⟩ := hrel
          by_cases hlt2 : k < last
          · obtain ⟨z, hz⟩ : ∃ z, z = y2.getD k 0 := ⟨_, rfl⟩
            have ck : wr.cell? ⟨b, o + k, none⟩ = some (.int .u8 z) := by rw [hz]; exact (BB.cell (by exact hbB)).trans (HC.out k (by omega))
            have i0 : (k : Int) < (n : Int) := by omega
            have i1 : (k : Int) < (last : Int) := by omega
            have HT : Hid (y2.take k ++ [z] = y2.take (k + 1)) := by
              show _ = _
              rw [hz, List.getD_eq_getElem?_getD, List.getElem?_eq_getElem (by rw [HN.out]; omega)]
              exact (List.take_succ_eq_append_getElem (by rw [HN.out]; omega)).symm
            have hlen : (y2.take k).length ≤ 40 := by simp; omega
            clear hz
            go_wp2_with (at_builtin; refine wpList_append_bytes rfl (.tmp 64) (.tmp 69) rfl w2.heap.size _ _ rfl (hown.alloc _) wr.heap.size 1 1 [z] rfl rfl (one_new wr z) (by omega) (by simp; omega) ?_; intro v' w4 hown4 hb4 hs4)
            have hown5 : Own w4 w2.heap.size v' (y2.take (k + 1)) := by rw [← HT.out]; exact hown4
            have hr5 : Row w4 w.heap.size y2 := (hr.alloc _).keep (hb4.block _ HZ.out.1)
            have B5 : Below w.heap.size w w4 := (BB.alloc BB.size _).trans (hb4.mono (by have := HZ.out; omega))
            have hs5 : w2.heap.size ≤ w4.heap.size := by
              have h : (wr.alloc (.cells #[.int .u8 z] 5)).heap.size = wr.heap.size + 1 := by simp
              rw [h] at hs4; omega
            clear hown hown4 hb4 hs4 hr BB
            go_roundw
            case rel => exact ⟨k + 1, by omega, by go_num, hown5, hr5, B5, hs5⟩
            case measure => simp [intOf]; omega
          · have hkn : k = last := by omega
            have hown' : Own wr w2.heap.size u7 (y2.take last) := by rw [← hkn]; exact hown
            have hlen : (y2.take last).length ≤ 40 := by simp; omega
            have i1 : ¬ (k : Int) < (last : Int) := by omega
            clear hkn hown
            go_wp2_with (at_builtin; refine wpList_append_bytes rfl (.tmp 71) (.tmp 72) rfl w2.heap.size _ _ rfl (hown'.alloc _) wr.heap.size 3 3 [46, 46, 46] rfl rfl (three_new wr 46 46 46) (by omega) (by simp; omega) ?_; intro v' w4 hown4 hb4 hs4; have hcv := hown4.conv; rw [← HS.out] at hcv)
            have hrF : Row w4 w.heap.size y2 := (hr.alloc _).keep (hb4.block _ HZ.out.1)
            have BF : Below w.heap.size w w4 := (BB.alloc BB.size _).trans (hb4.mono (by have := HZ.out; omega))
            clear hown' hown4 hb4 hs4 hr BB hsz
            go_loopw [10] (fun i wr => ∃ k : Nat, k ≤ n ∧ i = .int .i64 k ∧ Row wr w.heap.size y2 ∧ Below w.heap.size w wr) (fun i _ => n - (intOf i).toNat)
            case atStart => exact ⟨0, Nat.zero_le _, rfl, hrF, BF⟩
            case round =>
              clear hrF BF
              obtain ⟨k, hk, rfl, hrF, BF⟩ := hrel
              by_cases hlt : k < n
              · obtain ⟨z, cz, hz⟩ := hrF.cell_ex k (by rw [HN.out]; exact hlt)
                have ck : wr.cell? ⟨b, o + k, none⟩ = some (.int .u8 z) := by rw [hz]; exact (BF.cell (by exact hbB)).trans (HC.out k hlt)
                have i0 : (k : Int) < (n : Int) := by omega
                clear hz
                go_wp2_with fail
                go_quiet (fail)
                go_wp2
                go_roundw
                case rel => exact ⟨k + 1, by omega, by go_num, hrF.drewN _, below_drewN' BF _⟩
                case measure => simp [intOf]; omega
              · go_wp2
                go_ret
                exact ⟨rfl, BF⟩
end Go.Proofs.Ybulkdrji
