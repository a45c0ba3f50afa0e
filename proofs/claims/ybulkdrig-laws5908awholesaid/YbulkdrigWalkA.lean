/-
  LawS5908AWhole (function 3): the walk, for every slice of at most 65536 bytes.
-/
import Derived.Test.YbulkdrigLaws
import Derived.WalkSpells
namespace Go.Proofs.Ybulkdrig
open Go.RowKit
set_option linter.unusedVariables false

theorem src_row {w : World} {g : Nat} {zs : List Int} (h : Row w g zs) : 0 < zs.length → ∃ ad, some (⟨g, 0, none⟩ : Addr) = some ad ∧ ∀ j, j < zs.length → w.cell? (ad.add j) = some (.int .u8 (zs.getD j 0)) := by
  intro _
  refine ⟨_, rfl, fun j hj => ?_⟩
  have e : (⟨g, 0, none⟩ : Addr).add j = ⟨g, j, none⟩ := by unfold Addr.add; split <;> simp_all
  rw [e]
  exact h.cell j hj
theorem six' (z : Int) (h0 : 0 ≤ z) (h1 : z ≤ 255) : bits BinOp.or IntKind.u8 (z % 16) 96 = 96 + z % 16 := by
  rw [← six z h0 h1, u8_and15 z h0 (by omega)]
theorem dif16 (n : Int) (N : Nat) : IntKind.u16.wrap (IntKind.u16.wrap n - IntKind.u16.wrap ↑N) = (n - N) % 65536 := by
  rw [IntKind.wrap_u16, IntKind.wrap_u16, IntKind.wrap_u16]; omega
theorem or8 (x0 x1 : Int) (p0 : 0 ≤ x0) (p1 : x0 ≤ 255) (q0 : 0 ≤ x1) (q1 : x1 ≤ 255) : bits BinOp.or IntKind.u32 (x0 * 256) x1 = x0 * 256 + x1 :=
  bits_join .u32 32 (by decide) wraps_u32 8 (x0 * 256) x1 (by omega) (by omega) (by omega) q0 (by omega) (by omega)
theorem below_drewN' {B : Nat} {a w : World} (h : Below B a w) (n : Nat) : Below B a (w.drewN n) := ⟨h.os, h.tape, h.output, h.size, h.block⟩
theorem bytes_of {zs : List Int} (h : Bytes zs) {z : Int} {j : Nat} (e : z = zs.getD j 0) : 0 ≤ z ∧ z ≤ 255 := by rw [e]; exact h.at j
theorem head_set (zs : List Int) (v : Int) (h : 0 < zs.length) : (zs.set 0 v).getD 0 0 = v := by
  rw [List.getD_eq_getElem?_getD, List.getElem?_set_self h]; rfl

set_option maxRecDepth 100000 in
set_option maxHeartbeats 2000000 in
theorem walkN (a0 : Option Addr) (len0 cap0 : Nat) (v6 : Bool) (n : Int) (w : World) (xs : List Int) (hx : xs.length = len0) (hsrc : 0 < len0 → ∃ ad, a0 = some ad ∧ ∀ j, j < len0 → w.cell? (ad.add j) = some (.int .u8 (xs.getD j 0)))
    (hby : Bytes xs) (hsmall : len0 ≤ 65536) :
    Calls Yba.prog 3 #[.slice a0 len0 cap0, .bool v6, .int .i64 n] w fun e w' => e = .returned (.bool true) ∧ Below w.heap.size w w' := by
  have HSRC : Hid (0 < len0 → ∃ ad, a0 = some ad ∧ ∀ j, j < len0 → w.cell? (ad.add j) = some (.int .u8 (xs.getD j 0))) := hsrc
  clear hsrc
  go_enter Yba.func3, Yba.ntmps3
  go_upto_if 22 with fail
  go_cut [7] (fun s w' => ∃ m : Nat, s = .int .i64 m ∧ 12 ≤ m ∧ m ≤ 65536 ∧ len0 ≤ m ∧ w = w')
  case first =>
    by_cases h12 : len0 < 12
    · go_wp2
      go_meet
      case rel => exact ⟨12, rfl, by omega, by omega, by omega, rfl⟩
    · go_wp2
      go_meet
      case rel => exact ⟨len0, rfl, by omega, by omega, by omega, rfl⟩
  case rest =>
  obtain ⟨m, rfl, m1, m2, m3, rfl⟩ := hcut
  go_upto_if 25 with fail
  go_cut [7] (fun s w' => ∃ N M : Nat, s = .int .i64 N ∧ 12 ≤ N ∧ N ≤ 65536 ∧ len0 ≤ N ∧ Hid (N = 2 * M) ∧ w = w')
  case first =>
    by_cases hodd : m % 2 = 1
    · have ho : ((m : Int) % 2 == 1) = true := by rw [beq_iff_eq]; omega
      go_wp2
      go_meet
      case rel => exact ⟨m + 1, (m + 1) / 2, by go_num, by omega, by omega, by omega, by show _ = _; omega, rfl⟩
    · have ho : ((m : Int) % 2 == 1) = false := by rw [beq_eq_false_iff_ne]; omega
      go_wp2
      go_meet
      case rel => exact ⟨m, m / 2, by go_num, by omega, by omega, by omega, by show _ = _; omega, rfl⟩
  case rest =>
  obtain ⟨N, M, rfl, N1, N2, N3, HNM, rfl⟩ := hcut
  clear m1 m2 m3
  have hmin : xs.length = Nat.min len0 N := by rw [hx]; exact (Nat.min_eq_left N3).symm
  have HS : Hid (∀ w1 : World, w.grownBy w1 none → 0 < xs.length → ∃ ad, a0 = some ad ∧ ∀ j, j < xs.length → w1.cell? (ad.add j) = some (.int .u8 (xs.getD j 0))) := by
    intro w1 hg h0
    rw [hx] at *
    obtain ⟨ad, rfl, hc⟩ := HSRC.out h0
    exact ⟨ad, rfl, fun j hj => hg.cell (hc j hj) (by simp)⟩
  clear HSRC
  go_upto_if 33 with (first | (at_make; refine wpList_make_row rfl (.tmp 28) (.tmp 28) rfl _ _ N rfl rfl rfl rfl (by omega) ?_; intro w1 y1 hy1 hr1 hg1) | ((with_reducible refine at_copy ?_); refine wpList_copy_row rfl (.tmp 30) (.tmp 31) rfl w.heap.size N N a0 len0 cap0 rfl rfl y1 xs hr1 (by rw [hy1.out]; simp) hmin (HS.out w1 hg1) ?_; intro w2 y2 hy2 hr2 hg2))
  obtain ⟨hl2, hb2⟩ := after_copy hy1 (by omega) hy2 hby
  have HL2 : Hid (y2.length = N) := hl2
  have B2 : Below w.heap.size w w2 := below_gb (below_of_gb hg1 (by simp)) hg2 hg1.size (by simp)
  clear hy1 hr1 hg1 hy2 hg2 HS hmin hl2 hx hby
  go_cut [] (fun w' => ∃ ys, Row w' w.heap.size ys ∧ Hid (ys.length = N) ∧ Bytes ys ∧ Hid (v6 = true ↔ ys.getD 0 0 / 16 = 6) ∧ Below w.heap.size w w')
  case first =>
    obtain ⟨z0, c0, hz0⟩ := hr2.cell_ex 0 (by have := HL2.out; omega)
    have f0 := hr2.free 0
    have bz := bytes_of hb2 hz0
    have HZ : Hid (z0 = y2.getD 0 0) := hz0
    clear hz0
    cases v6 with
    | true =>
      have S6 := six' z0 bz.1 bz.2
      go_wp2
      go_meet
      case rel => exact ⟨y2.set 0 (96 + z0 % 16), hr2.set 0 _, by show _ = _; rw [List.length_set]; exact HL2.out, hb2.set 0 (by omega) (by omega), by show _ ↔ _; rw [head_set _ _ (by have := HL2.out; omega)]; simp; omega, B2.setCell (Nat.le_refl _) _⟩
    | false =>
      by_cases h6 : z0 / 16 = 6
      · have hb : (z0 / 16 == 6) = true := by rw [h6]; rfl
        have S7 := seven z0 h6
        have H6 : Hid (z0 / 16 = 6) := h6
        clear h6
        go_wp2
        go_meet
        case rel => exact ⟨y2.set 0 (z0 + 16), hr2.set 0 _, by show _ = _; rw [List.length_set]; exact HL2.out, hb2.set 0 (by omega) (by have := H6.out; omega), by show _ ↔ _; rw [head_set _ _ (by have := HL2.out; omega)]; have := H6.out; simp; omega, B2.setCell (Nat.le_refl _) _⟩
      · have hb : (z0 / 16 == 6) = false := by rw [beq_eq_false_iff_ne]; exact h6
        go_wp2
        go_meet
        case rel => exact ⟨y2, hr2, HL2, hb2, by show _ ↔ _; rw [← HZ.out]; simp [h6], B2⟩
  case rest =>
  clear hr2 hb2 HL2 B2
  obtain ⟨wcE, hwcE⟩ : ∃ x : World, x = wc := ⟨_, rfl⟩
  subst hwcE
  obtain ⟨ys, hr2, HL2, hb2, H6, B2⟩ := hcut
  have hmin : ys.length = Nat.min N N := by rw [HL2.out]; exact (Nat.min_self N).symm
  go_upto_if 56 with (first | (at_make; refine wpList_make_row rfl (.tmp 51) (.tmp 51) rfl _ _ N rfl rfl rfl rfl (by omega) ?_; intro w3 y3 hy3 hr3 hg3) | ((with_reducible refine at_copy ?_); refine wpList_copy_row rfl (.tmp 53) (.tmp 54) rfl wcE.heap.size N N (some ⟨w.heap.size, 0, none⟩) N N rfl rfl y3 ys hr3 (by rw [hy3.out]; simp) hmin (src_row (hr2.grown hg3 (by simp))) ?_; intro w4 y4 hy4 hr4 hg4))
  have E4 : y4 = ys := by
    rw [hy4.out, List.drop_eq_nil_of_le (by rw [hy3.out, HL2.out]; simp), List.append_nil]
  subst E4
  have B4 : Below w.heap.size w w4 := below_gb (below_gb B2 hg3 (by have := hr2.lt; omega) (by simp)) hg4 (by have := hr2.lt; have := hg3.size; omega) (by have := hr2.lt; simp; omega)
  have hne : w.heap.size ≠ wcE.heap.size := by have := hr2.lt; omega
  have hrB : Row w4 w.heap.size y4 := (hr2.grown hg3 (by simp)).grown hg4 (by simp; exact hne)
  clear hy4 hy3 hr3 hg3 hg4 hmin hr2
  go_cut [] (fun w' => Row w' w.heap.size y4 ∧ Row w' wcE.heap.size (model v6 y4 n N M) ∧ Below w.heap.size w w')
  case first =>
    cases v6 with
    | true =>
      have f4 := hr4.free 4
      have c4 := hr4.cell 4 (by have := HL2.out; omega)
      have f5 := hr4.free 5
      have c5 := hr4.cell 5 (by have := HL2.out; omega)
      go_wp2
      go_meet
      case rel =>
        refine ⟨(hrB.other hne _).other hne _, ?_, (B4.setCell (by have := B2.size; exact this) _).setCell (by have := B2.size; exact this) _⟩
        have r := (hr4.set 4 (IntKind.u16.wrap (IntKind.u16.wrap n - IntKind.u16.wrap ↑N) / 256 % 256)).set 5 (IntKind.u16.wrap (IntKind.u16.wrap n - IntKind.u16.wrap ↑N) % 256)
        rw [dif16, show (n - N) % 65536 / 256 % 256 = (n - N) % 65536 / 256 from by omega] at r
        rw [dif16, show (n - N) % 65536 / 256 % 256 = (n - N) % 65536 / 256 from by omega]
        exact r
    | false =>
      have f2 := hr4.free 2
      have c2 := hr4.cell 2 (by have := HL2.out; omega)
      have f3 := hr4.free 3
      have c3 := hr4.cell 3 (by have := HL2.out; omega)
      obtain ⟨V, hV⟩ : ∃ V, V = n % 65536 := ⟨_, rfl⟩
      have V1 : IntKind.u16.wrap n / 256 % 256 = V / 256 := by rw [IntKind.wrap_u16, hV]; omega
      have V2 : n % 256 = V % 256 := by rw [hV]; omega
      have hrE : Row ((w4.setCell ⟨wcE.heap.size, 2, none⟩ (.int .u8 (V / 256))).setCell ⟨wcE.heap.size, 3, none⟩ (.int .u8 (V % 256))) wcE.heap.size (put2 y4 2 V) := (hr4.set 2 _).set 3 _
      have hrB' : Row ((w4.setCell ⟨wcE.heap.size, 2, none⟩ (.int .u8 (V / 256))).setCell ⟨wcE.heap.size, 3, none⟩ (.int .u8 (V % 256))) w.heap.size y4 := (hrB.other hne _).other hne _
      have B4' : Below w.heap.size w ((w4.setCell ⟨wcE.heap.size, 2, none⟩ (.int .u8 (V / 256))).setCell ⟨wcE.heap.size, 3, none⟩ (.int .u8 (V % 256))) := (B4.setCell (by have := B2.size; exact this) _).setCell (by have := B2.size; exact this) _
      have hby2 : Bytes (put2 y4 2 V) := (hb2.set 2 (by omega) (by omega)).set 3 (by omega) (by omega)
      have HL3 : Hid ((put2 y4 2 V).length = N) := by show _ = _; rw [put2_length]; exact HL2.out
      have HM : Hid (model false y4 n N M = put2 (put2 y4 2 V) 10 (65535 - canon (wsum (put2 y4 2 V) M))) := by show _ = _; rw [hV]; rfl
      generalize put2 y4 2 V = zs at *
      clear hV hr4 hrB B4 H6
      go_wp2
      go_loopw [11, 12] (fun s i wr => ∃ (j k : Nat) (S : Int), Hid (j = 2 * k) ∧ j ≤ N ∧ i = .int .i64 j ∧ Hid (S = wacc zs k) ∧ s = .int .u32 S ∧ Row wr wcE.heap.size zs ∧ Row wr w.heap.size y4 ∧ Below w.heap.size w wr)
        (fun _ i _ => N - (intOf i).toNat)
      case atStart => exact ⟨0, 0, 0, rfl, Nat.zero_le _, rfl, rfl, rfl, hrE, hrB', B4'⟩
      case round =>
        clear hrE hrB' B4' f2 c2 f3 c3 V1 V2
        obtain ⟨j, k, S, hjk, hjN, rfl, hS, rfl, hrE, hrB, BE⟩ := hrel
        have hNM' := HNM.out
        have hjk' := hjk.out
        have hS' := hS.out
        have hw := wsum_bd hby2 k
        have hcb := canon_bd _ hw.1
        rw [← wacc_canon hby2 k, ← hS'] at hcb
        obtain ⟨S0, S1⟩ := hcb
        by_cases hlt : j + 1 < N
        · obtain ⟨x0, c0, hx0⟩ := hrE.cell_ex j (by have := HL3.out; omega)
          obtain ⟨x1, c1, hx1⟩ := hrE.cell_ex (j + 1) (by have := HL3.out; omega)
          obtain ⟨p0, p1⟩ := bytes_of hby2 hx0
          obtain ⟨q0, q1⟩ := bytes_of hby2 hx1
          have HX : Hid (x0 * 256 + x1 = word zs k) := by show _ = _; rw [hx0, hx1, hjk']; rfl
          clear hx0 hx1 hNM' hjk' hS' hw
          have i0 : (j : Int) < (N : Int) := by omega
          have i1 : (j : Int) + 1 < (N : Int) := by omega
          have O := or8 x0 x1 p0 p1 q0 q1
          have hwa : Hid (wacc zs (k + 1) = if 65535 < S + (x0 * 256 + x1) then S + (x0 * 256 + x1) - 65535 else S + (x0 * 256 + x1)) := by
            show _ = _; rw [HX.out, hS.out]; rfl
          by_cases hov : 65535 < S + (x0 * 256 + x1)
          · go_wp2_with fail
            go_quiet (fail)
            go_wp2
            go_roundw
            case rel => exact ⟨j + 2, k + 1, S + (x0 * 256 + x1) - 65535, by show _ = _; have := hjk.out; omega, by have := HNM.out; have := hjk.out; omega, by go_num, by show _ = _; rw [hwa.out, if_pos hov], by go_num, hrE.drewN _, hrB.drewN _, below_drewN' BE _⟩
            case measure => simp [intOf]; omega
          · go_wp2_with fail
            go_quiet (fail)
            go_wp2
            go_roundw
            case rel => exact ⟨j + 2, k + 1, S + (x0 * 256 + x1), by show _ = _; have := hjk.out; omega, by have := HNM.out; have := hjk.out; omega, by go_num, by show _ = _; rw [hwa.out, if_neg (by omega)], by go_num, hrE.drewN _, hrB.drewN _, below_drewN' BE _⟩
            case measure => simp [intOf]; omega
        · have hk : k = M := by omega
          have HS2 : Hid (canon (wsum zs M) = S) := by show _ = _; rw [← hk, ← wacc_canon hby2 k]; exact hS'.symm
          clear hNM' hjk' hS' hw hk
          have X1 := not16 S S0 S1
          have X2 := not16' S S0 S1
          have f10 := hrE.free 10
          have c10 := hrE.cell 10 (by have := HL3.out; omega)
          have f11 := hrE.free 11
          have c11 := hrE.cell 11 (by have := HL3.out; omega)
          go_wp2
          go_meet
          case rel =>
            have X3 : bits BinOp.xor IntKind.u16 IntKind.u16.max S = 65535 - S := by rw [← X2, u16_wrap_id S S0 (by omega)]
            rw [X3, HM.out, HS2.out, show (65535 - S) / 256 % 256 = (65535 - S) / 256 from by omega]
            exact ⟨(hrB.other hne _).other hne _, (hrE.set 10 _).set 11 _, (BE.setCell (by have := B2.size; exact this) _).setCell (by have := B2.size; exact this) _⟩
  case rest =>
  clear hr4 B4 hrB
  obtain ⟨hrB, hrE, B4⟩ := hcut
  have HE : Hid ((model v6 y4 n N M).length = N) := by
    show _ = _; unfold model; split <;> simp only [put2_length] <;> exact HL2.out
  have F := fun tp O => finish v6 tp w.heap.size N M n y4 (wc.alloc O) (hrB.alloc _) HL2.out HNM.out N1 N2 hb2 H6.out
  generalize model v6 y4 n N M = es at *
  go_wp2_with fail
  refine (F _ _).mono ?_
  rintro e w5 ⟨rfl, hr5, hg5⟩
  have hT := (hg5.block wc.heap.size (by simp) (by have := hrB.lt; simp; omega)).trans (Go.heap_alloc_new wc _)
  have hr5E : Row w5 _ es := (hrE.alloc _).grown hg5 (by simp; exact fun h => hne h.symm)
  have B5 : Below w.heap.size w w5 := below_gb (B4.alloc B4.size _) hg5 (by have := B4.size; simp; omega) (by simp)
  have t2 : w5.cell? ⟨wc.heap.size, 2, none⟩ = some (.pointer none) := by rw [cell_of_row w5 _ 2 _ _ _ hT]; rfl
  have t3 : w5.cell? ⟨wc.heap.size, 3, none⟩ = some (.nilIface) := by rw [cell_of_row w5 _ 3 _ _ _ hT]; rfl
  have t4 : w5.cell? ⟨wc.heap.size, 4, none⟩ = some (.slice none 0 0) := by rw [cell_of_row w5 _ 4 _ _ _ hT]; rfl
  have t5 : w5.cell? ⟨wc.heap.size, 5, none⟩ = some (.int .u16 0) := by rw [cell_of_row w5 _ 5 _ _ _ hT]; rfl
  have t6 : w5.cell? ⟨wc.heap.size, 6, none⟩ = some (.map none) := by rw [cell_of_row w5 _ 6 _ _ _ hT]; rfl
  clear hT hg5 hrE hrB B4 F H6
  have e1 := fun w => run_neq_map_nil (P := Yba.prog) w 36 _ _ none Yba.underlying36
  have e2 := fun w => run_neq_slice_nil_any (P := Yba.prog) w 22 5 none 0 0 0 0 Yba.underlying22
  go_wp2
  go_loopw [15] (fun i wr => ∃ j : Nat, j ≤ N ∧ i = .int .i64 j ∧ Row wr w.heap.size es ∧ Row wr wcE.heap.size es ∧ Below w.heap.size w wr)
    (fun i _ => N - (intOf i).toNat)
  case atStart => exact ⟨0, Nat.zero_le _, rfl, hr5, hr5E, B5⟩
  case round =>
    clear hr5 hr5E B5 t2 t3 t4 t5 t6 e1 e2
    obtain ⟨j, hjN, rfl, hr5, hr5E, B5⟩ := hrel
    by_cases hlt : j < N
    · obtain ⟨x, c0, hx⟩ := hr5.cell_ex j (by have := HE.out; omega)
      obtain ⟨x', c1, hx'⟩ := hr5E.cell_ex j (by have := HE.out; omega)
      obtain rfl : x' = x := by rw [hx, hx']
      clear hx hx'
      have i0 : (j : Int) < (N : Int) := by omega
      go_wp2_with fail
      go_quiet (fail)
      go_wp2
      go_roundw
      case rel => exact ⟨j + 1, by omega, by go_num, hr5.drewN _, hr5E.drewN _, below_drewN' B5 _⟩
      case measure => simp [intOf]; omega
    · go_wp2
      go_ret
      exact ⟨rfl, B5⟩
end Go.Proofs.Ybulkdrig
