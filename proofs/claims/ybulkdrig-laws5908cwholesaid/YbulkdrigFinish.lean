/-
  (*File).finishIPHeader (function 6): what it leaves of the header, in both versions.
-/
import Derived.Test.YbulkdrigBin
import Derived.Test.YbulkdrigSum
import Derived.Test.YbulkdrigBits
import Derived.Deep.RegionWith
import Derived.Deep.DeepCutAuto
namespace Go.Proofs.Ybulkdrig
open Go.RowKit
set_option linter.unusedVariables false

theorem wrap_dif (n : Int) (N : Nat) : IntKind.u16.wrap (wrap64 (n - N)) = (n - N) % 65536 := by
  rw [IntKind.wrap_u16]; unfold wrap64; omega

theorem Row.cell_ex {w : World} {g : Nat} {zs : List Int} (h : Row w g zs) (j : Nat) (hj : j < zs.length) : ∃ z, w.cell? ⟨g, j, none⟩ = some (.int .u8 z) ∧ z = zs.getD j 0 := ⟨_, h.cell j hj, rfl⟩


theorem gb_undrew {a w : World} {row : Option Nat} (h : a.drew.grownBy w row) : a.grownBy w row := ⟨h.os, h.tape, h.output, h.size, h.block⟩
theorem gb_weak {a w : World} (g : Nat) (h : a.grownBy w none) : a.grownBy w (some g) := ⟨h.os, h.tape, h.output, h.size, fun k hk _ => h.block k hk (by simp)⟩

set_option maxHeartbeats 1000000 in
theorem finish4 (tp : Value) (g N M : Nat) (n : Int) (zs : List Int) (w : World) (hr : Row w g zs) (hN : zs.length = N) (hNM : N = 2 * M) (h12 : 12 ≤ N) (hM : N ≤ 65536) (hby : Bytes zs) (h6 : zs.getD 0 0 / 16 ≠ 6) :
    Calls Yba.prog 6 #[tp, .slice (some ⟨g, 0, none⟩) N N, .int .i64 n] w fun e w' => e = .returned (.tuple #[]) ∧ Row w' g (put2 (put2 zs 2 (n % 65536)) 10 (65535 - canon (wsum (put2 zs 2 (n % 65536)) M))) ∧ w.grownBy w' (some g) := by
  obtain ⟨z0, c0, hz0⟩ := hr.cell_ex 0 (by omega)
  obtain ⟨V, hV⟩ : ∃ V, V = n % 65536 := ⟨_, rfl⟩
  have E2 : IntKind.u16.wrap n = V := by rw [IntKind.wrap_u16, hV]
  have hV0 : 0 ≤ V := by omega
  have hV1 : V < 65536 := by omega
  rw [← hV]
  have hP := put16 g 2 (N - 2) (N - 2) V zs w.drew hr.drew (by omega) (by omega) (by omega) (by omega)
  have hby2 : Bytes (put2 zs 2 V) := (hby.set 2 (by omega) (by omega)).set 3 (by omega) (by omega)
  have hl2 : (put2 zs 2 V).length = N := by rw [put2_length, hN]
  generalize put2 zs 2 V = ys at *
  have hb : (z0 / 16 == 6) = false := by rw [hz0]; simpa using h6
  have n4 : (2 : Int) ≤ (N : Int) := by omega
  have n4' : N ≠ 2 := by omega
  have HNM : Hid (N = 2 * M) := hNM
  have HL : Hid (ys.length = N) := hl2
  clear h6 hz0 hV hNM hN hl2 hby hr
  go_enter Yba.func6, Yba.ntmps6
  go_wp2_with fail
  go_region_with (go_at_call 14; refine hP.mono ?_; rintro e w2 ⟨rfl, hrow, hg⟩)
  clear hP c0 E2 hV0 hV1
  have hg := gb_undrew hg
  go_wp2
  go_loopw [6, 7] (fun s i wr => ∃ (j k : Nat) (S : Int), Hid (j = 2 * k) ∧ j ≤ N ∧ i = .int .i64 j ∧ Hid (S = wsum ys k) ∧ s = .int .u32 S ∧ Row wr g ys ∧ w.grownBy wr (some g))
    (fun _ i _ => N - (intOf i).toNat)
  case atStart => exact ⟨0, 0, 0, rfl, Nat.zero_le _, rfl, rfl, rfl, hrow, hg⟩
  case round =>
    clear hrow hg
    obtain ⟨j, k, S, hjk, hjN, rfl, hS, rfl, hrow, hg⟩ := hrel
    have hjk' := hjk.out
    have hNM' := HNM.out
    have hS' := hS.out
    have hw := wsum_bd hby2 k
    have S0 : 0 ≤ S := by omega
    have S1 : S ≤ 2147450880 := by omega
    by_cases hlt : j < N
    · have hQ := get16 g j (N - j) (N - j) ys wr.drew hrow.drew (by omega) (by have := HL.out; omega) hby2
      obtain ⟨X, hX⟩ : ∃ X, X = ys.getD j 0 * 256 + ys.getD (j + 1) 0 := ⟨_, rfl⟩
      rw [← hX] at hQ
      have X0 : 0 ≤ X ∧ X ≤ 65535 ∧ Hid (X = word ys k) := by
        rw [hX, hjk']; exact ⟨(word_bd hby2 k).1, (word_bd hby2 k).2, rfl⟩
      obtain ⟨X0, X1, HX⟩ := X0
      clear hjk' hNM' hS' hw hX
      have hne : N ≠ j := by omega
      go_wp2_with fail
      go_region_with (go_at_call 15; refine hQ.mono ?_; rintro e w3 ⟨rfl, hg3⟩)
      have hrow3 := Row.grown hrow.drew hg3 (by simp)
      have hg4 := gb_trans hg (gb_weak g (gb_undrew hg3))
      clear hrow hg hQ hg3
      go_wp2
      go_roundw
      case rel => exact ⟨j + 2, k + 1, S + X, by show _ = _; have := hjk.out; omega, by have := HNM.out; have := hjk.out; omega, by go_num, by show _ = _; rw [hS.out, HX.out]; rfl, by go_num, hrow3, hg4⟩
      case measure => simp [intOf]; omega
    · have hj : j = N := by omega
      have hSN : Hid (canon S = canon (wsum ys M)) := by
        show _ = _
        have : k = M := by omega
        rw [hS', this]
      clear hjk' hNM' hS' hw
      go_wp2
      go_loop [6] (fun t => ∃ s : Int, 0 ≤ s ∧ s ≤ 4294967295 ∧ Hid (canon s = canon (wsum ys M)) ∧ t = .int .u32 s) (fun t => (intOf t).toNat)
      case atStart => exact ⟨S, S0, by omega, hSN, rfl⟩
      case round =>
        obtain ⟨s, s0, s1, hs, rfl⟩ := hrel
        by_cases hbig : 65535 < s
        · have L := low16 s s0 s1
          go_wp2
          go_round
          case rel => exact ⟨s % 65536 + s / 65536, by omega, by omega, by show _ = _; rw [← hs.out]; exact canon_fold s hbig, by go_num⟩
          case measure => simp [intOf]; omega
        · have R : Hid (canon (wsum ys M) = s) := by show _ = _; rw [← hs.out]; exact canon_small s s0 (by omega)
          have hP := put16 g 10 (N - 10) (N - 10) (65535 - s) ys wr.drew hrow.drew (by omega) (by have := HL.out; omega) (by omega) (by omega)
          have n10 : (10 : Int) ≤ (N : Int) := by omega
          have n10' : N ≠ 10 := by omega
          have X1 := not16 s s0 (by omega)
          go_wp2_with fail
          go_region_with (go_at_call 14; (try rw [X1]); refine hP.mono ?_; rintro e w3 ⟨rfl, hrow3, hg3⟩)
          have hg4 := gb_trans hg (gb_undrew hg3)
          clear hP hg3
          go_wp2
          go_end0
          exact ⟨rfl, by rw [R.out]; exact hrow3, hg4⟩

set_option maxHeartbeats 400000 in
theorem finish6 (tp : Value) (g N : Nat) (n : Int) (zs : List Int) (w : World) (hr : Row w g zs) (hN : zs.length = N) (h12 : 12 ≤ N) (hM : N ≤ 65536) (h6 : zs.getD 0 0 / 16 = 6) :
    Calls Yba.prog 6 #[tp, .slice (some ⟨g, 0, none⟩) N N, .int .i64 n] w fun e w' => e = .returned (.tuple #[]) ∧ Row w' g (put2 zs 4 ((n - N) % 65536)) ∧ w.grownBy w' (some g) := by
  obtain ⟨z0, c0, hz0⟩ := hr.cell_ex 0 (by omega)
  have E := wrap_dif n N
  have hP := put16 g 4 (N - 4) (N - 4) ((n - N) % 65536) zs w.drew hr.drew (by omega) (by omega) (by omega) (by omega)
  have hb : (z0 / 16 == 6) = true := by rw [hz0, h6]; rfl
  have n4 : (4 : Int) ≤ (N : Int) := by omega
  have n4' : N ≠ 4 := by omega
  have E2 : IntKind.u16.wrap (IntKind.i64.wrap (n - N)) = (n - N) % 65536 := by rw [IntKind.wrap_u16, IntKind.wrap_i64]; omega
  clear h6 hz0
  go_enter Yba.func6, Yba.ntmps6
  go_wp2_with fail
  go_region_with (go_at_call 14; refine hP.mono ?_; rintro e w2 ⟨rfl, hrow, hg⟩)
  go_wp2
  exact bodyPost_ret (results_none rfl _ _ _) rfl ⟨rfl, hrow, gb_undrew hg⟩
end Go.Proofs.Ybulkdrig
