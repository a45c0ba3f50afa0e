/-
  centre.excerpt (function 5): a short value whole; a long one cut ahead of its last rune start among the first 41 bytes.
-/
import Derived.Test.YbulkdrjiMem
namespace Go.Proofs.Ybulkdrji
open Go.RowKit
set_option linter.unusedVariables false

theorem conv_any (src : TypeId) (hsrc : Yba.prog.underlying src = some (.slice 5)) {w : World} {ao : Option Addr} {xs : List Int} (h : BytesAt w ao xs) (n cap : Nat) (hn : xs.length = n) (hnil : ao = none → xs = []) :
    (convert src 9 (.slice ao n cap)).run Yba.prog w = .ok (.string (strOfNums xs)) w := by
  subst hn
  have h1 := conv_bytes h cap hnil
  rw [run_convert_bytes_string w 22 9 5 _ _ cap Yba.underlying22 Yba.underlying5 Yba.underlying9] at h1
  rw [run_convert_bytes_string w src 9 5 _ _ cap hsrc Yba.underlying5 Yba.underlying9]
  exact h1

/-- Does a byte begin a rune? -/
def rs (z : Int) : Bool := bits BinOp.and IntKind.u8 z 192 != 128

set_option maxRecDepth 100000 in
theorem exc_short (a : Option Addr) (n cap : Nat) (xs : List Int) (w : World) (hn : xs.length = n) (hb : BytesAt w a xs) (hnil : a = none → xs = []) (h40 : n ≤ 40) :
    Calls Yba.prog 5 #[.slice a n cap] w fun e w' => e = .returned (.string (strOfNums xs)) ∧ w = w' := by
  have hc := conv_any 24 Yba.underlying24 hb n cap hn hnil
  clear hn hb hnil
  go_enter Yba.func5, Yba.ntmps5
  go_wp2
  go_ret
  exact ⟨rfl, rfl⟩

theorem dots (xs : List Int) : strOfNums xs ++ (⟨#[46, 46, 46]⟩ : ByteArray) = strOfNums (xs ++ [46, 46, 46]) := by
  apply ByteArray.ext
  rw [ByteArray.data_append]
  simp [strOfNums]
theorem ret_str {a b : ByteArray} (h : a = b) : Ending.returned (.string a) = .returned (.string b) := by rw [h]
set_option maxRecDepth 100000 in
set_option maxHeartbeats 1000000 in
theorem exc_long (b o n cap last : Nat) (xs : List Int) (w : World) (hn : xs.length = n) (hc : ∀ j, j < n → w.cell? ⟨b, o + j, none⟩ = some (.int .u8 (xs.getD j 0))) (h40 : 40 < n) (hcap : n ≤ cap) (hl : last ≤ 40)
    (h1 : rs (xs.getD last 0) = true) (h2 : ∀ i, last < i → i ≤ 40 → rs (xs.getD i 0) = false) :
    Calls Yba.prog 5 #[.slice (some ⟨b, o, none⟩) n cap] w fun e w' => e = .returned (.string (strOfNums (xs.take last ++ [46, 46, 46]))) ∧ w = w' := by
  have hsub : BytesAt w (some ⟨b, o, none⟩) (xs.take last) := by
    intro h0
    have h0' : 0 < last := by simp at h0; omega
    refine ⟨_, rfl, block_lt_of_cell (hc 0 (by omega)), fun j hj => ?_⟩
    have hj' : j < last := by simp at hj; omega
    have hadd : (⟨b, o, none⟩ : Addr).add j = ⟨b, o + j, none⟩ := by unfold Addr.add; split <;> simp_all
    rw [hadd, hc j (by omega), List.getD_eq_getElem?_getD, List.getD_eq_getElem?_getD, List.getElem?_take_of_lt hj']
  have hcv := fun cap => conv_any 24 Yba.underlying24 hsub last cap (by simp; omega) (fun h => by simp at h)
  obtain ⟨st, hst⟩ : ∃ s, s = strOfNums (xs.take last) := ⟨_, rfl⟩
  rw [← hst] at hcv
  have hsz : st.size ≤ 40 := by rw [hst, strOfNums_size]; simp; omega
  have HST : Hid (st ++ (⟨#[46, 46, 46]⟩ : ByteArray) = strOfNums (xs.take last ++ [46, 46, 46])) := by show _ = _; rw [hst]; exact dots _
  clear hst
  have HC : Hid (∀ j, j < n → w.cell? ⟨b, o + j, none⟩ = some (.int .u8 (xs.getD j 0))) := hc
  have H1 : Hid (rs (xs.getD last 0) = true ∧ ∀ i, last < i → i ≤ 40 → rs (xs.getD i 0) = false) := ⟨h1, h2⟩
  clear hn hc h1 h2 hsub
  go_enter Yba.func5, Yba.ntmps5
  go_wp2
  go_loop [3] (fun i => ∃ m : Nat, i = .int .i64 m ∧ last ≤ m ∧ m ≤ 40) (fun i => (intOf i).toNat)
  case atStart => exact ⟨40, rfl, hl, Nat.le_refl _⟩
  case round =>
    obtain ⟨m, rfl, hm1, hm2⟩ := hrel
    obtain ⟨z, hz⟩ : ∃ z, z = xs.getD m 0 := ⟨_, rfl⟩
    have cz : w.cell? ⟨b, o + m, none⟩ = some (.int .u8 z) := by rw [hz]; exact HC.out m (by omega)
    have HZ : Hid (z = xs.getD m 0) := hz
    clear hz
    have mn : (m : Int) < (n : Int) := by omega
    by_cases hml : last < m
    · have hr : (bits BinOp.and IntKind.u8 z 192 != 128) = false := by have := H1.out.2 m hml hm2; rw [HZ.out]; exact this
      clear hcv
      go_wp2
      go_round
      case rel => exact ⟨m - 1, by go_num, by omega, by omega⟩
      case measure => simp [intOf]; omega
    · have hme : m = last := by omega
      subst hme
      have hr : (bits BinOp.and IntKind.u8 z 192 != 128) = true := by have := H1.out.1; rw [HZ.out]; exact this
      go_wp2
      go_ret
      exact ⟨ret_str HST.out, rfl⟩
end Go.Proofs.Ybulkdrji
