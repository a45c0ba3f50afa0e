/-
  The ones' complement sum, as plain arithmetic: no Go in sight.
-/
namespace Go.Proofs.Ybulkdrig
set_option linter.unusedVariables false

/-- The k-th 16-bit word. -/
def word (zs : List Int) (k : Nat) : Int := zs.getD (2 * k) 0 * 256 + zs.getD (2 * k + 1) 0
/-- The sum of the first k words. -/
def wsum (zs : List Int) : Nat → Int
  | 0 => 0
  | k + 1 => wsum zs k + word zs k
/-- The law's own sum, by end-around subtraction. -/
def wacc (zs : List Int) : Nat → Int
  | 0 => 0
  | k + 1 => if 65535 < wacc zs k + word zs k then wacc zs k + word zs k - 65535 else wacc zs k + word zs k
/-- What folding comes to. -/
def canon (s : Int) : Int := if s = 0 then 0 else (s - 1) % 65535 + 1

def Bytes (zs : List Int) : Prop := ∀ z ∈ zs, 0 ≤ z ∧ z ≤ 255
theorem Bytes.at {zs : List Int} (h : Bytes zs) (j : Nat) : 0 ≤ zs.getD j 0 ∧ zs.getD j 0 ≤ 255 := by
  by_cases hj : j < zs.length
  · have : zs.getD j 0 ∈ zs := by rw [List.getD_eq_getElem?_getD, List.getElem?_eq_getElem hj]; exact List.getElem_mem hj
    exact h _ this
  · rw [List.getD_eq_getElem?_getD, List.getElem?_eq_none (by omega)]; simp
theorem Bytes.set {zs : List Int} (h : Bytes zs) (j : Nat) {v : Int} (h0 : 0 ≤ v) (h1 : v ≤ 255) : Bytes (zs.set j v) := by
  intro z hz
  rcases List.mem_or_eq_of_mem_set hz with h2 | h2
  · exact h z h2
  · subst h2; exact ⟨h0, h1⟩

theorem word_bd {zs : List Int} (h : Bytes zs) (k : Nat) : 0 ≤ word zs k ∧ word zs k ≤ 65535 := by
  unfold word
  have := h.at (2 * k); have := h.at (2 * k + 1); omega
theorem wsum_bd {zs : List Int} (h : Bytes zs) (k : Nat) : 0 ≤ wsum zs k ∧ wsum zs k ≤ 65535 * (k : Int) := by
  induction k with
  | zero => simp [wsum]
  | succ k ih =>
    have := word_bd h k
    simp only [wsum]
    omega
theorem canon_bd (s : Int) (h : 0 ≤ s) : 0 ≤ canon s ∧ canon s ≤ 65535 := by unfold canon; split <;> omega
theorem canon_small (s : Int) (h : 0 ≤ s) (h1 : s ≤ 65535) : canon s = s := by unfold canon; split <;> omega
theorem canon_fold (s : Int) (h : 65535 < s) : canon (s % 65536 + s / 65536) = canon s := by
  unfold canon
  rw [if_neg (by omega), if_neg (by omega)]
  omega
theorem canon_add (a b : Int) (ha : 0 ≤ a) (hb : 0 ≤ b) (hb1 : b ≤ 65535) : (if 65535 < canon a + b then canon a + b - 65535 else canon a + b) = canon (a + b) := by
  unfold canon
  by_cases h : a = 0
  · subst h
    simp
    by_cases hb0 : b = 0
    · subst hb0; simp
    · rw [if_neg (by omega), if_neg hb0]; omega
  · rw [if_neg h, if_neg (show a + b ≠ 0 by omega)]
    split <;> omega
theorem wacc_canon {zs : List Int} (h : Bytes zs) (k : Nat) : wacc zs k = canon (wsum zs k) := by
  induction k with
  | zero => simp [wacc, wsum, canon]
  | succ k ih =>
    have hw := word_bd h k
    have hs := wsum_bd h k
    simp only [wacc, wsum]
    rw [ih]
    exact canon_add _ _ hs.1 hw.1 hw.2
end Go.Proofs.Ybulkdrig
