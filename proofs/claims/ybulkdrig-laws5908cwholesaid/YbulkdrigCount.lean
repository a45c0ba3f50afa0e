/-
  The plain law of the last loop: what is found at each key behind the release, and how many entries are left.
-/
import Derived.Test.YbulkdrigTid
namespace Go.Proofs.Ybulkdrig
set_option linter.unusedVariables false

/-- Is the struck key among the first n keys? -/
def gone (T : Option (List Int)) (ks : List ByteArray) (n : Nat) : Nat := if T.isSome = true ∧ (E ks n).any (fun p => tidStr T == p.1) = true then 1 else 0

theorem left_hit {T : Option (List Int)} (hT : T.isSome = true) (ks : List ByteArray) (q : Nat → Value) (k : Nat) : lookB (left T (ents ks q k)) (tidStr T) = false := by
  cases T with
  | none => simp at hT
  | some bs =>
    rw [lookB_false]
    intro p hp
    exact ((struck_mem (ents_uniq ks q k) _ p).1 hp).2

theorem left_else {T : Option (List Int)} (ks : List ByteArray) (q : Nat → Value) (k : Nat) {s : ByteArray} {fi : Nat} (hm : (s, fi) ∈ E ks k) (hn : T.isSome = true → s ≠ tidStr T) :
    lookB (left T (ents ks q k)) s = true ∧ lookV (left T (ents ks q k)) s = q fi := by
  have h1 : (s, q fi) ∈ ents ks q k := List.mem_map.2 ⟨_, hm, rfl⟩
  cases T with
  | none => exact ⟨lookB_iff.2 ⟨_, h1⟩, lookV_of (ents_uniq ks q k) h1⟩
  | some bs =>
    have h2 : (s, q fi) ∈ left (some bs) (ents ks q k) := (struck_mem (ents_uniq ks q k) _ _).2 ⟨h1, hn rfl⟩
    exact ⟨lookB_iff.2 ⟨_, h2⟩, lookV_of (struck_uniq (ents_uniq ks q k) _) h2⟩

theorem left_len (T : Option (List Int)) (ks : List ByteArray) (q : Nat → Value) (k : Nat) : ((left T (ents ks q k)).length : Int) = ((E ks k).length : Int) - (gone T ks k : Int) := by
  cases T with
  | none => simp [left, gone, ents_len]
  | some bs =>
    unfold left gone
    simp only [struck_len, ents_len, ents_look, Option.isSome_some, true_and, tidStr]
    by_cases h : (E ks k).any (fun p => strOfNums bs == p.1) = true
    · rw [if_pos h]
      obtain ⟨j, hj⟩ := (E_any ks k _).1 h
      have : 0 < (E ks k).length := List.length_pos_of_mem hj
      omega
    · rw [if_neg h]
      simp

/-- The first place of the n-th key. -/
def First (ks : List ByteArray) (n fi : Nat) : Prop := fi ≤ n ∧ ks.getD fi ByteArray.empty = ks.getD n ByteArray.empty ∧ ∀ i, i < fi → ks.getD i ByteArray.empty ≠ ks.getD n ByteArray.empty

theorem First.mem {ks : List ByteArray} {n fi k : Nat} (h : First ks n fi) (hn : n < k) : (ks.getD n ByteArray.empty, fi) ∈ E ks k :=
  (E_mem ks k _ fi).2 ⟨by have := h.1; omega, h.2.1, h.2.2⟩
theorem First.any {ks : List ByteArray} {n fi : Nat} (h : First ks n fi) : (E ks n).any (fun p => ks.getD n ByteArray.empty == p.1) = decide (fi ≠ n) := by
  rw [Bool.eq_iff_iff, E_any]
  simp only [decide_eq_true_eq]
  constructor
  · rintro ⟨j, hj⟩ e
    obtain ⟨h1, h2, _⟩ := (E_mem ks n _ j).1 hj
    exact h.2.2 j (by omega) h2
  · intro hne
    exact ⟨fi, (E_mem ks n _ fi).2 ⟨by have := h.1; omega, h.2.1, h.2.2⟩⟩
theorem First.len_new {ks : List ByteArray} {n fi : Nat} (h : First ks n fi) (e : fi = n) : (E ks (n + 1)).length = (E ks n).length + 1 := by
  rw [E, if_neg (by rw [h.any]; simp [e])]
  simp
theorem First.len_old {ks : List ByteArray} {n fi : Nat} (h : First ks n fi) (e : fi ≠ n) : (E ks (n + 1)).length = (E ks n).length := by
  rw [E, if_pos (by rw [h.any]; simp [e])]
theorem any_succ {ks : List ByteArray} {n fi : Nat} (h : First ks n fi) (s : ByteArray) : (E ks (n + 1)).any (fun p => s == p.1) = ((E ks n).any (fun p => s == p.1) || (decide (fi = n) && s == ks.getD n ByteArray.empty)) := by
  by_cases e : fi = n
  · rw [E, if_neg (by rw [h.any]; simp [e])]
    simp [e]
  · rw [E, if_pos (by rw [h.any]; simp [e])]
    simp [e]
/-- A key that is struck and met for the first time is counted. -/
theorem First.gone_new {ks : List ByteArray} {n fi : Nat} {T : Option (List Int)} (h : First ks n fi) (hT : T.isSome = true) (hs : ks.getD n ByteArray.empty = tidStr T) (e : fi = n) : gone T ks n = 0 ∧ gone T ks (n + 1) = 1 := by
  have h0 : (E ks n).any (fun p => tidStr T == p.1) = false := by rw [← hs, h.any]; simp [e]
  unfold gone
  rw [any_succ h, h0]
  constructor
  · simp
  · rw [if_pos ⟨hT, by rw [hs]; simp [e]; exact (beq_ba _ _).2 rfl⟩]
theorem First.gone_old {ks : List ByteArray} {n fi : Nat} {T : Option (List Int)} (h : First ks n fi) (e : fi ≠ n) : gone T ks (n + 1) = gone T ks n := by
  have h2 : (E ks (n + 1)).any (fun p => tidStr T == p.1) = (E ks n).any (fun p => tidStr T == p.1) := by rw [any_succ h]; simp [e]
  unfold gone
  rw [h2]
theorem First.gone_other {ks : List ByteArray} {n fi : Nat} {T : Option (List Int)} (h : First ks n fi) (hn : T.isSome = true → ks.getD n ByteArray.empty ≠ tidStr T) : gone T ks (n + 1) = gone T ks n := by
  unfold gone
  by_cases hT : T.isSome = true
  · have : (tidStr T == ks.getD n ByteArray.empty) = false := (beq_ba_false _ _).2 (fun e => hn hT e.symm)
    have h2 : (E ks (n + 1)).any (fun p => tidStr T == p.1) = (E ks n).any (fun p => tidStr T == p.1) := by rw [any_succ h, this]; simp
    rw [h2]
  · rw [if_neg (fun h => hT h.1), if_neg (fun h => hT h.1)]
theorem gone_le (T : Option (List Int)) (ks : List ByteArray) (n : Nat) : gone T ks n ≤ 1 := by unfold gone; split <;> omega
theorem E_len_le (ks : List ByteArray) : ∀ n, (E ks n).length ≤ n
  | 0 => by simp [E]
  | n + 1 => by
    have := E_len_le ks n
    rw [E]
    split
    · omega
    · simp; exact this

theorem toList_same (a : ByteArray) : (a.toList == a.toList) = true := by simp
theorem toList_ne {a b : ByteArray} (h : a ≠ b) : (a.toList == b.toList) = false := by
  rw [beq_eq_false_iff_ne]
  intro e
  apply h
  have h1 : a.data.toList = b.data.toList := by rw [← ByteArray.toList_eq, ← ByteArray.toList_eq, e]
  obtain ⟨⟨x⟩⟩ := a
  obtain ⟨⟨y⟩⟩ := b
  simp at h1
  rw [h1]
end Go.Proofs.Ybulkdrig
