/-
  The plain law of the map that is filled with the first of each key, and of which one key is struck.
-/
import Derived.Test.YbulkdrigMap
namespace Go.Proofs.Ybulkdrig
set_option linter.unusedVariables false

theorem beq_ba (a b : ByteArray) : (a == b) = true ↔ a = b := MapKept.bytes_beq a b
theorem beq_ba_false (a b : ByteArray) : (a == b) = false ↔ a ≠ b := by
  rw [Ne, ← beq_ba]; simp

/-- No key twice. -/
def Uniq (l : List (ByteArray × Value)) : Prop := (l.map (·.1)).Nodup

theorem fnd_none {s : ByteArray} : ∀ {l : List (ByteArray × Value)} {i : Nat}, fnd s l i = none ↔ ∀ p ∈ l, p.1 ≠ s
  | [], i => by simp [fnd]
  | p :: l, i => by
    unfold fnd
    by_cases h : s = p.1
    · subst h
      rw [if_pos ((beq_ba _ _).2 rfl)]
      simp
    · rw [if_neg (by rw [beq_ba]; exact h), fnd_none]
      simp only [List.mem_cons, forall_eq_or_imp]
      exact ⟨fun q => ⟨fun e => h e.symm, q⟩, fun q => q.2⟩
theorem fnd_get {s : ByteArray} : ∀ {l : List (ByteArray × Value)} {i j : Nat} {v : Value}, fnd s l i = some (j, v) → l[j - i]? = some (s, v) ∧ i ≤ j
  | p :: l, i, j, v, h => by
    unfold fnd at h
    by_cases hb : s = p.1
    · subst hb
      rw [if_pos ((beq_ba _ _).2 rfl)] at h
      simp only [Option.some.injEq, Prod.mk.injEq] at h
      obtain ⟨rfl, rfl⟩ := h
      simp
    · rw [if_neg (by rw [beq_ba]; exact hb)] at h
      obtain ⟨h1, h2⟩ := fnd_get h
      refine ⟨?_, by omega⟩
      rw [show j - i = (j - (i + 1)) + 1 from by omega]
      simpa using h1

theorem lookB_iff {l : List (ByteArray × Value)} {s : ByteArray} : lookB l s = true ↔ ∃ v, (s, v) ∈ l := by
  unfold lookB
  constructor
  · intro h
    obtain ⟨⟨j, v⟩, hq⟩ := Option.isSome_iff_exists.1 h
    exact ⟨v, List.mem_of_getElem? (fnd_get hq).1⟩
  · rintro ⟨v, hv⟩
    cases hq : fnd s l 0 with
    | none => exact absurd rfl (fnd_none.1 hq _ hv)
    | some q => rfl
theorem lookB_false {l : List (ByteArray × Value)} {s : ByteArray} : lookB l s = false ↔ ∀ p ∈ l, p.1 ≠ s := by
  unfold lookB
  rw [Option.isSome_eq_false_iff, Option.isNone_iff_eq_none, fnd_none]

theorem uniq_val {l : List (ByteArray × Value)} (h : Uniq l) {s : ByteArray} {u v : Value} (hu : (s, u) ∈ l) (hv : (s, v) ∈ l) : u = v := by
  induction l with
  | nil => simp at hu
  | cons p l ih =>
    unfold Uniq at h
    simp only [List.map_cons, List.nodup_cons] at h
    obtain ⟨h1, h2⟩ := h
    rcases List.mem_cons.1 hu with hu' | hu'
    · rcases List.mem_cons.1 hv with hv' | hv'
      · rw [← hu'] at hv'; simp at hv'; exact hv'.symm
      · exact absurd (List.mem_map.2 ⟨_, hv', by rw [← hu']⟩) h1
    · rcases List.mem_cons.1 hv with hv' | hv'
      · exact absurd (List.mem_map.2 ⟨_, hu', by rw [← hv']⟩) h1
      · exact ih h2 hu' hv'
theorem lookV_of {l : List (ByteArray × Value)} (h : Uniq l) {s : ByteArray} {v : Value} (hv : (s, v) ∈ l) : lookV l s = v := by
  unfold lookV
  cases hq : fnd s l 0 with
  | none => exact absurd rfl (fnd_none.1 hq _ hv)
  | some q =>
    obtain ⟨j, u⟩ := q
    exact uniq_val h (List.mem_of_getElem? (fnd_get hq).1) hv

theorem struck_uniq {l : List (ByteArray × Value)} (h : Uniq l) (s : ByteArray) : Uniq (struck l s) := by
  unfold struck
  split
  · unfold Uniq at *
    rw [map_eraseIdx']
    exact h.sublist (List.eraseIdx_sublist _ _)
  · exact h
theorem struck_len (l : List (ByteArray × Value)) (s : ByteArray) : (struck l s).length = l.length - (if lookB l s = true then 1 else 0) := by
  unfold struck lookB
  cases hq : fnd s l 0 with
  | none => simp
  | some q =>
    obtain ⟨j, v⟩ := q
    have := fnd_some hq
    simp [List.length_eraseIdx, show j < l.length from by omega]
theorem mem_erase_of_nodup {α : Type} {β : Type} (f : α → β) : ∀ {l : List α} {i : Nat} {x : α}, (l.map f).Nodup → l[i]? = some x → ∀ y, y ∈ l.eraseIdx i ↔ (y ∈ l ∧ f y ≠ f x)
  | [], i, x, h, hx, y => by simp at hx
  | a :: l, 0, x, h, hx, y => by
    simp only [List.getElem?_cons_zero, Option.some.injEq] at hx
    subst hx
    simp only [List.map_cons, List.nodup_cons] at h
    simp only [List.eraseIdx_cons_zero, List.mem_cons]
    constructor
    · intro hy
      exact ⟨.inr hy, fun e => h.1 (by rw [← e]; exact List.mem_map.2 ⟨y, hy, rfl⟩)⟩
    · rintro ⟨rfl | hy, hne⟩
      · exact absurd rfl hne
      · exact hy
  | a :: l, i + 1, x, h, hx, y => by
    simp only [List.map_cons, List.nodup_cons] at h
    have hx' : l[i]? = some x := by simpa using hx
    have ih := mem_erase_of_nodup f h.2 hx' y
    simp only [List.eraseIdx_cons_succ, List.mem_cons, ih]
    have hax : f a ≠ f x := fun e => h.1 (by rw [e]; exact List.mem_map.2 ⟨x, List.mem_of_getElem? hx', rfl⟩)
    constructor
    · rintro (rfl | ⟨h1, h2⟩)
      · exact ⟨.inl rfl, hax⟩
      · exact ⟨.inr h1, h2⟩
    · rintro ⟨rfl | h1, h2⟩
      · exact .inl rfl
      · exact .inr ⟨h1, h2⟩
theorem struck_mem {l : List (ByteArray × Value)} (h : Uniq l) (s : ByteArray) (p : ByteArray × Value) : p ∈ struck l s ↔ p ∈ l ∧ p.1 ≠ s := by
  unfold struck
  cases hq : fnd s l 0 with
  | none =>
    have := fnd_none.1 hq
    exact ⟨fun hp => ⟨hp, this p hp⟩, fun hp => hp.1⟩
  | some q =>
    obtain ⟨j, v⟩ := q
    exact mem_erase_of_nodup (f := fun x : ByteArray × Value => x.1) h (by simpa using (fnd_get hq).1) p

/-- The first place of each key among the first k. -/
def E (ks : List ByteArray) : Nat → List (ByteArray × Nat)
  | 0 => []
  | k + 1 => if (E ks k).any (fun p => ks.getD k ByteArray.empty == p.1) = true then E ks k else E ks k ++ [(ks.getD k ByteArray.empty, k)]

theorem E_any (ks : List ByteArray) (k : Nat) (s : ByteArray) : (E ks k).any (fun p => s == p.1) = true ↔ ∃ j, (s, j) ∈ E ks k := by
  simp only [List.any_eq_true]
  constructor
  · rintro ⟨p, hp, h⟩
    rw [beq_ba] at h
    subst h
    exact ⟨p.2, hp⟩
  · rintro ⟨j, hj⟩
    exact ⟨_, hj, (beq_ba _ _).2 rfl⟩

theorem E_mem (ks : List ByteArray) : ∀ (k : Nat) (s : ByteArray) (j : Nat), (s, j) ∈ E ks k ↔ j < k ∧ ks.getD j ByteArray.empty = s ∧ ∀ i, i < j → ks.getD i ByteArray.empty ≠ s
  | 0, s, j => by simp [E]
  | k + 1, s, j => by
    have ih := E_mem ks k
    have hex : ∀ t, (∃ j, (t, j) ∈ E ks k) ↔ ∃ j, j < k ∧ ks.getD j ByteArray.empty = t := by
      intro t
      constructor
      · rintro ⟨j, hj⟩
        have := (ih t j).1 hj
        exact ⟨j, this.1, this.2.1⟩
      · rintro ⟨j, hj, e⟩
        -- the least such j
        have : ∃ m, m < k ∧ ks.getD m ByteArray.empty = t ∧ ∀ i, i < m → ks.getD i ByteArray.empty ≠ t := by
          induction j using Nat.strongRecOn with
          | ind j ihj =>
            by_cases hl : ∃ i, i < j ∧ ks.getD i ByteArray.empty = t
            · obtain ⟨i, hi, ei⟩ := hl
              exact ihj i hi (by omega) ei
            · exact ⟨j, hj, e, fun i hi ei => hl ⟨i, hi, ei⟩⟩
        obtain ⟨m, h1, h2, h3⟩ := this
        exact ⟨m, (ih t m).2 ⟨h1, h2, h3⟩⟩
    unfold E
    by_cases ha : (E ks k).any (fun p => ks.getD k ByteArray.empty == p.1) = true
    · rw [if_pos ha, ih]
      obtain ⟨i, hi, ei⟩ := (hex _).1 ((E_any ks k _).1 ha)
      constructor
      · rintro ⟨h1, h2, h3⟩
        exact ⟨by omega, h2, h3⟩
      · rintro ⟨h1, h2, h3⟩
        refine ⟨?_, h2, h3⟩
        by_cases hjk : j = k
        · subst hjk
          exact absurd (ei.trans h2) (h3 i hi)
        · omega
    · rw [if_neg ha]
      have hno : ∀ i, i < k → ks.getD i ByteArray.empty ≠ ks.getD k ByteArray.empty := fun i hi e => ha ((E_any ks k _).2 ((hex _).2 ⟨i, hi, e⟩))
      simp only [List.mem_append, List.mem_singleton, Prod.mk.injEq, ih]
      constructor
      · rintro (⟨h1, h2, h3⟩ | ⟨rfl, rfl⟩)
        · exact ⟨by omega, h2, h3⟩
        · exact ⟨by omega, rfl, hno⟩
      · rintro ⟨h1, h2, h3⟩
        by_cases hjk : j = k
        · subst hjk; exact .inr ⟨h2.symm, rfl⟩
        · exact .inl ⟨by omega, h2, h3⟩

/-- The entries, the values by q. -/
def ents (ks : List ByteArray) (q : Nat → Value) (k : Nat) : List (ByteArray × Value) := (E ks k).map fun p => (p.1, q p.2)

theorem ents_len (ks : List ByteArray) (q : Nat → Value) (k : Nat) : (ents ks q k).length = (E ks k).length := by simp [ents]
theorem ents_uniq (ks : List ByteArray) (q : Nat → Value) : ∀ k, Uniq (ents ks q k)
  | 0 => by simp [Uniq, ents, E]
  | k + 1 => by
    have ih := ents_uniq ks q k
    unfold Uniq ents at *
    unfold E
    by_cases ha : (E ks k).any (fun p => ks.getD k ByteArray.empty == p.1) = true
    · rw [if_pos ha]; exact ih
    · rw [if_neg ha]
      simp only [List.map_append, List.map_map] at *
      rw [List.nodup_append]
      refine ⟨ih, by simp, ?_⟩
      intro a h1 b h2 e
      simp only [List.map_cons, List.map_nil, List.mem_singleton, Function.comp] at h2
      obtain ⟨p, hp, rfl⟩ := List.mem_map.1 h1
      apply ha
      rw [E_any]
      refine ⟨p.2, ?_⟩
      simp only [Function.comp] at e
      rw [← h2, ← e]
      exact hp
theorem ents_look (ks : List ByteArray) (q : Nat → Value) (k : Nat) (s : ByteArray) : lookB (ents ks q k) s = (E ks k).any (fun p => s == p.1) := by
  rw [Bool.eq_iff_iff, lookB_iff, E_any]
  constructor
  · rintro ⟨v, hv⟩
    obtain ⟨p, hp, e⟩ := List.mem_map.1 hv
    simp only [Prod.mk.injEq] at e
    obtain ⟨rfl, _⟩ := e
    exact ⟨p.2, hp⟩
  · rintro ⟨j, hj⟩
    exact ⟨q j, List.mem_map.2 ⟨_, hj, rfl⟩⟩
/-- The values may be told anew at places that are not yet met. -/
theorem ents_congr (ks : List ByteArray) (q q' : Nat → Value) (k : Nat) (h : ∀ j, j < k → q j = q' j) : ents ks q k = ents ks q' k := by
  unfold ents
  apply List.map_congr_left
  rintro ⟨s, j⟩ hp
  rw [h j ((E_mem ks k s j).1 hp).1]
theorem ents_skip (ks : List ByteArray) (q : Nat → Value) (k : Nat) (h : lookB (ents ks q k) (ks.getD k ByteArray.empty) = true) : ents ks q (k + 1) = ents ks q k := by
  rw [ents_look] at h
  unfold ents
  rw [E, if_pos h]
theorem ents_add (ks : List ByteArray) (q : Nat → Value) (k : Nat) (h : lookB (ents ks q k) (ks.getD k ByteArray.empty) = false) : ents ks q (k + 1) = ents ks q k ++ [(ks.getD k ByteArray.empty, q k)] := by
  rw [ents_look] at h
  unfold ents
  rw [E, if_neg (by rw [h]; simp)]
  simp

end Go.Proofs.Ybulkdrig
