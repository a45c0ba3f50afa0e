/-
  LawS5910CWhole (function 4): the walk.
-/
import Derived.Test.YbulkdrjiEqual
namespace Go.Proofs.Ybulkdrji
open Go.RowKit
set_option linter.unusedVariables false

/-- The four blocks of the law's own locals: s, o, sWant, oWant. -/
structure Four (w : World) (G : Nat) (a0 a1 a4 a5 : ByteArray) (p q pw qw : Option Addr) (x : Int) (y : Bool) (x2 : Int) (y2 : Bool) : Prop where
  s : w.heap[G]? = some (.cells #[.string a0, .string a1, .pointer p, .pointer pw] 31 (0, 0))
  o : w.heap[G + 1]? = some (.cells #[.string a4, .string a5, .pointer q, .pointer qw] 31 (0, 0))
  sw : w.heap[G + 1 + 1]? = some (.cells #[.int .u16 x, .bool y] 33 (0, 0))
  ow : w.heap[G + 1 + 1 + 1]? = some (.cells #[.int .u16 x2, .bool y2] 33 (0, 0))

theorem Four.mk4 (w : World) (a0 a1 a4 a5 : ByteArray) (p q pw qw : Option Addr) : Four ((((w.alloc (.cells #[.string a0, .string a1, .pointer p, .pointer pw] 31)).alloc (.cells #[.string a4, .string a5, .pointer q, .pointer qw] 31)).alloc (.cells #[.int .u16 0, .bool false] 33)).alloc (.cells #[.int .u16 0, .bool false] 33)) w.heap.size a0 a1 a4 a5 p q pw qw 0 false 0 false := by
  have z : ∀ (x : World) (o : Obj), (x.alloc o).heap.size = x.heap.size + 1 := fun x o => by simp
  refine ⟨?_, ?_, ?_, ?_⟩
  · rw [Below.heap_alloc _ _ _ (by first | (simp; done) | (simp; omega)), Below.heap_alloc _ _ _ (by first | (simp; done) | (simp; omega)), Below.heap_alloc _ _ _ (by first | (simp; done) | (simp; omega))]
    exact heap_alloc_new w _
  · rw [Below.heap_alloc _ _ _ (by first | (simp; done) | (simp; omega)), Below.heap_alloc _ _ _ (by first | (simp; done) | (simp; omega)), ← z w (.cells #[.string a0, .string a1, .pointer p, .pointer pw] 31)]
    exact heap_alloc_new _ _
  · rw [Below.heap_alloc _ _ _ (by first | (simp; done) | (simp; omega)), ← z w (.cells #[.string a0, .string a1, .pointer p, .pointer pw] 31), ← z _ (.cells #[.string a4, .string a5, .pointer q, .pointer qw] 31)]
    exact heap_alloc_new _ _
  · rw [← z w (.cells #[.string a0, .string a1, .pointer p, .pointer pw] 31), ← z _ (.cells #[.string a4, .string a5, .pointer q, .pointer qw] 31), ← z _ (.cells #[.int .u16 0, .bool false] 33)]
    exact heap_alloc_new _ _

section
variable {w : World} {G : Nat} {a0 a1 a4 a5 : ByteArray} {p q pw qw : Option Addr} {x : Int} {y : Bool} {x2 : Int} {y2 : Bool}
theorem Four.setS (h : Four w G a0 a1 a4 a5 p q pw qw x y x2 y2) (u : Int) (k : Bool) : Four ((w.setCell ⟨G + 1 + 1, 0, none⟩ (.int .u16 u)).setCell ⟨G + 1 + 1, 1, none⟩ (.bool k)) G a0 a1 a4 a5 p q pw qw u k x2 y2 := by
  refine ⟨?_, ?_, ?_, ?_⟩
  · rw [heap_setCell_other _ _ _ _ (by first | (simp; done) | (simp; omega)), heap_setCell_other _ _ _ _ (by first | (simp; done) | (simp; omega))]; exact h.s
  · rw [heap_setCell_other _ _ _ _ (by first | (simp; done) | (simp; omega)), heap_setCell_other _ _ _ _ (by first | (simp; done) | (simp; omega))]; exact h.o
  · rw [heap_setCell_same _ (G + 1 + 1) 1 #[.int .u16 u, .bool y] 33 _ (by rw [heap_setCell_same _ (G + 1 + 1) 0 _ 33 _ h.sw]; rfl)]; rfl
  · rw [heap_setCell_other _ _ _ _ (by first | (simp; done) | (simp; omega)), heap_setCell_other _ _ _ _ (by first | (simp; done) | (simp; omega))]; exact h.ow
theorem Four.setO (h : Four w G a0 a1 a4 a5 p q pw qw x y x2 y2) (u : Int) (k : Bool) : Four ((w.setCell ⟨G + 1 + 1 + 1, 0, none⟩ (.int .u16 u)).setCell ⟨G + 1 + 1 + 1, 1, none⟩ (.bool k)) G a0 a1 a4 a5 p q pw qw x y u k := by
  refine ⟨?_, ?_, ?_, ?_⟩
  · rw [heap_setCell_other _ _ _ _ (by first | (simp; done) | (simp; omega)), heap_setCell_other _ _ _ _ (by first | (simp; done) | (simp; omega))]; exact h.s
  · rw [heap_setCell_other _ _ _ _ (by first | (simp; done) | (simp; omega)), heap_setCell_other _ _ _ _ (by first | (simp; done) | (simp; omega))]; exact h.o
  · rw [heap_setCell_other _ _ _ _ (by first | (simp; done) | (simp; omega)), heap_setCell_other _ _ _ _ (by first | (simp; done) | (simp; omega))]; exact h.sw
  · rw [heap_setCell_same _ (G + 1 + 1 + 1) 1 #[.int .u16 u, .bool y2] 33 _ (by rw [heap_setCell_same _ (G + 1 + 1 + 1) 0 _ 33 _ h.ow]; rfl)]; rfl
theorem Four.kept {w' : World} (h : Four w G a0 a1 a4 a5 p q pw qw x y x2 y2) (hb : Below w.heap.size w w') : Four w' G a0 a1 a4 a5 p q pw qw x y x2 y2 :=
  ⟨(hb.block _ (lt_of_block h.s)).trans h.s, (hb.block _ (lt_of_block h.o)).trans h.o, (hb.block _ (lt_of_block h.sw)).trans h.sw, (hb.block _ (lt_of_block h.ow)).trans h.ow⟩
end

/-- A pair, or a count, in a block below G. -/
def PairLt (w : World) (G : Nat) (p : Option Addr) (u : Int) (k : Bool) : Prop := p = none ∨ ∃ g, g < G ∧ p = some ⟨g, 0, none⟩ ∧ w.heap[g]? = some (.cells #[.int .u16 u, .bool k] 33 (0, 0))
def CountLt (w : World) (G : Nat) (p : Option Addr) (has : Bool) (c : Int) : Prop :=
  (has = false ∧ p = none) ∨ (has = true ∧ ∃ g, g < G ∧ p = some ⟨g, 0, none⟩ ∧ w.heap[g]? = some (.cells #[.int .u16 c] 26 (0, 0)))
theorem PairIs.lt {w w' : World} {p : Option Addr} {u : Int} {k : Bool} (h : PairIs w p u k) (hb : Below w.heap.size w w') : PairLt w' w.heap.size p u k := by
  rcases h with h | ⟨g, h2, h3⟩
  · exact .inl h
  · exact .inr ⟨g, lt_of_block h3, h2, (hb.block g (lt_of_block h3)).trans h3⟩
theorem CountIs.lt {w w' : World} {p : Option Addr} {has : Bool} {c : Int} (h : CountIs w p has c) (hb : Below w.heap.size w w') : CountLt w' w.heap.size p has c := by
  rcases h with h | ⟨h1, g, h2, h3⟩
  · exact .inl h
  · exact .inr ⟨h1, g, lt_of_block h3, h2, (hb.block g (lt_of_block h3)).trans h3⟩
theorem PairLt.kept {w w' : World} {G : Nat} {p : Option Addr} {u : Int} {k : Bool} (h : PairLt w G p u k) (hb : Below G w w') : PairLt w' G p u k := by
  rcases h with h | ⟨g, h1, h2, h3⟩
  · exact .inl h
  · exact .inr ⟨g, h1, h2, (hb.block g h1).trans h3⟩
theorem CountLt.kept {w w' : World} {G : Nat} {p : Option Addr} {has : Bool} {c : Int} (h : CountLt w G p has c) (hb : Below G w w') : CountLt w' G p has c := by
  rcases h with h | ⟨h1, g, h2, h3, h4⟩
  · exact .inl h
  · exact .inr ⟨h1, g, h2, h3, (hb.block g h2).trans h4⟩
theorem CountLt.is {w : World} {G : Nat} {p : Option Addr} {has : Bool} {c : Int} (h : CountLt w G p has c) : CountIs w p has c := by
  rcases h with h | ⟨h1, g, h2, h3, h4⟩
  · exact .inl h
  · exact .inr ⟨h1, g, h3, h4⟩

set_option maxRecDepth 100000 in
set_option maxHeartbeats 4000000 in
theorem walkC (a0 a1 : ByteArray) (a2 : Bool) (a3 : Int) (a4 a5 : ByteArray) (a6 : Bool) (a7 : Int) (a8 : Bool) (a9 a10 : Int) (h90 : 0 ≤ a9) (h91 : a9 ≤ 255) (h100 : 0 ≤ a10) (h101 : a10 ≤ 255) (w : World) :
    Calls Yba.prog 4 #[.string a0, .string a1, .bool a2, .int .u16 a3, .string a4, .string a5, .bool a6, .int .u16 a7, .bool a8, .int .u8 a9, .int .u8 a10] w fun e w' => e = .returned (.bool true) ∧ Below w.heap.size w w' := by
  go_enter Yba.func4, Yba.ntmps4
  go_upto_if 37 with fail
  go_cut [23] (fun s w' => ∃ p, s = .pointer p ∧ CountIs w' p a2 a3 ∧ Below w.heap.size w w')
  case first => as_aux_lemma =>
    cases a2 with
    | true =>
      go_wp2
      go_meet
      case rel => exact ⟨_, rfl, .inr ⟨rfl, _, rfl, heap_alloc_new w _⟩, (Below.refl _ _).alloc (Nat.le_refl _) _⟩
    | false =>
      go_wp2
      go_meet
      case rel => exact ⟨_, rfl, .inl ⟨rfl, rfl⟩, Below.refl _ _⟩
  case rest =>
  obtain ⟨p, rfl, hp, B1⟩ := hcut
  obtain ⟨w1, hw1⟩ : ∃ x : World, x = wc := ⟨_, rfl⟩
  subst hw1
  obtain ⟨eff, heff⟩ : ∃ e, e = (if a8 && a2 && a6 then a3 else a7) := ⟨_, rfl⟩
  have HEFF : Hid (eff = (if a8 && a2 && a6 then a3 else a7)) := heff
  clear heff
  go_upto_if 39 with fail
  go_cut [24] (fun s w' => ∃ q, s = .pointer q ∧ CountIs w' q a6 eff ∧ CountIs w' p a2 a3 ∧ Below w.heap.size w w')
  case first => as_aux_lemma =>
    cases a6 with
    | false =>
      go_wp2
      go_meet
      case rel => exact ⟨_, rfl, .inl ⟨rfl, rfl⟩, hp, B1⟩
    | true =>
      cases a8 with
      | false =>
        have E : Hid (eff = a7) := HEFF.out
        go_wp2
        go_meet
        case rel => exact ⟨_, rfl, .inr ⟨rfl, _, rfl, by rw [E.out]; exact heap_alloc_new w1 _⟩, hp.grown ((Below.refl _ _).alloc (Nat.le_refl _) _), B1.alloc B1.size _⟩
      | true =>
        cases a2 with
        | false =>
          have E : Hid (eff = a7) := HEFF.out
          go_wp2
          go_meet
          case rel => exact ⟨_, rfl, .inr ⟨rfl, _, rfl, by rw [E.out]; exact heap_alloc_new w1 _⟩, hp.grown ((Below.refl _ _).alloc (Nat.le_refl _) _), B1.alloc B1.size _⟩
        | true =>
          have E : Hid (eff = a3) := HEFF.out
          go_wp2
          go_meet
          case rel => exact ⟨_, rfl, by rw [E.out]; exact hp, hp, B1⟩
  case rest =>
  clear hp B1
  obtain ⟨q, rfl, hq, hp, B1⟩ := hcut
  go_wp2_with fail
  refine (written_any a9 h90 h91 wc).mono ?_
  rintro e w2 ⟨pw, u1, k1, rfl, hpw, hb2⟩
  have hq2 := hq.grown hb2
  have hp2 := hp.grown hb2
  have B2 := B1.trans (hb2.mono B1.size)
  clear hq hp hb2 B1
  go_wp2_with fail
  refine (written_any a10 h100 h101 w2).mono ?_
  rintro e w3 ⟨qw, u2, k2, rfl, hqw, hb3⟩
  have hq3 := hq2.grown hb3
  have hp3 := hp2.grown hb3
  have hpw3 := hpw.grown hb3
  have B3 := B2.trans (hb3.mono B2.size)
  clear hq2 hp2 hb3 B2 hpw h90 h91 h100 h101
  go_upto_if 61 with fail
  have F4 := Four.mk4 w3 a0 a1 a4 a5 p q pw qw
  have b4 := ((((Below.refl w3.heap.size w3).alloc (Nat.le_refl _) (.cells #[.string a0, .string a1, .pointer p, .pointer pw] 31)).alloc (by simp) (.cells #[.string a4, .string a5, .pointer q, .pointer qw] 31)).alloc (by simp; omega) (.cells #[.int .u16 0, .bool false] 33)).alloc (by simp; omega) (.cells #[.int .u16 0, .bool false] 33)
  have HQ := hq3.lt b4
  have HP := hp3.lt b4
  have HPW := hpw3.lt b4
  have HQW := hqw.lt b4
  have B4 := B3.trans (b4.mono B3.size)
  have hG : w.heap.size ≤ w3.heap.size := B3.size
  clear hq3 hp3 hpw3 hqw b4 B3
  generalize (World.alloc _ (.cells #[.int .u16 0, .bool false] 33)) = w4 at *
  generalize w3.heap.size = G at *
  go_cut [] (fun w' => ∃ x y, Four w' G a0 a1 a4 a5 p q pw qw x y 0 false ∧ Hid (pw ≠ none → x = u1 ∧ y = k1) ∧ Below G w4 w')
  case first => as_aux_lemma =>
    rcases HPW with rfl | ⟨g, hg, rfl, hgb⟩
    · go_wp2
      go_meet
      case rel => exact ⟨0, false, F4, fun h => absurd rfl h, Below.refl _ _⟩
    · have c0 : w4.cell? ⟨g, 0, none⟩ = some (.int .u16 u1) := by rw [cell_of_row _ g 0 _ 33 (0, 0) hgb]; rfl
      have c1 : w4.cell? ⟨g, 1, none⟩ = some (.bool k1) := by rw [cell_of_row _ g 1 _ 33 (0, 0) hgb]; rfl
      have d0 : w4.cell? ⟨G + 1 + 1, 0, none⟩ = some (.int .u16 0) := by rw [cell_of_row _ _ 0 _ 33 (0, 0) F4.sw]; rfl
      have d1 : w4.cell? ⟨G + 1 + 1, 1, none⟩ = some (.bool false) := by rw [cell_of_row _ _ 1 _ 33 (0, 0) F4.sw]; rfl
      have f0 : w4.frozen? ⟨G + 1 + 1, 0, none⟩ = false := frozen_of_row _ _ 0 _ 33 F4.sw
      have f1 : w4.frozen? ⟨G + 1 + 1, 1, none⟩ = false := frozen_of_row _ _ 1 _ 33 F4.sw
      go_wp2
      go_meet
      case rel => exact ⟨u1, k1, F4.setS u1 k1, fun _ => ⟨rfl, rfl⟩, ((Below.refl G w4).setCell (by simp; omega) _).setCell (by simp; omega) _⟩
  case rest =>
  clear F4
  obtain ⟨x, y, F4, HXY, bb⟩ := hcut
  obtain ⟨w5, hw5⟩ : ∃ x : World, x = wc := ⟨_, rfl⟩
  subst hw5
  have HQ5 := HQ.kept bb
  have HP5 := HP.kept bb
  have HPW5 := HPW.kept bb
  have HQW5 := HQW.kept bb
  have B5 := B4.trans (bb.mono hG)
  clear HQ HP HPW HQW bb B4
  go_upto_if 66 with fail
  go_cut [] (fun w' => ∃ x2 y2, Four w' G a0 a1 a4 a5 p q pw qw x y x2 y2 ∧ Hid (qw ≠ none → x2 = u2 ∧ y2 = k2) ∧ Below G w5 w')
  case first => as_aux_lemma =>
    rcases HQW5 with rfl | ⟨g, hg, rfl, hgb⟩
    · go_wp2
      go_meet
      case rel => exact ⟨0, false, F4, fun h => absurd rfl h, Below.refl _ _⟩
    · have c0 : w5.cell? ⟨g, 0, none⟩ = some (.int .u16 u2) := by rw [cell_of_row _ g 0 _ 33 (0, 0) hgb]; rfl
      have c1 : w5.cell? ⟨g, 1, none⟩ = some (.bool k2) := by rw [cell_of_row _ g 1 _ 33 (0, 0) hgb]; rfl
      have d0 : w5.cell? ⟨G + 1 + 1 + 1, 0, none⟩ = some (.int .u16 0) := by rw [cell_of_row _ _ 0 _ 33 (0, 0) F4.ow]; rfl
      have d1 : w5.cell? ⟨G + 1 + 1 + 1, 1, none⟩ = some (.bool false) := by rw [cell_of_row _ _ 1 _ 33 (0, 0) F4.ow]; rfl
      have f0 : w5.frozen? ⟨G + 1 + 1 + 1, 0, none⟩ = false := frozen_of_row _ _ 0 _ 33 F4.ow
      have f1 : w5.frozen? ⟨G + 1 + 1 + 1, 1, none⟩ = false := frozen_of_row _ _ 1 _ 33 F4.ow
      go_wp2
      go_meet
      case rel => exact ⟨u2, k2, F4.setO u2 k2, fun _ => ⟨rfl, rfl⟩, ((Below.refl G w5).setCell (by simp; omega) _).setCell (by simp; omega) _⟩
  case rest =>
  clear F4
  obtain ⟨x2, y2, F4, HXY2, bb⟩ := hcut
  obtain ⟨w6, hw6⟩ : ∃ x : World, x = wc := ⟨_, rfl⟩
  subst hw6
  have HQ := HQ5.kept bb
  have HP := HP5.kept bb
  have HPW := HPW5.kept bb
  have HQW := HQW5.kept bb
  have B6 := B5.trans (bb.mono hG)
  clear HQ5 HP5 HPW5 HQW5 bb B5
  go_upto_region 20 with fail
  go_cut [77] (fun s w' => s = .bool (a8 && a2 && a6) ∧ w6 = w')
  case first => as_aux_lemma =>
    cases a8 with
    | false =>
      go_wp2
      go_meet
      case rel => exact ⟨rfl, rfl⟩
    | true =>
      cases a2 with
      | false =>
        go_wp2
        go_meet
        case rel => exact ⟨rfl, rfl⟩
      | true =>
        go_wp2
        go_meet
        case rel => exact ⟨rfl, rfl⟩
  case rest =>
  obtain ⟨h77, rfl⟩ := hcut
  obtain ⟨tb, htb⟩ : ∃ b, b = (a8 && a2 && a6) := ⟨_, rfl⟩
  rw [← htb] at h77
  subst h77
  have HTB : Hid (tb = (a8 && a2 && a6)) := htb
  clear htb
  go_upto_if 77 with fail
  go_cut [33] (fun s w' => s = .int .u16 eff ∧ w6 = w')
  case first => as_aux_lemma =>
    cases tb with
    | false =>
      have E : Hid (eff = a7) := by show _ = _; rw [HEFF.out, ← HTB.out]; rfl
      go_wp2
      go_meet
      case rel => exact ⟨by rw [E.out], rfl⟩
    | true =>
      have E : Hid (eff = a3) := by show _ = _; rw [HEFF.out, ← HTB.out]; rfl
      go_wp2
      go_meet
      case rel => exact ⟨by rw [E.out], rfl⟩
  case rest =>
  obtain ⟨rfl, rfl⟩ := hcut
  obtain ⟨ag, hag⟩ : ∃ b, b = agree a2 a3 a6 eff := ⟨_, rfl⟩
  have HAG : Hid (ag = agree a2 a3 a6 eff) := hag
  clear hag HTB HEFF
  go_upto_region 23 with fail
  go_cut [84] (fun s w' => s = .bool (!a2 && !a6) ∧ w6 = w')
  case first => as_aux_lemma =>
    cases a2 with
    | false =>
      go_wp2
      go_meet
      case rel => exact ⟨rfl, rfl⟩
    | true =>
      go_wp2
      go_meet
      case rel => exact ⟨rfl, rfl⟩
  case rest =>
  obtain ⟨rfl, rfl⟩ := hcut
  go_upto_if 84 with fail
  go_cut [34] (fun s w' => s = .bool ag ∧ w6 = w')
  case first => as_aux_lemma =>
    cases a2 with
    | false =>
      cases a6 with
      | false =>
        have E : Hid (ag = true) := HAG.out
        go_wp2
        go_meet
        case rel => exact ⟨by rw [E.out], rfl⟩
      | true =>
        have E : Hid (ag = false) := HAG.out
        go_wp2
        go_meet
        case rel => exact ⟨by rw [E.out], rfl⟩
    | true =>
      cases a6 with
      | false =>
        have E : Hid (ag = false) := HAG.out
        go_wp2
        go_meet
        case rel => exact ⟨by rw [E.out], rfl⟩
      | true =>
        have E : Hid (ag = (a3 == eff)) := by show _ = _; rw [HAG.out]; simp [agree]
        go_wp2
        go_meet
        case rel => exact ⟨by rw [E.out], rfl⟩
  case rest =>
  obtain ⟨rfl, rfl⟩ := hcut
  go_upto_region 27 with fail
  go_cut [35] (fun s w' => s = .bool ((a0.toList == a4.toList) && (a1.toList == a5.toList) && ag) ∧ w6 = w')
  case first => as_aux_lemma =>
    cases e1 : (a0.toList == a4.toList) with
    | false =>
      go_wp2
      go_meet
      case rel => exact ⟨by rw [e1]; rfl, rfl⟩
    | true =>
      cases e2 : (a1.toList == a5.toList) with
      | false =>
        go_wp2
        go_meet
        case rel => exact ⟨by rw [e1, e2]; rfl, rfl⟩
      | true =>
        go_wp2
        go_meet
        case rel => exact ⟨by rw [e1, e2]; simp, rfl⟩
  case rest =>
  obtain ⟨h35, rfl⟩ := hcut
  have HQc := equal_any a0 a1 a4 a5 p q pw qw a2 a6 a3 eff w6 HP.is HQ.is
  rw [← HAG.out] at HQc
  generalize ((a0.toList == a4.toList) && (a1.toList == a5.toList) && ag) = res at *
  subst h35
  have s0 : w6.cell? ⟨G, 0, none⟩ = some (.string a0) := by rw [cell_of_row _ _ 0 _ 31 (0, 0) F4.s]; rfl
  have s1 : w6.cell? ⟨G, 1, none⟩ = some (.string a1) := by rw [cell_of_row _ _ 1 _ 31 (0, 0) F4.s]; rfl
  have s2 : w6.cell? ⟨G, 2, none⟩ = some (.pointer p) := by rw [cell_of_row _ _ 2 _ 31 (0, 0) F4.s]; rfl
  have s3 : w6.cell? ⟨G, 3, none⟩ = some (.pointer pw) := by rw [cell_of_row _ _ 3 _ 31 (0, 0) F4.s]; rfl
  have o0 : w6.cell? ⟨G + 1, 0, none⟩ = some (.string a4) := by rw [cell_of_row _ _ 0 _ 31 (0, 0) F4.o]; rfl
  have o1 : w6.cell? ⟨G + 1, 1, none⟩ = some (.string a5) := by rw [cell_of_row _ _ 1 _ 31 (0, 0) F4.o]; rfl
  have o2 : w6.cell? ⟨G + 1, 2, none⟩ = some (.pointer q) := by rw [cell_of_row _ _ 2 _ 31 (0, 0) F4.o]; rfl
  have o3 : w6.cell? ⟨G + 1, 3, none⟩ = some (.pointer qw) := by rw [cell_of_row _ _ 3 _ 31 (0, 0) F4.o]; rfl
  go_wp2_with fail
  refine HQc.mono ?_
  rintro e w7 ⟨rfl, hb7⟩
  have F7 := F4.kept hb7
  have hGs : G ≤ w6.heap.size := by have := lt_of_block F4.s; omega
  have HQ7 := HQ.kept (hb7.mono hGs)
  have HP7 := HP.kept (hb7.mono hGs)
  have HPW7 := HPW.kept (hb7.mono hGs)
  have HQW7 := HQW.kept (hb7.mono hGs)
  have B7 := B6.trans (hb7.mono B6.size)
  clear s0 s1 s2 s3 o0 o1 o2 o3 HQc F4 HQ HP HPW HQW B6 hb7 hGs HAG
  go_upto_region 31 with fail
  go_cut [116] (fun s w' => s = .bool false ∧ w7 = w')
  case first => as_aux_lemma =>
    rcases HP7 with ⟨rfl, rfl⟩ | ⟨rfl, g, hg, rfl, hgb⟩
    · go_wp2
      go_meet
      case rel => exact ⟨rfl, rfl⟩
    · have c0 : w7.cell? ⟨g, 0, none⟩ = some (.int .u16 a3) := by rw [cell_of_row _ g 0 _ 26 (0, 0) hgb]; rfl
      go_wp2
      go_meet
      case rel => exact ⟨rfl, rfl⟩
  case rest =>
  obtain ⟨rfl, rfl⟩ := hcut
  go_upto_region 33 with fail
  go_cut [124] (fun s w' => s = .bool false ∧ w7 = w')
  case first => as_aux_lemma =>
    rcases HQ7 with ⟨rfl, rfl⟩ | ⟨rfl, g, hg, rfl, hgb⟩
    · go_wp2
      go_meet
      case rel => exact ⟨rfl, rfl⟩
    · have c0 : w7.cell? ⟨g, 0, none⟩ = some (.int .u16 eff) := by rw [cell_of_row _ g 0 _ 26 (0, 0) hgb]; rfl
      go_wp2
      go_meet
      case rel => exact ⟨rfl, rfl⟩
  case rest =>
  obtain ⟨rfl, rfl⟩ := hcut
  go_upto_region 35 with fail
  go_cut [133] (fun s w' => s = .bool false ∧ ∃ n, w' = w7.drewN n)
  case first => as_aux_lemma =>
    rcases HPW7 with rfl | ⟨g, hg, rfl, hgb⟩
    · go_quiet (fail)
      go_wp2
      go_meet
      case rel => exact ⟨rfl, _, rfl⟩
    · have c0 : w7.cell? ⟨g, 0, none⟩ = some (.int .u16 u1) := by rw [cell_of_row _ g 0 _ 33 (0, 0) hgb]; rfl
      have c1 : w7.cell? ⟨g, 1, none⟩ = some (.bool k1) := by rw [cell_of_row _ g 1 _ 33 (0, 0) hgb]; rfl
      obtain ⟨rfl, rfl⟩ := HXY.out (by simp)
      have d0 : w7.cell? ⟨G + 1 + 1, 0, none⟩ = some (.int .u16 x) := by rw [cell_of_row _ _ 0 _ 33 (0, 0) F7.sw]; rfl
      have d1 : w7.cell? ⟨G + 1 + 1, 1, none⟩ = some (.bool y) := by rw [cell_of_row _ _ 1 _ 33 (0, 0) F7.sw]; rfl
      go_quiet (fail)
      go_wp2
      go_meet
      case rel => exact ⟨rfl, _, rfl⟩
  case rest =>
  obtain ⟨rfl, n1, rfl⟩ := hcut
  have F8 : Four (w7.drewN n1) G a0 a1 a4 a5 p q pw qw x y x2 y2 := ⟨F7.s, F7.o, F7.sw, F7.ow⟩
  have HQW8 : PairLt (w7.drewN n1) G qw u2 k2 := HQW7
  have B8 : Below w.heap.size w (w7.drewN n1) := ⟨B7.os, B7.tape, B7.output, B7.size, B7.block⟩
  clear F7 HQ7 HP7 HPW7 HQW7 B7
  generalize w7.drewN n1 = w8 at *
  go_upto_region 37 with fail
  go_cut [142] (fun s w' => s = .bool false ∧ ∃ n, w' = w8.drewN n)
  case first => as_aux_lemma =>
    rcases HQW8 with rfl | ⟨g, hg, rfl, hgb⟩
    · go_quiet (fail)
      go_wp2
      go_meet
      case rel => exact ⟨rfl, _, rfl⟩
    · have c0 : w8.cell? ⟨g, 0, none⟩ = some (.int .u16 u2) := by rw [cell_of_row _ g 0 _ 33 (0, 0) hgb]; rfl
      have c1 : w8.cell? ⟨g, 1, none⟩ = some (.bool k2) := by rw [cell_of_row _ g 1 _ 33 (0, 0) hgb]; rfl
      obtain ⟨rfl, rfl⟩ := HXY2.out (by simp)
      have d0 : w8.cell? ⟨G + 1 + 1 + 1, 0, none⟩ = some (.int .u16 x2) := by rw [cell_of_row _ _ 0 _ 33 (0, 0) F8.ow]; rfl
      have d1 : w8.cell? ⟨G + 1 + 1 + 1, 1, none⟩ = some (.bool y2) := by rw [cell_of_row _ _ 1 _ 33 (0, 0) F8.ow]; rfl
      go_quiet (fail)
      go_wp2
      go_meet
      case rel => exact ⟨rfl, _, rfl⟩
  case rest =>
  obtain ⟨rfl, n2, rfl⟩ := hcut
  have s0 : w8.cell? ⟨G, 0, none⟩ = some (.string a0) := by rw [cell_of_row _ _ 0 _ 31 (0, 0) F8.s]; rfl
  have s1 : w8.cell? ⟨G, 1, none⟩ = some (.string a1) := by rw [cell_of_row _ _ 1 _ 31 (0, 0) F8.s]; rfl
  have o0 : w8.cell? ⟨G + 1, 0, none⟩ = some (.string a4) := by rw [cell_of_row _ _ 0 _ 31 (0, 0) F8.o]; rfl
  have o1 : w8.cell? ⟨G + 1, 1, none⟩ = some (.string a5) := by rw [cell_of_row _ _ 1 _ 31 (0, 0) F8.o]; rfl
  have B9 : Below w.heap.size w (w8.drewN n2) := ⟨B8.os, B8.tape, B8.output, B8.size, B8.block⟩
  clear F8 HQW8 B8
  go_wp2
  go_ret
  exact ⟨rfl, B9⟩
end Go.Proofs.Ybulkdrji
