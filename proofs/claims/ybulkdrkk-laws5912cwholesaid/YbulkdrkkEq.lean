/-
  The law's own small functions: clone (4), bytes.Equal (7), same (8), exteq (9): two values that read alike are the same.
-/
import Derived.Test.YbulkdrkkCut
import Derived.Lib.BufferWrite
namespace Go.Proofs.Ybulkdrkk
open Go.RowKit
set_option linter.unusedVariables false

set_option maxRecDepth 100000 in
set_option maxHeartbeats 800000 in
theorem clone_nil (w : World) : Calls Yba.prog 4 #[.slice none 0 0] w fun e w' => e = .returned (.slice none 0 0) ∧ w' = w := by
  have e1 := fun w => Lib.run_eql_slice_nil (P := Yba.prog) w 23 5 none 0 0 0 0 Yba.underlying23
  go_enter Yba.func4, Yba.ntmps4
  go_wp2
  go_ret
  exact ⟨rfl, rfl⟩
set_option maxRecDepth 100000 in
set_option maxHeartbeats 800000 in
theorem clone_some (ad : Addr) (n cap : Nat) (xs : List Int) (w : World) (hn : n = xs.length) (h : BytesAt w (some ad) xs) (hr : n ≤ 140737488351232) :
    Calls Yba.prog 4 #[.slice (some ad) n cap] w fun e w' => ∃ g, e = .returned (.slice (some ⟨g, 0, none⟩) n n) ∧ w.heap.size ≤ g ∧ Row w' g xs ∧ Below w.heap.size w w' := by
  have e1 := fun w c => Lib.run_eql_slice_nil (P := Yba.prog) w 23 5 (some ad) n c 0 0 Yba.underlying23
  have hmin : xs.length = Nat.min n n := by rw [← hn]; exact (Nat.min_self n).symm
  have HX : Hid (n = xs.length) := hn
  clear hn
  go_enter Yba.func4, Yba.ntmps4
  go_wp2_with (first | (at_make; refine wpList_make_row rfl (.tmp 7) (.tmp 7) rfl _ _ n rfl rfl rfl rfl hr ?_; intro w1 y1 hy1 hr1 hg1) | ((with_reducible refine at_copy ?_); refine wpList_copy_row rfl (.tmp 9) (.tmp 10) rfl w.heap.size n n (some ad) n cap rfl rfl y1 xs hr1 (by rw [hy1.out]; simp) hmin (h.grown (below_of_gb hg1 (by simp))).plain ?_; intro w2 y2 hy2 hr2 hg2))
  go_ret
  refine ⟨_, rfl, Nat.le_refl _, ?_, below_gb (below_of_gb hg1 (by simp)) hg2 hg1.size (by simp)⟩
  have : y2 = xs := by rw [hy2.out, List.drop_eq_nil_of_le (by rw [hy1.out, ← HX.out]; simp), List.append_nil]
  rw [← this]; exact hr2
/-- How many bytes. -/
def olen : Option (List Int) → Nat
  | none => 0
  | some xs => xs.length
theorem clone_any (T : Option (List Int)) (v : Value) (bad : Nat → Prop) (w : World) (h : Rd w v T bad) (hl : olen T ≤ 140737488351232) :
    Calls Yba.prog 4 #[v] w fun e w' => ∃ u, e = .returned u ∧ Rd w' u T (fun k => k < w.heap.size) ∧ Below w.heap.size w w' := by
  cases T with
  | none =>
    obtain rfl : v = .slice none 0 0 := h
    refine (clone_nil w).mono ?_
    rintro e w' ⟨rfl, rfl⟩
    exact ⟨_, rfl, rfl, Below.refl _ _⟩
  | some xs =>
    obtain ⟨ad, cap, rfl, hc, h⟩ := h
    refine (clone_some ad _ cap xs w rfl h.bytesAt hl).mono ?_
    rintro e w' ⟨g, rfl, hg, hr, hb⟩
    refine ⟨_, rfl, ⟨_, _, rfl, Nat.le_refl _, fun h0 => ⟨hr.lt, by simp; omega, fun j hj => ?_⟩⟩, hb⟩
    have e : (⟨g, 0, none⟩ : Addr).add j = ⟨g, j, none⟩ := by unfold Addr.add; split <;> simp_all
    rw [e]; exact hr.cell j hj

set_option maxRecDepth 100000 in
set_option maxHeartbeats 800000 in
theorem equal_same (ao bo : Option Addr) (ca cb : Nat) (xs : List Int) (w : World) (ha : BytesAt w ao xs) (hb : BytesAt w bo xs) (hna : ao = none → xs = []) (hnb : bo = none → xs = []) :
    Calls Yba.prog 7 #[.slice ao xs.length ca, .slice bo xs.length cb] w fun e w' => e = .returned (.bool true) ∧ w' = w := by
  have c1 := conv_bytes ha ca hna
  have c2 := conv_bytes hb cb hnb
  go_enter Yba.func7, Yba.ntmps7
  go_wp2
  go_ret
  exact ⟨by simp, rfl⟩
theorem equal_any (T : Option (List Int)) (u v : Value) (bad bad' : Nat → Prop) (w : World) (hu : Rd w u T bad) (hv : Rd w v T bad') :
    Calls Yba.prog 7 #[u, v] w fun e w' => e = .returned (.bool true) ∧ w' = w := by
  cases T with
  | none =>
    obtain rfl : u = .slice none 0 0 := hu
    obtain rfl : v = .slice none 0 0 := hv
    exact equal_same none none 0 0 [] w (fun h => by simp at h) (fun h => by simp at h) (fun _ => rfl) (fun _ => rfl)
  | some xs =>
    obtain ⟨ad, cap, rfl, hc, h⟩ := hu
    obtain ⟨bd, cbp, rfl, hc', h'⟩ := hv
    exact equal_same _ _ cap cbp xs w h.bytesAt h'.bytesAt (by simp) (by simp)
set_option maxRecDepth 100000 in
set_option maxHeartbeats 800000 in
theorem same_any (T : Option (List Int)) (u v : Value) (bad bad' : Nat → Prop) (w : World) (hu : Rd w u T bad) (hv : Rd w v T bad') :
    Calls Yba.prog 8 #[u, v] w fun e w' => e = .returned (.bool true) ∧ w' = w := by
  have E := equal_any T u v bad bad' w hu hv
  obtain ⟨ao, n, c, rfl, _⟩ := hu.shape
  obtain ⟨bo, m, d, rfl, _⟩ := hv.shape
  have e1 := fun w => Lib.run_eql_slice_nil (P := Yba.prog) w 23 5 ao n c 0 0 Yba.underlying23
  have e2 := fun w => Lib.run_eql_slice_nil (P := Yba.prog) w 23 5 bo m d 0 0 Yba.underlying23
  have hab : ao.isNone = bo.isNone := by
    cases T with
    | none =>
      have h1 : Value.slice ao n c = .slice none 0 0 := hu
      have h2 : Value.slice bo m d = .slice none 0 0 := hv
      cases h1; cases h2; rfl
    | some xs =>
      obtain ⟨_, _, h1, _⟩ := hu
      obtain ⟨_, _, h2, _⟩ := hv
      cases h1; cases h2; rfl
  clear hu hv
  cases ao with
  | none =>
    cases bo with
    | some b => simp at hab
    | none =>
      go_enter Yba.func8, Yba.ntmps8
      go_wp2_with (go_at_call 7; refine E.mono ?_; rintro e w' ⟨rfl, rfl⟩)
      go_ret
      exact ⟨rfl, rfl⟩
  | some a =>
    cases bo with
    | none => simp at hab
    | some b =>
      go_enter Yba.func8, Yba.ntmps8
      go_wp2_with (go_at_call 7; refine E.mono ?_; rintro e w' ⟨rfl, rfl⟩)
      go_ret
      exact ⟨rfl, rfl⟩
theorem XRd.at {w : World} {ad : Addr} {n cap : Nat} {es : List Ext} {bad : Nat → Prop} (h : XRd w (.slice (some ad) n cap) (some es) bad) (h0 : 0 < es.length) : ∃ b o, ad = ⟨b, o, none⟩ ∧
    ∀ (j : Nat) (e : Ext), es[j]? = some e → w.cell? ⟨b, o + 2 * j, none⟩ = some (.int .u16 e.1) ∧ ∃ d, w.cell? ⟨b, o + 2 * j + 1, none⟩ = some d ∧ Rd w d e.2 bad := by
  obtain ⟨ad', cap', e, hc, h⟩ := h
  obtain ⟨b, o, e', _, _, h2⟩ := h h0
  cases e
  exact ⟨b, o, e', h2⟩
theorem XRd.nil_or {w : World} {v : Value} {X : Option (List Ext)} {bad : Nat → Prop} (h : XRd w v X bad) : (X = none ∧ v = .slice none 0 0) ∨ ∃ es ad cap, X = some es ∧ v = .slice (some ad) es.length cap ∧ es.length ≤ cap := by
  cases X with
  | none => exact .inl ⟨rfl, h⟩
  | some es => obtain ⟨ad, cap, e, hc, _⟩ := h; exact .inr ⟨es, ad, cap, rfl, e, hc⟩
set_option maxRecDepth 100000 in
set_option maxHeartbeats 800000 in
theorem exteq_nil (w : World) : Calls Yba.prog 9 #[.slice none 0 0, .slice none 0 0] w fun e w' => e = .returned (.bool true) ∧ ∃ n, w' = w.drewN n := by
  have e1 := fun w => Lib.run_eql_slice_nil (P := Yba.prog) w 31 33 none 0 0 0 0 Yba.underlying31
  have e2 := fun w => Lib.run_eql_slice_nil (P := Yba.prog) w 24 28 none 0 0 0 0 Yba.underlying24
  go_enter Yba.func9, Yba.ntmps9
  go_wp2
  go_loopw [5] (fun i wr => i = .int .i64 0 ∧ wr = w) (fun i _ => 0)
  case atStart => exact ⟨rfl, rfl⟩
  case round =>
    obtain ⟨rfl, rfl⟩ := hrel
    go_wp2
    go_ret
    exact ⟨rfl, 0, rfl⟩
set_option maxRecDepth 100000 in
set_option maxHeartbeats 800000 in
theorem exteq_some (n : Nat) (a c : Addr) (ca cb : Nat) (es : List Ext) (bad bad' : Nat → Prop) (w : World) (hn : es.length = n) (hlim : n ≤ 1099511627776) (hu : XRd w (.slice (some a) n ca) (some es) bad) (hv : XRd w (.slice (some c) n cb) (some es) bad') :
    Calls Yba.prog 9 #[.slice (some a) n ca, .slice (some c) n cb] w fun e w' => e = .returned (.bool true) ∧ ∃ n, w' = w.drewN n := by
  have e1 := fun w => Lib.run_eql_slice_nil (P := Yba.prog) w 31 33 (some a) n ca 0 0 Yba.underlying31
  have e2 := fun w => Lib.run_eql_slice_nil (P := Yba.prog) w 24 28 (some c) n cb 0 0 Yba.underlying24
  have HX : Hid (es.length = n ∧ XRd w (.slice (some a) n ca) (some es) bad ∧ XRd w (.slice (some c) n cb) (some es) bad') := ⟨hn, hu, hv⟩
  clear hn hu hv
  go_enter Yba.func9, Yba.ntmps9
  go_wp2
  go_loopw [5] (fun i wr => ∃ k : Nat, k ≤ n ∧ i = .int .i64 k ∧ Hid (∃ m, wr = w.drewN m)) (fun i _ => n - (intOf i).toNat)
  case atStart => exact ⟨0, Nat.zero_le _, rfl, 0, rfl⟩
  case round =>
    obtain ⟨k, hk, rfl, HW⟩ := hrel
    by_cases hlt : k < n
    · obtain ⟨b, o, ea, h2⟩ := HX.out.2.1.at (by have := HX.out.1; omega)
      obtain ⟨b', o', eb, h2'⟩ := HX.out.2.2.at (by have := HX.out.1; omega)
      subst ea
      subst eb
      obtain ⟨q, hq⟩ : ∃ q, es[k]? = some q := ⟨es[k]'(by have := HX.out.1; omega), List.getElem?_eq_getElem _⟩
      obtain ⟨c0, d, c1, hd⟩ := h2 k q hq
      obtain ⟨c0', d', c1', hd'⟩ := h2' k q hq
      obtain ⟨m, hm⟩ := HW.out
      have S := fun (nq : Nat) => same_any q.2 d d' bad bad' (wr.drewN nq) (by rw [hm]; exact hd.kept (((Kp.refl _ []).drewN m).drewN nq) (by simp)) (by rw [hm]; exact hd'.kept (((Kp.refl _ []).drewN m).drewN nq) (by simp))
      have i0 : (k : Int) < (n : Int) := by omega
      have c0a : wr.cell? ⟨b, o + k * 2, none⟩ = some (.int .u16 q.1) := by rw [hm, Nat.mul_comm k 2]; exact c0
      have c1a : wr.cell? ⟨b, o + k * 2 + 1, none⟩ = some d := by rw [hm, Nat.mul_comm k 2]; exact c1
      have c0b : wr.cell? ⟨b', o' + k * 2, none⟩ = some (.int .u16 q.1) := by rw [hm, Nat.mul_comm k 2]; exact c0'
      have c1b : wr.cell? ⟨b', o' + k * 2 + 1, none⟩ = some d' := by rw [hm, Nat.mul_comm k 2]; exact c1'
      have HW2 : Hid (∃ m, wr = w.drewN m) := HW
      clear hm HW
      go_wp2_with fail
      go_quiet ((go_at_call 8; refine Calls.quiet_of_same (S _)))
      go_wp2
      go_roundw
      case rel => exact ⟨k + 1, by omega, by go_num, by obtain ⟨m, hm⟩ := HW2.out; exact ⟨m + nq, by rw [hm]; simp [World.drewN, Nat.add_assoc]⟩⟩
      case measure => simp [intOf]; omega
    · go_wp2
      go_ret
      exact ⟨rfl, HW.out⟩
theorem exteq_any (X : Option (List Ext)) (u v : Value) (bad bad' : Nat → Prop) (w : World) (hu : XRd w u X bad) (hv : XRd w v X bad') (hlim : ∀ es, X = some es → es.length ≤ 1099511627776) :
    Calls Yba.prog 9 #[u, v] w fun e w' => e = .returned (.bool true) ∧ ∃ n, w' = w.drewN n := by
  cases X with
  | none =>
    obtain rfl : u = .slice none 0 0 := hu
    obtain rfl : v = .slice none 0 0 := hv
    exact exteq_nil w
  | some es =>
    obtain ⟨a, ca, rfl, _⟩ := id hu
    obtain ⟨c, cb, rfl, _⟩ := id hv
    exact exteq_some es.length a c ca cb es bad bad' w rfl (hlim es rfl) hu hv
end Go.Proofs.Ybulkdrkk
