import Derived.Test.YbulkdaeyDoorState
/-
  takeParent.
-/
namespace Go.Proofs.YbulkdaeyDoor
open Go.RowKit

theorem meth_probe (w : World) : (method 362 107 (.agg #[]) "Probe").run Ybad.prog w = .ok (117, .agg #[]) w := by kernel_rfl
theorem meth_prune (w : World) : (method 362 107 (.agg #[]) "Prune").run Ybad.prog w = .ok (118, .agg #[]) w := by kernel_rfl
theorem meth_graft (w : World) : (method 362 107 (.agg #[]) "Graft").run Ybad.prog w = .ok (113, .agg #[]) w := by kernel_rfl

theorem BX.own_lt {w : World} {ob B : Nat} {sv : Value} {l : List (Int × List Int)} (h : BX w ob B sv l) : ∀ k, sv.ownBlock = some k → B ≤ k ∧ k < w.heap.size := by
  obtain ⟨xs, ho, _⟩ := h
  exact ho.own.lt
theorem BX.ob_lt {w : World} {ob B : Nat} {sv : Value} {l : List (Int × List Int)} (h : BX w ob B sv l) : ob < w.heap.size := by
  obtain ⟨xs, ho, _⟩ := h
  exact lt_of_cell ho.cell
theorem BX.base {w : World} {ob B : Nat} {sv : Value} {l : List (Int × List Int)} (h : BX w ob B sv l) : B ≤ w.heap.size := by
  obtain ⟨xs, ho, _⟩ := h
  exact ho.base
theorem BX.far {w : World} {ob B : Nat} {sv : Value} {l : List (Int × List Int)} (h : BX w ob B sv l) (hob : B ≤ ob) {t : Nat} (ht : t < B) : t ∉ ob :: sv.ownBlock.toList := by
  intro hm
  cases hsv : sv.ownBlock with
  | none => simp [hsv] at hm; omega
  | some k =>
    have := h.own_lt k hsv
    simp [hsv] at hm
    omega
theorem BX.ges {w : World} {ob B : Nat} {sv : Value} {l : List (Int × List Int)} (h : BX w ob B sv l) (hob : B ≤ ob) : ∀ k ∈ ob :: sv.ownBlock.toList, B ≤ k := by
  intro k hm
  rcases Nat.lt_or_ge k B with hlt | hge
  · exact (h.far hob hlt hm).elim
  · exact hge

set_option maxRecDepth 20000 in
set_option maxHeartbeats 1600000 in
/-- takeParent, no former parent. -/
theorem takeParent_none (tb l1 l2 ob B B0 g cap : Nat) (sk : List UInt8) (m : Int) (z1 c1 z2 c2 : Bool) (w : World) (hk : sk.length = 32) (T : TW w tb l1 l2 sk m (.pointer none) z1 c1 z2 c2) (X : BX w ob B (.slice none 0 0) [])
    (hob : B ≤ ob) (ht : tb < B) (h1 : l1 < B) (h2 : l2 < B) (n1 : tb ≠ l1) (n2 : l2 ≠ l1) (b0 : B0 ≤ tb) (b1 : B0 ≤ l1) (hg : B ≤ g) (hg1 : g < w.heap.size) (hg2 : g ≠ ob) (hr : w.rangeAt g 0 (bv [71])) :
    Calls Ybad.prog 19 #[.pointer (some ⟨tb, 0, none⟩), .pointer (some ⟨ob, 0, none⟩), .pointer (some ⟨l1, 0, none⟩), .slice (some ⟨g, 0, none⟩) 1 cap] w fun e w' => e = .returned (.tuple #[]) ∧
      ∃ sv', BX w' ob B sv' [(1, [71]), (1, pbs sk 1 8)] ∧ TW w' tb l1 l2 sk m (.pointer (some ⟨l1, 0, none⟩)) false c1 z2 c2 ∧ Below B0 w w' ∧ ∃ gg c, sv' = .slice (some ⟨gg, 0, none⟩) 2 c := by
  have K1 : Kp [tb, l1] w ((w.setCell ⟨tb, 37, none⟩ (.pointer (some ⟨l1, 0, none⟩))).setCell ⟨l1, 2, none⟩ (.bool false)) := ((Kp.refl _ w).setCell (by simp) _).setCell (by simp) _
  have T1 := (T.setPar hk (.pointer (some ⟨l1, 0, none⟩))).setLazy1 n1 n2 false
  have X1 := X.kp hob K1 (by simp; omega)
  have R1 : ((w.setCell ⟨tb, 37, none⟩ (.pointer (some ⟨l1, 0, none⟩))).setCell ⟨l1, 2, none⟩ (.bool false)).rangeAt g 0 (bv [71]) := fun j v hv => (K1.cell hg1 (by simp; omega)).trans (hr j v hv)
  have G1 := Nat.lt_of_lt_of_le hg1 K1.size
  obtain ⟨_, _, _, t4, _, t6, _, _, _, _, _, t12, t13, _⟩ := id T
  have f1 := t12 37
  have f2 := t13 2
  clear t12 t13
  have q1 := neq_nil_l
  go_enter Ybad.func19, Ybad.ntmps19
  go_wp2_with (first
    | (go_at_call 21; refine (send_bx ob l1 B _ 1 g cap 1 [71] [] _ X1 hob T1.h1 (by simp) rfl hg G1 hg2 (by simp [Value.ownBlock]) R1).mono ?_; rintro e w2 ⟨rfl, sv2, X2, k2, hs2, gg2, cc2, rfl⟩))
  have T2 := T1.kp k2 (X1.far hob ht) (X1.far hob h1) (X1.far hob h2)
  have B2 : Below B0 w w2 := ((K1.toBelow (by omega) (by simp; omega)).trans (k2.toBelow (by have := K1.size; omega) (fun k hm => by have := X1.ges hob k hm; omega)))
  clear T1 X1 R1 K1 G1 k2 T t4 t6 f1 f2
  have t1 := T2.key
  have t2 := T2.fr
  go_wp2_with fail
  have hobw : ob < w2.heap.size := X2.ob_lt
  have hBw : B ≤ w2.heap.size := X2.base
  have hgg := (X2.own_lt gg2 rfl).2
  have hu := Ybad.underlying27
  have hi := size_key hk
  have hlen : (kcl sk).length = 32 := by rw [kcl_length, hk]
  have hone := kcl_one sk
  have hah := meth_probe
  go_region_held3 (fun w' => w'.rangeAt tb 0 (kcl sk) ∧ w'.cell? ⟨tb, 32, none⟩ = some (.iface 107 (.agg #[]))) (go_keep)
    (first
      | (go_at_call 117; refine (probeM_any sk 1 _ hk).mono ?_; rintro e w3 ⟨g3, cap3, rfl, F3⟩; have KK3 : Kp [] w2 w3 := ((Kp.refl [] w2).drew).below F3.bel; have T3 := T2.kp KK3 (by simp) (by simp) (by simp); have X3 := X2.kp hob KK3 (by simp); have t31 := T3.key; have t32 := T3.fr; have hge : w2.heap.size ≤ g3 := F3.ge; have hlt := F3.lt)
      | (go_at_call 21; refine (send_bx ob l1 B _ 1 g3 cap3 41 (pbs sk 1 8) _ _ X3 hob T3.h1 (by simp) (pbs_length sk 1 8 hk) (by omega) hlt (by omega) (fun e => by have : gg2 = g3 := Option.some.inj e; omega) F3.row).mono ?_; rintro e w4 ⟨rfl, sv4, X4, k4, hs4, gg4, cc4, rfl⟩; have T4 := T3.kp k4 (X3.far hob ht) (X3.far hob h1) (X3.far hob h2); have t41 := T4.key; have t42 := T4.fr))
  go_wp2
  go_end0
  exact ⟨rfl, _, X4, T4, B2.trans ((KK3.toBelow (by omega) (by simp)).trans (k4.toBelow (by omega) (fun k hm => by have := X3.ges hob k hm; omega))), gg4, cc4, rfl⟩

set_option maxRecDepth 20000 in
set_option maxHeartbeats 1600000 in
/-- takeParent, link 2 the former parent. -/
theorem takeParent_two (tb l1 l2 ob B B0 g cap : Nat) (sk : List UInt8) (m : Int) (z1 c1 z2 c2 : Bool) (w : World) (hk : sk.length = 32) (T : TW w tb l1 l2 sk m (.pointer (some ⟨l2, 0, none⟩)) z1 c1 z2 c2) (X : BX w ob B (.slice none 0 0) [])
    (hob : B ≤ ob) (ht : tb < B) (h1 : l1 < B) (h2 : l2 < B) (n1 : tb ≠ l1) (n2 : l2 ≠ l1) (n3 : tb ≠ l2) (b0 : B0 ≤ tb) (b1 : B0 ≤ l1) (b2 : B0 ≤ l2) (hg : B ≤ g) (hg1 : g < w.heap.size) (hg2 : g ≠ ob) (hr : w.rangeAt g 0 (bv [71])) :
    Calls Ybad.prog 19 #[.pointer (some ⟨tb, 0, none⟩), .pointer (some ⟨ob, 0, none⟩), .pointer (some ⟨l1, 0, none⟩), .slice (some ⟨g, 0, none⟩) 1 cap] w fun e w' => e = .returned (.tuple #[]) ∧
      ∃ sv', BX w' ob B sv' [(2, [80]), (1, [71]), (1, pbs sk 1 8)] ∧ TW w' tb l1 l2 sk m (.pointer (some ⟨l1, 0, none⟩)) false c1 true false ∧ Below B0 w w' ∧ ∃ gg c, sv' = .slice (some ⟨gg, 0, none⟩) 3 c := by
  have K0 : Kp [l2] w ((w.setCell ⟨l2, 2, none⟩ (.bool true)).setCell ⟨l2, 3, none⟩ (.bool false)) := ((Kp.refl _ w).setCell (by simp) _).setCell (by simp) _
  have T0 := (T.setLazy2 n3 (Ne.symm n2) true).setChild2 n3 (Ne.symm n2) false
  have X0 := X.kp hob K0 (by simp; omega)
  obtain ⟨_, t2, _, t4, _, _, _, _, t9, t10, t11, _, _, t14, p1, p2⟩ := id T
  have f1 := t14 2
  have f2 := t14 3
  clear t14
  have q1 := neq_ptr_other n2 p2 p1
  have q2 := meth_prune
  go_enter Ybad.func19, Ybad.ntmps19
  go_wp2_with (first
    | (go_at_call 39; refine (keepOn_none tb ob l2 _ (by assumption)).mono ?_; rintro e w' ⟨rfl, rfl⟩)
    | (go_at_call 118; refine (prune_any _).mono ?_; rintro e w5 ⟨g5, cap5, rfl, F5⟩; refine Hid.out ?_))
  refine Lib.hid ?_
  have T5 := T0.bel F5.bel
  have KK5 := Kp.ofBelow F5.bel []
  have X5 := X0.kp hob KK5 (by simp)
  have hge5 := F5.ge
  have hlt5 := F5.lt
  have hob5 := X0.ob_lt
  have hB5 := X0.base
  have hsz0 := K0.size
  have hr5 : w5.rangeAt g 0 (bv [71]) := fun j v hv => (KK5.cell (p := ⟨g, 0 + j, none⟩) (show g < _ by omega) (by simp)).trans ((K0.cell (p := ⟨g, 0 + j, none⟩) hg1 (by simp; omega)).trans (hr j v hv))
  have hsz5 := KK5.size
  have R5 := F5.row
  have B5 : Below B0 w' w5 := ((K0.toBelow (by omega) (by simp; omega)).trans (KK5.toBelow (by omega) (by simp)))
  clear F5 T0 X0 T X t2 t4 t9 t10 t11 f1 f2 q1 p1 p2 hr
  go_wp2_with (first
    | (go_at_call 21; refine (send_bx ob l2 B _ 2 g5 cap5 1 [80] [] _ X5 hob T5.h2 (by simp) rfl (by omega) hlt5 (by omega) (by simp [Value.ownBlock]) R5).mono ?_; rintro e w6 ⟨rfl, sv6, X6, k6, hs6, gg6, cc6, rfl⟩; refine Hid.out ?_))
  refine Lib.hid ?_
  have T6 := T5.kp k6 (X5.far hob ht) (X5.far hob h1) (X5.far hob h2)
  have hgg6 : w5.heap.size ≤ gg6 := by
    rcases hs6 with e | ⟨k, e, hk⟩
    · cases e
    · have : gg6 = k := Option.some.inj e
      omega
  have hr6 : w6.rangeAt g 0 (bv [71]) := fun j v hv => (k6.cell (p := ⟨g, 0 + j, none⟩) (show g < _ by omega) (by simp [Value.ownBlock]; omega)).trans (hr5 j v hv)
  have hsz6 := k6.size
  have B6 := B5.trans (k6.toBelow (by omega) (fun k hm => by have := X5.ges hob k hm; omega))
  clear T5 X5 R5 B5 hr5 k6
  have K1 : Kp [tb, l1] w6 ((w6.setCell ⟨tb, 37, none⟩ (.pointer (some ⟨l1, 0, none⟩))).setCell ⟨l1, 2, none⟩ (.bool false)) := ((Kp.refl _ w6).setCell (by simp) _).setCell (by simp) _
  have T1 := (T6.setPar hk (.pointer (some ⟨l1, 0, none⟩))).setLazy1 n1 n2 false
  have X1 := X6.kp hob K1 (by simp; omega)
  have R1 : ((w6.setCell ⟨tb, 37, none⟩ (.pointer (some ⟨l1, 0, none⟩))).setCell ⟨l1, 2, none⟩ (.bool false)).rangeAt g 0 (bv [71]) := fun j v hv => (K1.cell (p := ⟨g, 0 + j, none⟩) (show g < _ by omega) (by simp; omega)).trans (hr6 j v hv)
  have G1 : g < ((w6.setCell ⟨tb, 37, none⟩ (.pointer (some ⟨l1, 0, none⟩))).setCell ⟨l1, 2, none⟩ (.bool false)).heap.size := Nat.lt_of_lt_of_le (show g < w6.heap.size by omega) K1.size
  obtain ⟨_, _, _, t4, _, t6, _, _, _, _, _, t12, t13, _⟩ := id T6
  have f1 := t12 37
  have f2 := t13 2
  clear t12 t13
  go_wp2_with (first
    | (go_at_call 21; refine (send_bx ob l1 B _ 1 g cap 1 [71] _ _ X1 hob T1.h1 (by simp) rfl hg G1 hg2 (fun e => by have : gg6 = g := Option.some.inj e; omega) R1).mono ?_; rintro e w2 ⟨rfl, sv2, X2, k2, hs2, gg2, cc2, rfl⟩; refine Hid.out ?_))
  refine Lib.hid ?_
  have T2 := T1.kp k2 (X1.far hob ht) (X1.far hob h1) (X1.far hob h2)
  have B2 : Below B0 w' w2 := B6.trans ((K1.toBelow (by omega) (by simp; omega)).trans (k2.toBelow (by have := K1.size; omega) (fun k hm => by have := X1.ges hob k hm; omega)))
  have P1 := T2.p1
  have P2 := T2.p2
  have q3 := neq_ptr_other n2 P2 P1
  clear T1 X1 R1 K1 G1 k2 t4 t6 f1 f2 T6 X6 B6 hr6
  have t1 := T2.key
  have t2 := T2.fr
  go_wp2_with fail
  have hobw : ob < w2.heap.size := X2.ob_lt
  have hBw : B ≤ w2.heap.size := X2.base
  have hgg := (X2.own_lt gg2 rfl).2
  have hu := Ybad.underlying27
  have hi := size_key hk
  have hlen : (kcl sk).length = 32 := by rw [kcl_length, hk]
  have hone := kcl_one sk
  have hah := meth_probe
  go_region_held3 (fun w' => w'.rangeAt tb 0 (kcl sk) ∧ w'.cell? ⟨tb, 32, none⟩ = some (.iface 107 (.agg #[]))) (go_keep)
    (first
      | (go_at_call 117; refine (probeM_any sk 1 _ hk).mono ?_; rintro e w3 ⟨g3, cap3, rfl, F3⟩; have KK3 : Kp [] w2 w3 := ((Kp.refl [] w2).drew).below F3.bel; have T3 := T2.kp KK3 (by simp) (by simp) (by simp); have X3 := X2.kp hob KK3 (by simp); have t31 := T3.key; have t32 := T3.fr; have hge : w2.heap.size ≤ g3 := F3.ge; have hlt := F3.lt)
      | (go_at_call 21; refine (send_bx ob l1 B _ 1 g3 cap3 41 (pbs sk 1 8) _ _ X3 hob T3.h1 (by simp) (pbs_length sk 1 8 hk) (by omega) hlt (by omega) (fun e => by have : gg2 = g3 := Option.some.inj e; omega) F3.row).mono ?_; rintro e w4 ⟨rfl, sv4, X4, k4, hs4, gg4, cc4, rfl⟩; have T4 := T3.kp k4 (X3.far hob ht) (X3.far hob h1) (X3.far hob h2); have t41 := T4.key; have t42 := T4.fr))
  go_wp2
  go_end0
  exact ⟨rfl, _, X4, T4, B2.trans ((KK3.toBelow (by omega) (by simp)).trans (k4.toBelow (by omega) (fun k hm => by have := X3.ges hob k hm; omega))), gg4, cc4, rfl⟩
end Go.Proofs.YbulkdaeyDoor
