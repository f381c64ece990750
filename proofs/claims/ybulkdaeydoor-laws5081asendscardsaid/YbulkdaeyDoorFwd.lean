import Derived.Test.YbulkdaeyDoorGrafts
/-
  TakeProbe on a child link: low is not self.
-/
namespace Go.Proofs.YbulkdaeyDoor
open Go.RowKit Go.MuLone

theorem kp_setCells (b : Nat) : ∀ (vs : List Value) (o : Nat) (w : World), Kp [b] w (w.setCells b o vs)
  | [], _, w => Kp.refl _ w
  | v :: vs, o, w => ((Kp.refl _ w).setCell (p := ⟨b, o, none⟩) (by simp) v).trans (kp_setCells b vs (o + 1) _)

set_option maxRecDepth 20000 in
set_option maxHeartbeats 3200000 in
theorem takeProbe_far0 (tb l1 l2 hb mb B0 : Nat) (sk low : List UInt8) (hops x y x' y' bu ev : Int) (er : Value) (z1 z2 c2 : Bool) (w : World) (hk : sk.length = 32) (hlo : low.length = 32) (he : (low == sk) = false) (F : Tr w tb l1 l2 hb mb B0) (T : TW w tb l1 l2 sk 0 (.pointer none) z1 true z2 c2) (P : PP w l1 hb true bu ev x' y' er) (hbs : B0 ≤ w.heap.size) :
    Calls Ybad.prog 7 #[.pointer (some ⟨tb, 0, none⟩), .int .i64 1, .agg (kcl low).toArray, .int .i64 hops, .agg #[.int .u64 x, .int .i64 y, .pointer none]] w fun e w' =>
      ∃ sv, e = .returned (.tuple #[sv, .nilIface]) ∧ sv = .slice none 0 0 ∧ TW w' tb l1 l2 sk 0 (.pointer none) z1 true z2 c2 ∧ Below B0 w w' := by
  have K0 : Kp [] w ((w.alloc (.cells (kcl low).toArray 27)).alloc (.cells #[.int .u64 x, .int .i64 y, .pointer none] 43)) := ((Kp.refl _ _).alloc _).alloc _
  have O0 := Bo.new w low x y hlo
  have hb0 : tb < w.heap.size := lt_of_cell T.fr
  have hb1 : l1 < w.heap.size := lt_of_cell T.h1
  have hb2 : l2 < w.heap.size := lt_of_cell T.h2
  have hb3 : hb < w.heap.size := lt_of_cell P.t0
  obtain ⟨_, _, n1, n2, n3, n4, n5, n6, b0, bt, b1, b2, b3⟩ := id F
  go_enter_defers Ybad.func7, Ybad.ntmps7
  go_wp2_with (first
    | (go_at_call 15; refine (lock_any tb _ ((K0.cell hb0 (by simp)).trans T.mu) ((K0.frozen hb0 (by simp)).trans (T.ft 33))).mono ?_; rintro e w1 ⟨rfl, hw1⟩; obtain ⟨T1, P1, ht1, hl1, k1⟩ := locked_all hk F T P K0 hw1; have O1 := O0.kp hw1.kp (by simp; omega) (by simp; omega); clear hw1)
    | (go_at_call 17; refine (treeLink_tree tb mb l1 _ ht1 hl1 P1.tree).mono ?_; rintro e w2 ⟨rfl, bb2⟩; have T2 := T1.bel bb2; have tc := T2.child1))
  have k2 := k1.trans (Kp.ofBelow bb2 _)
  have P2 := P1.kp (Kp.ofBelow bb2 []) (by simp) (by simp) (by simp) (by simp)
  have O2 := O1.kp (Kp.ofBelow bb2 []) (by simp) (by simp)
  clear T1 P1 O1 ht1 hl1 k1 bb2 tc O0 T P F
  have KT : Kp [] w2 w2 := Kp.refl _ _
  obtain ⟨_, r1, r2, r3, r4, _, r5, r6, _⟩ := id P2
  obtain ⟨_, _, s1, s2, s3⟩ := id O2
  have hnew1 := World.new_ne w2 _ r5; have hnew2 := World.new_ne w2 _ r1; have hnew3 := World.new_ne w2 _ r2; have hnew4 := World.new_ne w2 _ s1
  go_region_held3 (fun w' => w'.cell? ⟨2, 0, none⟩ = some (.int .i64 bu) ∧ w'.cell? ⟨2, 1, none⟩ = some (.int .i64 ev) ∧ w'.cell? ⟨l1, 6, none⟩ = some (.pointer (some ⟨hb, 0, none⟩)) ∧ w'.cell? ⟨hb, 4, none⟩ = some (.int .u64 x') ∧ w'.cell? ⟨hb, 5, none⟩ = some (.int .i64 y') ∧ w'.cell? ⟨hb, 6, none⟩ = some (.pointer none)
      ∧ w'.cell? ⟨w.heap.size + 1, 0, none⟩ = some (.int .u64 x) ∧ w'.cell? ⟨w.heap.size + 1, 1, none⟩ = some (.int .i64 y) ∧ w'.cell? ⟨w.heap.size + 1, 2, none⟩ = some (.pointer none)) (go_keep)
    (first
      | (go_at_call 18; refine (take_any _ _ _ _ _ _ _).mono ?_; rintro e w3 ⟨⟨x3, y3, ok, rfl⟩, bb3⟩; first | (have K3 : Kp [] w2 w3 := kp_take0 bb3; have P3 := P2.kp K3 (by simp) (by simp) (by simp) (by simp); have O3 := O2.kp K3 (by simp) (by simp); have T3 := T2.kp K3 (by simp) (by simp) (by simp); obtain ⟨_, u1, u2, u3, u4, _, u5, u6, _⟩ := id P3; obtain ⟨_, _, v1, v2, v3⟩ := id O3; have hn1 := World.new_ne w3 _ u5; have hn2 := World.new_ne w3 _ u1; have hn3 := World.new_ne w3 _ u2; have hn4 := World.new_ne w3 _ v1) | (have K3 : Kp [] w2 w3 := kp_take bb3; have N3 : TB w3 w2.heap.size 0 0 (Value.pointer none) := (TB.new w2 0 0 (Value.pointer none) 43).bel bb3 rfl; obtain ⟨a1, a2, a3, a4, a5, a6⟩ := id N3; have hw2 : w2.heap.size < w3.heap.size := lt_of_cell a1; have P3 := P2.kp K3 (by simp) (by simp) (by simp) (by simp); have O3 := O2.kp K3 (by simp) (by simp); have T3 := T2.kp K3 (by simp) (by simp) (by simp); obtain ⟨_, u1, u2, u3, u4, _, u5, u6, _⟩ := id P3; obtain ⟨_, _, v1, v2, v3⟩ := id O3; have hn1 := World.new_ne w3 _ u5; have hn2 := World.new_ne w3 _ u1; have hn3 := World.new_ne w3 _ u2; have hn4 := World.new_ne w3 _ v1)))
  all_goals
    first
    | (have N4 := ((N3.set0 x3).set1 y3).set2 (.pointer none)
       have K4 := (((K3.setNew (p := ⟨w2.heap.size, 0, none⟩) (Nat.le_refl _) (.int .u64 x3)).setNew (p := ⟨w2.heap.size, 1, none⟩) (Nat.le_refl _) (.int .i64 y3)).setNew (p := ⟨w2.heap.size, 2, none⟩) (Nat.le_refl _) (.pointer none))
       have hnb := Nat.le_refl w2.heap.size
       have T4 := T2.kp K4 (by simp) (by simp) (by simp)
       have P4 := P2.kp K4 (by simp) (by simp) (by simp) (by simp)
       have O4 := O2.kp K4 (by simp) (by simp)
       clear T3 P3 O3 u1 u2 u3 u4 u5 u6 v1 v2 v3 hn1 hn2 hn3 hn4 r1 r2 r3 r4 r5 r6 s1 s2 s3 hnew1 hnew2 hnew3 hnew4 T2 P2 O2 K3 bb3
       clear N3 a1 a2 a3 a4 a5 a6 hw2
       generalize ((w3.setCell ⟨w2.heap.size, 0, none⟩ (.int .u64 x3)).setCell ⟨w2.heap.size, 1, none⟩ (.int .i64 y3)).setCell ⟨w2.heap.size, 2, none⟩ (.pointer none) = w4 at *
       obtain ⟨nb, hnbe⟩ : ∃ nb, nb = w2.heap.size := ⟨_, rfl⟩
       rw [← hnbe]
       rw [← hnbe] at N4
       replace hnb : w2.heap.size ≤ nb := by omega
       clear hnbe)
    | (have N4 := TB.new w3 x3 y3 (.pointer none) 43
       have K4 := K3.alloc (.cells #[.int .u64 x3, .int .i64 y3, .pointer none] 43)
       have hnb := K3.size
       have T4 := T2.kp K4 (by simp) (by simp) (by simp)
       have P4 := P2.kp K4 (by simp) (by simp) (by simp) (by simp)
       have O4 := O2.kp K4 (by simp) (by simp)
       clear T3 P3 O3 u1 u2 u3 u4 u5 u6 v1 v2 v3 hn1 hn2 hn3 hn4 r1 r2 r3 r4 r5 r6 s1 s2 s3 hnew1 hnew2 hnew3 hnew4 T2 P2 O2 K3 bb3
       generalize w3.alloc (.cells #[.int .u64 x3, .int .i64 y3, .pointer none] 43) = w4 at *
       generalize w3.heap.size = nb at *)
    have k4 := k2.trans (K4.mono (by simp))
    have hs4 := K4.size
    have hO4 := O4.lt
    have hs2 := k2.size
    clear K0 k2 K4
    cases ok
    · go_wp2
      exact door7 _ _ rfl rfl rfl T4.mu (T4.ft 33) ⟨_, rfl, rfl, T4.setMu hk 0, (k4.setCell (p := ⟨tb, 33, none⟩) (by simp) _).toBelow (by omega) (by simp; omega)⟩
    go_wp2_with fail
    obtain ⟨_, r1, r2, r3, r4, r7, r5, r6, _⟩ := id P4
    obtain ⟨a1, a2, a3, _, _, _⟩ := id N4
    have z4 := r7 4; have z5 := r7 5; have z6 := r7 6
    clear r7
    have d1 : hb ≠ nb := by omega
    have d2 : l1 ≠ nb := by omega
    go_region_held3 (fun w' => w'.cell? ⟨l1, 6, none⟩ = some (.pointer (some ⟨hb, 0, none⟩)) ∧ w'.cell? ⟨nb, 0, none⟩ = some (.int .u64 x3) ∧ w'.cell? ⟨nb, 1, none⟩ = some (.int .i64 y3) ∧ w'.cell? ⟨nb, 2, none⟩ = some (.pointer none)) (go_keep) (fail)
    have K5 : Kp [hb] w4 ((((w4.setCell ⟨hb, 4, none⟩ (.int .u64 x3)).setCell ⟨hb, 5, none⟩ (.int .i64 y3)).setCell ⟨hb, 6, none⟩ (.pointer none)).drew) := ((((Kp.refl _ w4).setCell (by simp) _).setCell (by simp) _).setCell (by simp) _).drew
    have T5 := T4.kp K5 (by simp [Ne.symm n4]) (by simp [Ne.symm n5]) (by simp [Ne.symm n6])
    have O5 := O4.kp K5 (by simp; omega) (by simp; omega)
    clear T4 O4 P4 N4 r1 r2 r3 r4 r5 r6 a1 a2 a3 z4 z5 z6
    generalize ((((w4.setCell ⟨hb, 4, none⟩ (.int .u64 x3)).setCell ⟨hb, 5, none⟩ (.int .i64 y3)).setCell ⟨hb, 6, none⟩ (.pointer none)).drew) = w5 at *
    have k5 : Kp [tb, hb] w w5 := (k4.mono (by simp)).trans (K5.mono (by simp))
    have hs5 := K5.size
    clear k4 K5
    have T6 := T5.kp ((Kp.refl [] w5).alloc (.cells #[.slice none 0 0] 116)) (by simp) (by simp) (by simp)
    have O6 := O5.kp ((Kp.refl [] w5).alloc (.cells #[.slice none 0 0] 116)) (by simp) (by simp)
    have X6 := BX.new w5
    have k6 := k5.alloc (.cells #[.slice none 0 0] 116)
    have q1 := T6.par
    clear T5 O5 k5
    have hob : w5.heap.size < (w5.alloc (.cells #[.slice none 0 0] 116)).heap.size := by simp
    have q2 := eql_nil_l
    have q3 := (BX.cell0 X6)
    go_wp2_with fail
    have hlb := Nat.lt_of_succ_lt O6.lt
    have htb : tb < (w5.alloc (.cells #[.slice none 0 0] 116)).heap.size := lt_of_cell T6.fr
    have qk := key_eq low sk hlo hk
    refine wp_region_kp (by kernel_rfl) (by kernel_rfl) ?_
    refine wpQuiet_step (fun K hK => ?_)
    rw [if_pos (by rfl)]
    refine quiet_load27 rfl rfl low hlo (fun w' hw' => range_kp O6.low hw' hlb) (hK _ ?_)
    clear hK K
    simp only [Act.put, List.setIfInBounds_toArray, List.set_cons_zero, List.set_cons_succ]
    refine wpQuiet_step (fun K hK => ?_)
    go_simp
    refine ⟨_, fun _ _ => rfl, hK _ ?_⟩
    clear hK K
    refine wpQuiet_step (fun K hK => ?_)
    go_simp
    refine ⟨_, fun _ _ => rfl, hK _ ?_⟩
    clear hK K
    refine wpQuiet_step (fun K hK => ?_)
    go_simp
    refine ⟨_, fun _ _ => rfl, hK _ ?_⟩
    clear hK K
    refine wpQuiet_step (fun K hK => ?_)
    rw [if_pos (by rfl)]
    refine quiet_load27 rfl rfl sk hk (fun w' hw' => range_kp T6.key hw' htb) (hK _ ?_)
    clear hK K
    simp only [Act.put, List.setIfInBounds_toArray, List.set_cons_zero, List.set_cons_succ]
    refine wpQuiet_step (fun K hK => ?_)
    go_simp
    refine ⟨_, fun _ _ => rfl, hK _ ?_⟩
    clear hK K
    refine wpQuiet_step (fun K hK => ?_)
    go_simp
    refine ⟨_, fun _ _ => rfl, hK _ ?_⟩
    clear hK K
    refine wpQuiet_nil ?_
    intro w7 K7
    have T7 := T6.kp K7 (by simp) (by simp) (by simp)
    have X7 := X6.kp (Nat.le_refl _) K7 (by simp)
    have O7 := O6.kp K7 (by simp) (by simp)
    have k7 := k6.trans (K7.mono (by simp))
    have hs7 := X7.ob_lt
    have hs6 := k6.size
    clear T6 X6 k6 O6 q1 q3 qk hlb htb K7 hob
    have q4 := T7.par
    have q5 := BX.cell0 X7
    go_wp2
    exact door7 _ _ rfl rfl rfl T7.mu (T7.ft 33) ⟨_, rfl, rfl, T7.setMu hk 0, (k7.setCell (p := ⟨tb, 33, none⟩) (by simp) _).toBelow (by omega) (by simp; omega)⟩

set_option maxRecDepth 20000 in
set_option maxHeartbeats 3200000 in
theorem takeProbe_far2 (tb l1 l2 hb mb B0 : Nat) (sk low : List UInt8) (hops x y x' y' bu ev : Int) (er : Value) (z1 z2 c2 : Bool) (w : World) (hk : sk.length = 32) (hlo : low.length = 32) (he : (low == sk) = false) (hh : ¬ hops < 255) (F : Tr w tb l1 l2 hb mb B0) (T : TW w tb l1 l2 sk 0 (.pointer (some ⟨l2, 0, none⟩)) z1 true z2 c2) (P : PP w l1 hb true bu ev x' y' er) (hbs : B0 ≤ w.heap.size) :
    Calls Ybad.prog 7 #[.pointer (some ⟨tb, 0, none⟩), .int .i64 1, .agg (kcl low).toArray, .int .i64 hops, .agg #[.int .u64 x, .int .i64 y, .pointer none]] w fun e w' =>
      ∃ sv, e = .returned (.tuple #[sv, .nilIface]) ∧ sv = .slice none 0 0 ∧ TW w' tb l1 l2 sk 0 (.pointer (some ⟨l2, 0, none⟩)) z1 true z2 c2 ∧ Below B0 w w' := by
  have K0 : Kp [] w ((w.alloc (.cells (kcl low).toArray 27)).alloc (.cells #[.int .u64 x, .int .i64 y, .pointer none] 43)) := ((Kp.refl _ _).alloc _).alloc _
  have O0 := Bo.new w low x y hlo
  have hb0 : tb < w.heap.size := lt_of_cell T.fr
  have hb1 : l1 < w.heap.size := lt_of_cell T.h1
  have hb2 : l2 < w.heap.size := lt_of_cell T.h2
  have hb3 : hb < w.heap.size := lt_of_cell P.t0
  obtain ⟨_, _, n1, n2, n3, n4, n5, n6, b0, bt, b1, b2, b3⟩ := id F
  go_enter_defers Ybad.func7, Ybad.ntmps7
  go_wp2_with (first
    | (go_at_call 15; refine (lock_any tb _ ((K0.cell hb0 (by simp)).trans T.mu) ((K0.frozen hb0 (by simp)).trans (T.ft 33))).mono ?_; rintro e w1 ⟨rfl, hw1⟩; obtain ⟨T1, P1, ht1, hl1, k1⟩ := locked_all hk F T P K0 hw1; have O1 := O0.kp hw1.kp (by simp; omega) (by simp; omega); clear hw1)
    | (go_at_call 17; refine (treeLink_tree tb mb l1 _ ht1 hl1 P1.tree).mono ?_; rintro e w2 ⟨rfl, bb2⟩; have T2 := T1.bel bb2; have tc := T2.child1))
  have k2 := k1.trans (Kp.ofBelow bb2 _)
  have P2 := P1.kp (Kp.ofBelow bb2 []) (by simp) (by simp) (by simp) (by simp)
  have O2 := O1.kp (Kp.ofBelow bb2 []) (by simp) (by simp)
  clear T1 P1 O1 ht1 hl1 k1 bb2 tc O0 T P F
  have KT : Kp [] w2 w2 := Kp.refl _ _
  obtain ⟨_, r1, r2, r3, r4, _, r5, r6, _⟩ := id P2
  obtain ⟨_, _, s1, s2, s3⟩ := id O2
  have hnew1 := World.new_ne w2 _ r5; have hnew2 := World.new_ne w2 _ r1; have hnew3 := World.new_ne w2 _ r2; have hnew4 := World.new_ne w2 _ s1
  go_region_held3 (fun w' => w'.cell? ⟨2, 0, none⟩ = some (.int .i64 bu) ∧ w'.cell? ⟨2, 1, none⟩ = some (.int .i64 ev) ∧ w'.cell? ⟨l1, 6, none⟩ = some (.pointer (some ⟨hb, 0, none⟩)) ∧ w'.cell? ⟨hb, 4, none⟩ = some (.int .u64 x') ∧ w'.cell? ⟨hb, 5, none⟩ = some (.int .i64 y') ∧ w'.cell? ⟨hb, 6, none⟩ = some (.pointer none)
      ∧ w'.cell? ⟨w.heap.size + 1, 0, none⟩ = some (.int .u64 x) ∧ w'.cell? ⟨w.heap.size + 1, 1, none⟩ = some (.int .i64 y) ∧ w'.cell? ⟨w.heap.size + 1, 2, none⟩ = some (.pointer none)) (go_keep)
    (first
      | (go_at_call 18; refine (take_any _ _ _ _ _ _ _).mono ?_; rintro e w3 ⟨⟨x3, y3, ok, rfl⟩, bb3⟩; first | (have K3 : Kp [] w2 w3 := kp_take0 bb3; have P3 := P2.kp K3 (by simp) (by simp) (by simp) (by simp); have O3 := O2.kp K3 (by simp) (by simp); have T3 := T2.kp K3 (by simp) (by simp) (by simp); obtain ⟨_, u1, u2, u3, u4, _, u5, u6, _⟩ := id P3; obtain ⟨_, _, v1, v2, v3⟩ := id O3; have hn1 := World.new_ne w3 _ u5; have hn2 := World.new_ne w3 _ u1; have hn3 := World.new_ne w3 _ u2; have hn4 := World.new_ne w3 _ v1) | (have K3 : Kp [] w2 w3 := kp_take bb3; have N3 : TB w3 w2.heap.size 0 0 (Value.pointer none) := (TB.new w2 0 0 (Value.pointer none) 43).bel bb3 rfl; obtain ⟨a1, a2, a3, a4, a5, a6⟩ := id N3; have hw2 : w2.heap.size < w3.heap.size := lt_of_cell a1; have P3 := P2.kp K3 (by simp) (by simp) (by simp) (by simp); have O3 := O2.kp K3 (by simp) (by simp); have T3 := T2.kp K3 (by simp) (by simp) (by simp); obtain ⟨_, u1, u2, u3, u4, _, u5, u6, _⟩ := id P3; obtain ⟨_, _, v1, v2, v3⟩ := id O3; have hn1 := World.new_ne w3 _ u5; have hn2 := World.new_ne w3 _ u1; have hn3 := World.new_ne w3 _ u2; have hn4 := World.new_ne w3 _ v1)))
  all_goals
    first
    | (have N4 := ((N3.set0 x3).set1 y3).set2 (.pointer none)
       have K4 := (((K3.setNew (p := ⟨w2.heap.size, 0, none⟩) (Nat.le_refl _) (.int .u64 x3)).setNew (p := ⟨w2.heap.size, 1, none⟩) (Nat.le_refl _) (.int .i64 y3)).setNew (p := ⟨w2.heap.size, 2, none⟩) (Nat.le_refl _) (.pointer none))
       have hnb := Nat.le_refl w2.heap.size
       have T4 := T2.kp K4 (by simp) (by simp) (by simp)
       have P4 := P2.kp K4 (by simp) (by simp) (by simp) (by simp)
       have O4 := O2.kp K4 (by simp) (by simp)
       clear T3 P3 O3 u1 u2 u3 u4 u5 u6 v1 v2 v3 hn1 hn2 hn3 hn4 r1 r2 r3 r4 r5 r6 s1 s2 s3 hnew1 hnew2 hnew3 hnew4 T2 P2 O2 K3 bb3
       clear N3 a1 a2 a3 a4 a5 a6 hw2
       generalize ((w3.setCell ⟨w2.heap.size, 0, none⟩ (.int .u64 x3)).setCell ⟨w2.heap.size, 1, none⟩ (.int .i64 y3)).setCell ⟨w2.heap.size, 2, none⟩ (.pointer none) = w4 at *
       obtain ⟨nb, hnbe⟩ : ∃ nb, nb = w2.heap.size := ⟨_, rfl⟩
       rw [← hnbe]
       rw [← hnbe] at N4
       replace hnb : w2.heap.size ≤ nb := by omega
       clear hnbe)
    | (have N4 := TB.new w3 x3 y3 (.pointer none) 43
       have K4 := K3.alloc (.cells #[.int .u64 x3, .int .i64 y3, .pointer none] 43)
       have hnb := K3.size
       have T4 := T2.kp K4 (by simp) (by simp) (by simp)
       have P4 := P2.kp K4 (by simp) (by simp) (by simp) (by simp)
       have O4 := O2.kp K4 (by simp) (by simp)
       clear T3 P3 O3 u1 u2 u3 u4 u5 u6 v1 v2 v3 hn1 hn2 hn3 hn4 r1 r2 r3 r4 r5 r6 s1 s2 s3 hnew1 hnew2 hnew3 hnew4 T2 P2 O2 K3 bb3
       generalize w3.alloc (.cells #[.int .u64 x3, .int .i64 y3, .pointer none] 43) = w4 at *
       generalize w3.heap.size = nb at *)
    have k4 := k2.trans (K4.mono (by simp))
    have hs4 := K4.size
    have hO4 := O4.lt
    have hs2 := k2.size
    clear K0 k2 K4
    cases ok
    · go_wp2
      exact door7 _ _ rfl rfl rfl T4.mu (T4.ft 33) ⟨_, rfl, rfl, T4.setMu hk 0, (k4.setCell (p := ⟨tb, 33, none⟩) (by simp) _).toBelow (by omega) (by simp; omega)⟩
    go_wp2_with fail
    obtain ⟨_, r1, r2, r3, r4, r7, r5, r6, _⟩ := id P4
    obtain ⟨a1, a2, a3, _, _, _⟩ := id N4
    have z4 := r7 4; have z5 := r7 5; have z6 := r7 6
    clear r7
    have d1 : hb ≠ nb := by omega
    have d2 : l1 ≠ nb := by omega
    go_region_held3 (fun w' => w'.cell? ⟨l1, 6, none⟩ = some (.pointer (some ⟨hb, 0, none⟩)) ∧ w'.cell? ⟨nb, 0, none⟩ = some (.int .u64 x3) ∧ w'.cell? ⟨nb, 1, none⟩ = some (.int .i64 y3) ∧ w'.cell? ⟨nb, 2, none⟩ = some (.pointer none)) (go_keep) (fail)
    have K5 : Kp [hb] w4 ((((w4.setCell ⟨hb, 4, none⟩ (.int .u64 x3)).setCell ⟨hb, 5, none⟩ (.int .i64 y3)).setCell ⟨hb, 6, none⟩ (.pointer none)).drew) := ((((Kp.refl _ w4).setCell (by simp) _).setCell (by simp) _).setCell (by simp) _).drew
    have T5 := T4.kp K5 (by simp [Ne.symm n4]) (by simp [Ne.symm n5]) (by simp [Ne.symm n6])
    have O5 := O4.kp K5 (by simp; omega) (by simp; omega)
    clear T4 O4 P4 N4 r1 r2 r3 r4 r5 r6 a1 a2 a3 z4 z5 z6
    generalize ((((w4.setCell ⟨hb, 4, none⟩ (.int .u64 x3)).setCell ⟨hb, 5, none⟩ (.int .i64 y3)).setCell ⟨hb, 6, none⟩ (.pointer none)).drew) = w5 at *
    have k5 : Kp [tb, hb] w w5 := (k4.mono (by simp)).trans (K5.mono (by simp))
    have hs5 := K5.size
    clear k4 K5
    have T6 := T5.kp ((Kp.refl [] w5).alloc (.cells #[.slice none 0 0] 116)) (by simp) (by simp) (by simp)
    have O6 := O5.kp ((Kp.refl [] w5).alloc (.cells #[.slice none 0 0] 116)) (by simp) (by simp)
    have X6 := BX.new w5
    have k6 := k5.alloc (.cells #[.slice none 0 0] 116)
    have q1 := T6.par
    clear T5 O5 k5
    have hob : w5.heap.size < (w5.alloc (.cells #[.slice none 0 0] 116)).heap.size := by simp
    have q2 := eql_ptr_other n3 T6.p2 T6.p1
    have q3 := (BX.cell0 X6)
    go_wp2_with fail
    have hlb := Nat.lt_of_succ_lt O6.lt
    have htb : tb < (w5.alloc (.cells #[.slice none 0 0] 116)).heap.size := lt_of_cell T6.fr
    have qk := key_eq low sk hlo hk
    refine wp_region_kp (by kernel_rfl) (by kernel_rfl) ?_
    refine wpQuiet_step (fun K hK => ?_)
    rw [if_pos (by rfl)]
    refine quiet_load27 rfl rfl low hlo (fun w' hw' => range_kp O6.low hw' hlb) (hK _ ?_)
    clear hK K
    simp only [Act.put, List.setIfInBounds_toArray, List.set_cons_zero, List.set_cons_succ]
    refine wpQuiet_step (fun K hK => ?_)
    go_simp
    refine ⟨_, fun _ _ => rfl, hK _ ?_⟩
    clear hK K
    refine wpQuiet_step (fun K hK => ?_)
    go_simp
    refine ⟨_, fun _ _ => rfl, hK _ ?_⟩
    clear hK K
    refine wpQuiet_step (fun K hK => ?_)
    go_simp
    refine ⟨_, fun _ _ => rfl, hK _ ?_⟩
    clear hK K
    refine wpQuiet_step (fun K hK => ?_)
    rw [if_pos (by rfl)]
    refine quiet_load27 rfl rfl sk hk (fun w' hw' => range_kp T6.key hw' htb) (hK _ ?_)
    clear hK K
    simp only [Act.put, List.setIfInBounds_toArray, List.set_cons_zero, List.set_cons_succ]
    refine wpQuiet_step (fun K hK => ?_)
    go_simp
    refine ⟨_, fun _ _ => rfl, hK _ ?_⟩
    clear hK K
    refine wpQuiet_step (fun K hK => ?_)
    go_simp
    refine ⟨_, fun _ _ => rfl, hK _ ?_⟩
    clear hK K
    refine wpQuiet_nil ?_
    intro w7 K7
    have T7 := T6.kp K7 (by simp) (by simp) (by simp)
    have X7 := X6.kp (Nat.le_refl _) K7 (by simp)
    have O7 := O6.kp K7 (by simp) (by simp)
    have k7 := k6.trans (K7.mono (by simp))
    have hs7 := X7.ob_lt
    have hs6 := k6.size
    clear T6 X6 k6 O6 q1 q3 qk hlb htb K7 hob
    have q4 := T7.par
    have q5 := BX.cell0 X7
    go_wp2
    exact door7 _ _ rfl rfl rfl T7.mu (T7.ft 33) ⟨_, rfl, rfl, T7.setMu hk 0, (k7.setCell (p := ⟨tb, 33, none⟩) (by simp) _).toBelow (by omega) (by simp; omega)⟩

set_option maxRecDepth 20000 in
set_option maxHeartbeats 3200000 in
theorem takeProbe_fwdlt (tb l1 l2 hb mb B0 : Nat) (sk low : List UInt8) (hops x y x' y' bu ev : Int) (er : Value) (z1 z2 c2 : Bool) (w : World) (hk : sk.length = 32) (hlo : low.length = 32) (he : (low == sk) = false) (hh : hops < 255) (hc : cmpL sk low < 0) (F : Tr w tb l1 l2 hb mb B0) (T : TW w tb l1 l2 sk 0 (.pointer (some ⟨l2, 0, none⟩)) z1 true z2 c2) (P : PP w l1 hb true bu ev x' y' er) (hbs : B0 ≤ w.heap.size) :
    Calls Ybad.prog 7 #[.pointer (some ⟨tb, 0, none⟩), .int .i64 1, .agg (kcl low).toArray, .int .i64 hops, .agg #[.int .u64 x, .int .i64 y, .pointer none]] w fun e w' =>
      ∃ sv, e = .returned (.tuple #[sv, .nilIface]) ∧ ((sv = .slice none 0 0 ∧ TW w' tb l1 l2 sk 0 (.pointer (some ⟨l2, 0, none⟩)) z1 true z2 c2) ∨ (GotS w' sv [(2, pbs sk (IntKind.i64.wrap (hops + 1)) 8)] ∧ TW w' tb l1 l2 sk 0 (.pointer (some ⟨l2, 0, none⟩)) z1 true z2 c2)) ∧ Below B0 w w' := by
  have K0 : Kp [] w ((w.alloc (.cells (kcl low).toArray 27)).alloc (.cells #[.int .u64 x, .int .i64 y, .pointer none] 43)) := ((Kp.refl _ _).alloc _).alloc _
  have O0 := Bo.new w low x y hlo
  have hb0 : tb < w.heap.size := lt_of_cell T.fr
  have hb1 : l1 < w.heap.size := lt_of_cell T.h1
  have hb2 : l2 < w.heap.size := lt_of_cell T.h2
  have hb3 : hb < w.heap.size := lt_of_cell P.t0
  obtain ⟨_, _, n1, n2, n3, n4, n5, n6, b0, bt, b1, b2, b3⟩ := id F
  go_enter_defers Ybad.func7, Ybad.ntmps7
  go_wp2_with (first
    | (go_at_call 15; refine (lock_any tb _ ((K0.cell hb0 (by simp)).trans T.mu) ((K0.frozen hb0 (by simp)).trans (T.ft 33))).mono ?_; rintro e w1 ⟨rfl, hw1⟩; obtain ⟨T1, P1, ht1, hl1, k1⟩ := locked_all hk F T P K0 hw1; have O1 := O0.kp hw1.kp (by simp; omega) (by simp; omega); clear hw1)
    | (go_at_call 17; refine (treeLink_tree tb mb l1 _ ht1 hl1 P1.tree).mono ?_; rintro e w2 ⟨rfl, bb2⟩; have T2 := T1.bel bb2; have tc := T2.child1))
  have k2 := k1.trans (Kp.ofBelow bb2 _)
  have P2 := P1.kp (Kp.ofBelow bb2 []) (by simp) (by simp) (by simp) (by simp)
  have O2 := O1.kp (Kp.ofBelow bb2 []) (by simp) (by simp)
  clear T1 P1 O1 ht1 hl1 k1 bb2 tc O0 T P F
  have KT : Kp [] w2 w2 := Kp.refl _ _
  obtain ⟨_, r1, r2, r3, r4, _, r5, r6, _⟩ := id P2
  obtain ⟨_, _, s1, s2, s3⟩ := id O2
  have hnew1 := World.new_ne w2 _ r5; have hnew2 := World.new_ne w2 _ r1; have hnew3 := World.new_ne w2 _ r2; have hnew4 := World.new_ne w2 _ s1
  go_region_held3 (fun w' => w'.cell? ⟨2, 0, none⟩ = some (.int .i64 bu) ∧ w'.cell? ⟨2, 1, none⟩ = some (.int .i64 ev) ∧ w'.cell? ⟨l1, 6, none⟩ = some (.pointer (some ⟨hb, 0, none⟩)) ∧ w'.cell? ⟨hb, 4, none⟩ = some (.int .u64 x') ∧ w'.cell? ⟨hb, 5, none⟩ = some (.int .i64 y') ∧ w'.cell? ⟨hb, 6, none⟩ = some (.pointer none)
      ∧ w'.cell? ⟨w.heap.size + 1, 0, none⟩ = some (.int .u64 x) ∧ w'.cell? ⟨w.heap.size + 1, 1, none⟩ = some (.int .i64 y) ∧ w'.cell? ⟨w.heap.size + 1, 2, none⟩ = some (.pointer none)) (go_keep)
    (first
      | (go_at_call 18; refine (take_any _ _ _ _ _ _ _).mono ?_; rintro e w3 ⟨⟨x3, y3, ok, rfl⟩, bb3⟩; first | (have K3 : Kp [] w2 w3 := kp_take0 bb3; have P3 := P2.kp K3 (by simp) (by simp) (by simp) (by simp); have O3 := O2.kp K3 (by simp) (by simp); have T3 := T2.kp K3 (by simp) (by simp) (by simp); obtain ⟨_, u1, u2, u3, u4, _, u5, u6, _⟩ := id P3; obtain ⟨_, _, v1, v2, v3⟩ := id O3; have hn1 := World.new_ne w3 _ u5; have hn2 := World.new_ne w3 _ u1; have hn3 := World.new_ne w3 _ u2; have hn4 := World.new_ne w3 _ v1) | (have K3 : Kp [] w2 w3 := kp_take bb3; have N3 : TB w3 w2.heap.size 0 0 (Value.pointer none) := (TB.new w2 0 0 (Value.pointer none) 43).bel bb3 rfl; obtain ⟨a1, a2, a3, a4, a5, a6⟩ := id N3; have hw2 : w2.heap.size < w3.heap.size := lt_of_cell a1; have P3 := P2.kp K3 (by simp) (by simp) (by simp) (by simp); have O3 := O2.kp K3 (by simp) (by simp); have T3 := T2.kp K3 (by simp) (by simp) (by simp); obtain ⟨_, u1, u2, u3, u4, _, u5, u6, _⟩ := id P3; obtain ⟨_, _, v1, v2, v3⟩ := id O3; have hn1 := World.new_ne w3 _ u5; have hn2 := World.new_ne w3 _ u1; have hn3 := World.new_ne w3 _ u2; have hn4 := World.new_ne w3 _ v1)))
  all_goals
    first
    | (have N4 := ((N3.set0 x3).set1 y3).set2 (.pointer none)
       have K4 := (((K3.setNew (p := ⟨w2.heap.size, 0, none⟩) (Nat.le_refl _) (.int .u64 x3)).setNew (p := ⟨w2.heap.size, 1, none⟩) (Nat.le_refl _) (.int .i64 y3)).setNew (p := ⟨w2.heap.size, 2, none⟩) (Nat.le_refl _) (.pointer none))
       have hnb := Nat.le_refl w2.heap.size
       have T4 := T2.kp K4 (by simp) (by simp) (by simp)
       have P4 := P2.kp K4 (by simp) (by simp) (by simp) (by simp)
       have O4 := O2.kp K4 (by simp) (by simp)
       clear T3 P3 O3 u1 u2 u3 u4 u5 u6 v1 v2 v3 hn1 hn2 hn3 hn4 r1 r2 r3 r4 r5 r6 s1 s2 s3 hnew1 hnew2 hnew3 hnew4 T2 P2 O2 K3 bb3
       clear N3 a1 a2 a3 a4 a5 a6 hw2
       generalize ((w3.setCell ⟨w2.heap.size, 0, none⟩ (.int .u64 x3)).setCell ⟨w2.heap.size, 1, none⟩ (.int .i64 y3)).setCell ⟨w2.heap.size, 2, none⟩ (.pointer none) = w4 at *
       obtain ⟨nb, hnbe⟩ : ∃ nb, nb = w2.heap.size := ⟨_, rfl⟩
       rw [← hnbe]
       rw [← hnbe] at N4
       replace hnb : w2.heap.size ≤ nb := by omega
       clear hnbe)
    | (have N4 := TB.new w3 x3 y3 (.pointer none) 43
       have K4 := K3.alloc (.cells #[.int .u64 x3, .int .i64 y3, .pointer none] 43)
       have hnb := K3.size
       have T4 := T2.kp K4 (by simp) (by simp) (by simp)
       have P4 := P2.kp K4 (by simp) (by simp) (by simp) (by simp)
       have O4 := O2.kp K4 (by simp) (by simp)
       clear T3 P3 O3 u1 u2 u3 u4 u5 u6 v1 v2 v3 hn1 hn2 hn3 hn4 r1 r2 r3 r4 r5 r6 s1 s2 s3 hnew1 hnew2 hnew3 hnew4 T2 P2 O2 K3 bb3
       generalize w3.alloc (.cells #[.int .u64 x3, .int .i64 y3, .pointer none] 43) = w4 at *
       generalize w3.heap.size = nb at *)
    have k4 := k2.trans (K4.mono (by simp))
    have hs4 := K4.size
    have hO4 := O4.lt
    have hs2 := k2.size
    clear K0 k2 K4
    cases ok
    · go_wp2
      exact door7 _ _ rfl rfl rfl T4.mu (T4.ft 33) ⟨_, rfl, .inl ⟨rfl, T4.setMu hk 0⟩, (k4.setCell (p := ⟨tb, 33, none⟩) (by simp) _).toBelow (by omega) (by simp; omega)⟩
    go_wp2_with fail
    obtain ⟨_, r1, r2, r3, r4, r7, r5, r6, _⟩ := id P4
    obtain ⟨a1, a2, a3, _, _, _⟩ := id N4
    have z4 := r7 4; have z5 := r7 5; have z6 := r7 6
    clear r7
    have d1 : hb ≠ nb := by omega
    have d2 : l1 ≠ nb := by omega
    go_region_held3 (fun w' => w'.cell? ⟨l1, 6, none⟩ = some (.pointer (some ⟨hb, 0, none⟩)) ∧ w'.cell? ⟨nb, 0, none⟩ = some (.int .u64 x3) ∧ w'.cell? ⟨nb, 1, none⟩ = some (.int .i64 y3) ∧ w'.cell? ⟨nb, 2, none⟩ = some (.pointer none)) (go_keep) (fail)
    have K5 : Kp [hb] w4 ((((w4.setCell ⟨hb, 4, none⟩ (.int .u64 x3)).setCell ⟨hb, 5, none⟩ (.int .i64 y3)).setCell ⟨hb, 6, none⟩ (.pointer none)).drew) := ((((Kp.refl _ w4).setCell (by simp) _).setCell (by simp) _).setCell (by simp) _).drew
    have T5 := T4.kp K5 (by simp [Ne.symm n4]) (by simp [Ne.symm n5]) (by simp [Ne.symm n6])
    have O5 := O4.kp K5 (by simp; omega) (by simp; omega)
    clear T4 O4 P4 N4 r1 r2 r3 r4 r5 r6 a1 a2 a3 z4 z5 z6
    generalize ((((w4.setCell ⟨hb, 4, none⟩ (.int .u64 x3)).setCell ⟨hb, 5, none⟩ (.int .i64 y3)).setCell ⟨hb, 6, none⟩ (.pointer none)).drew) = w5 at *
    have k5 : Kp [tb, hb] w w5 := (k4.mono (by simp)).trans (K5.mono (by simp))
    have hs5 := K5.size
    clear k4 K5
    have T6 := T5.kp ((Kp.refl [] w5).alloc (.cells #[.slice none 0 0] 116)) (by simp) (by simp) (by simp)
    have O6 := O5.kp ((Kp.refl [] w5).alloc (.cells #[.slice none 0 0] 116)) (by simp) (by simp)
    have X6 := BX.new w5
    have k6 := k5.alloc (.cells #[.slice none 0 0] 116)
    have q1 := T6.par
    clear T5 O5 k5
    have hob : w5.heap.size < (w5.alloc (.cells #[.slice none 0 0] 116)).heap.size := by simp
    have q2 := eql_ptr_other n3 T6.p2 T6.p1
    have q3 := (BX.cell0 X6)
    go_wp2_with fail
    have hlb := Nat.lt_of_succ_lt O6.lt
    have htb : tb < (w5.alloc (.cells #[.slice none 0 0] 116)).heap.size := lt_of_cell T6.fr
    have qk := key_eq low sk hlo hk
    refine wp_region_kp (by kernel_rfl) (by kernel_rfl) ?_
    refine wpQuiet_step (fun K hK => ?_)
    rw [if_pos (by rfl)]
    refine quiet_load27 rfl rfl low hlo (fun w' hw' => range_kp O6.low hw' hlb) (hK _ ?_)
    clear hK K
    simp only [Act.put, List.setIfInBounds_toArray, List.set_cons_zero, List.set_cons_succ]
    refine wpQuiet_step (fun K hK => ?_)
    go_simp
    refine ⟨_, fun _ _ => rfl, hK _ ?_⟩
    clear hK K
    refine wpQuiet_step (fun K hK => ?_)
    go_simp
    refine ⟨_, fun _ _ => rfl, hK _ ?_⟩
    clear hK K
    refine wpQuiet_step (fun K hK => ?_)
    go_simp
    refine ⟨_, fun _ _ => rfl, hK _ ?_⟩
    clear hK K
    refine wpQuiet_step (fun K hK => ?_)
    rw [if_pos (by rfl)]
    refine quiet_load27 rfl rfl sk hk (fun w' hw' => range_kp T6.key hw' htb) (hK _ ?_)
    clear hK K
    simp only [Act.put, List.setIfInBounds_toArray, List.set_cons_zero, List.set_cons_succ]
    refine wpQuiet_step (fun K hK => ?_)
    go_simp
    refine ⟨_, fun _ _ => rfl, hK _ ?_⟩
    clear hK K
    refine wpQuiet_step (fun K hK => ?_)
    go_simp
    refine ⟨_, fun _ _ => rfl, hK _ ?_⟩
    clear hK K
    refine wpQuiet_nil ?_
    intro w7 K7
    have T7 := T6.kp K7 (by simp) (by simp) (by simp)
    have X7 := X6.kp (Nat.le_refl _) K7 (by simp)
    have O7 := O6.kp K7 (by simp) (by simp)
    have k7 := k6.trans (K7.mono (by simp))
    have hs7 := X7.ob_lt
    have hs6 := k6.size
    clear T6 X6 k6 O6 q1 q3 qk hlb htb K7 hob
    have q4 := T7.par
    have q5 := BX.cell0 X7
    go_wp2_with fail
    have hlb := Nat.lt_of_succ_lt O7.lt
    have htb : tb < w7.heap.size := lt_of_cell T7.fr
    refine wp_region_kp (by kernel_rfl) (by kernel_rfl) ?_
    refine wpQuiet_step (fun K hK => ?_)
    go_simp
    refine ⟨_, fun _ _ => rfl, hK _ ?_⟩
    clear hK K
    refine wpQuiet_step (fun K hK => ?_)
    go_simp
    refine ⟨_, fun _ _ => rfl, hK _ ?_⟩
    clear hK K
    refine wpQuiet_step (fun K hK => ?_)
    go_simp
    refine ⟨_, fun _ _ => rfl, hK _ ?_⟩
    clear hK K
    refine wpQuiet_step (fun K hK => ?_)
    rw [if_pos (by rfl)]
    refine quiet_load27 rfl rfl sk hk (fun w' hw' => range_kp T7.key hw' htb) (hK _ ?_)
    clear hK K
    simp only [Act.put, List.setIfInBounds_toArray, List.set_cons_zero, List.set_cons_succ]
    refine wpQuiet_step (fun K hK => ?_)
    rw [if_pos (by rfl)]
    refine quiet_load27 rfl rfl low hlo (fun w' hw' => range_kp O7.low hw' hlb) (hK _ ?_)
    clear hK K
    simp only [Act.put, List.setIfInBounds_toArray, List.set_cons_zero, List.set_cons_succ]
    refine wpQuiet_step (fun K hK => ?_)
    go_simp
    refine ⟨.int .i64 (cmpL sk low), fun w' hw' => ?_, hK _ ?_⟩
    · refine (compareKeys_any sk low _ hk hlo).mono ?_
      rintro e w'' ⟨rfl, hb⟩
      exact ⟨rfl, hw'.below hb⟩
    clear hK K
    refine wpQuiet_step (fun K hK => ?_)
    go_simp
    refine ⟨_, fun _ _ => rfl, hK _ ?_⟩
    clear hK K
    refine wpQuiet_nil ?_
    intro w8 K8
    have T8 := T7.kp K8 (by simp) (by simp) (by simp)
    have X8 := X7.kp (Nat.le_refl _) K8 (by simp)
    have O8 := O7.kp K8 (by simp) (by simp)
    have k8 := k7.trans (K8.mono (by simp))
    have hs8 := X8.ob_lt
    clear T7 X7 O7 k7 K8 q4 q5 hlb htb
    have q4 := T8.par
    have q5 := BX.cell0 X8
    have hkz : (kcl sk).toArray.size = 32 := by simp [kcl_length, hk]
    have hth : w8.there w.heap.size 0 (kcl sk).toArray.size := by rw [hkz]; exact O8.th
    have hsz : (Ybad.prog.info? 27).map (·.size) = some (kcl sk).toArray.size := by rw [List.size_toArray]; exact size_key hk
    go_wp2_with (first
      | (refine wpList_load_mid rfl 27 _ rfl _ _ rfl (kcl sk) _ T8.key Ybad.underlying27 rfl (size_key hk) ?_)
      | (refine wpList_store_mid rfl 27 _ _ rfl _ _ (kcl sk).toArray rfl rfl hth hsz (all_oneCell_toArray (kcl_one sk)) ?_; refine Hid.out ?_))
    refine Lib.hid ?_
    have K9 := kp_setCells w.heap.size (kcl sk).toArray.toList 0 w8
    have R9 : (w8.setCells w.heap.size 0 (kcl sk).toArray.toList).rangeAt w.heap.size 0 (kcl sk) := World.rangeAt_setCells_same w8 w.heap.size 0 (kcl sk) (by rw [kcl_length, hk]; exact O8.th)
    have T9 := T8.kp K9 (by simp; omega) (by simp; omega) (by simp; omega)
    have X9 := X8.kp (Nat.le_refl _) K9 (by simp; omega)
    have k9 := (k8.mono (L' := [tb, hb, w.heap.size]) (by simp)).trans (K9.mono (by simp))
    have hs9 := X9.ob_lt
    clear T8 X8 O8 k8 K9 q4 q5 hth hsz
    generalize w8.setCells w.heap.size 0 (kcl sk).toArray.toList = w9 at *
    have t1 := T9.par
    have t2 := T9.fr
    have hu := Ybad.underlying27
    have hi := size_key hk
    have hlen : (kcl sk).length = 32 := by rw [kcl_length, hk]
    have hone := kcl_one sk
    have hah := meth_probe
    have hbw := X9.base
    go_wp2_with fail
    go_region_held3 (fun w' => w'.rangeAt w.heap.size 0 (kcl sk) ∧ w'.cell? ⟨tb, 32, none⟩ = some (.iface 107 (.agg #[])) ∧ w'.cell? ⟨tb, 37, none⟩ = some (.pointer (some ⟨l2, 0, none⟩))) (go_keep)
      (first
        | (go_at_call 117; refine (probeM_any sk (IntKind.i64.wrap (hops + 1)) _ hk).mono ?_; rintro e wa ⟨ga, capa, rfl, Fa⟩; have KKa : Kp [] w9 wa := kp_take0 Fa.bel; have Ta := T9.kp KKa (by simp) (by simp) (by simp); have Xa := X9.kp (Nat.le_refl _) KKa (by simp); have ta1 := Ta.par; have ta2 := Ta.fr; have ta3 := range_kp R9 KKa (by omega); have hge : w9.heap.size ≤ ga := Fa.ge; have hlt := Fa.lt)
        | (go_at_call 21; refine (send_bx w5.heap.size l2 w5.heap.size _ 2 ga capa 41 (pbs sk (IntKind.i64.wrap (hops + 1)) 8) _ _ Xa (Nat.le_refl _) Ta.h2 (by simp) (pbs_length sk _ 8 hk) (by omega) hlt (by omega) (by simp [Value.ownBlock]) Fa.row).mono ?_; rintro e wb ⟨rfl, svb, Xb, kb, hsb, ggb, ccb, rfl⟩; have Tb := Ta.kp kb (Xa.far (Nat.le_refl _) (by omega)) (Xa.far (Nat.le_refl _) (by omega)) (Xa.far (Nat.le_refl _) (by omega)); have tb1 := Tb.par; have tb2 := Tb.fr; have tb3 : wb.rangeAt w.heap.size 0 (kcl sk) := fun j v hv => (kb.cell (p := ⟨w.heap.size, 0 + j, none⟩) (show w.heap.size < wa.heap.size by omega) (Xa.far (t := w.heap.size) (Nat.le_refl _) (by omega))).trans (ta3 j v hv); have q9 := BX.cell0 Xb))
    go_wp2
    have GT := BX.got (tb := tb) (l := [(2, pbs sk (IntKind.i64.wrap (hops + 1)) 8)]) Xb (show tb < w5.heap.size by omega) (.int .i32 0)
    exact door7 _ _ rfl rfl rfl Tb.mu (Tb.ft 33) ⟨_, rfl, .inr ⟨GT, Tb.setMu hk 0⟩, ((((k9.trans (KKa.mono (by simp))).toBelow (by omega) (by simp; omega)).trans (kb.toBelow (by have := KKa.size; omega) (fun k hm => by have := Xa.ges (Nat.le_refl _) k hm; omega)))).setCell (p := ⟨tb, 33, none⟩) (by omega) _⟩

set_option maxRecDepth 20000 in
set_option maxHeartbeats 3200000 in
theorem takeProbe_fwdge (tb l1 l2 hb mb B0 : Nat) (sk low : List UInt8) (hops x y x' y' bu ev : Int) (er : Value) (z1 z2 c2 : Bool) (w : World) (hk : sk.length = 32) (hlo : low.length = 32) (he : (low == sk) = false) (hh : hops < 255) (hc : ¬ cmpL sk low < 0) (F : Tr w tb l1 l2 hb mb B0) (T : TW w tb l1 l2 sk 0 (.pointer (some ⟨l2, 0, none⟩)) z1 true z2 c2) (P : PP w l1 hb true bu ev x' y' er) (hbs : B0 ≤ w.heap.size) :
    Calls Ybad.prog 7 #[.pointer (some ⟨tb, 0, none⟩), .int .i64 1, .agg (kcl low).toArray, .int .i64 hops, .agg #[.int .u64 x, .int .i64 y, .pointer none]] w fun e w' =>
      ∃ sv, e = .returned (.tuple #[sv, .nilIface]) ∧ ((sv = .slice none 0 0 ∧ TW w' tb l1 l2 sk 0 (.pointer (some ⟨l2, 0, none⟩)) z1 true z2 c2) ∨ (GotS w' sv [(2, pbs low (IntKind.i64.wrap (hops + 1)) 8)] ∧ TW w' tb l1 l2 sk 0 (.pointer (some ⟨l2, 0, none⟩)) z1 true z2 c2)) ∧ Below B0 w w' := by
  have K0 : Kp [] w ((w.alloc (.cells (kcl low).toArray 27)).alloc (.cells #[.int .u64 x, .int .i64 y, .pointer none] 43)) := ((Kp.refl _ _).alloc _).alloc _
  have O0 := Bo.new w low x y hlo
  have hb0 : tb < w.heap.size := lt_of_cell T.fr
  have hb1 : l1 < w.heap.size := lt_of_cell T.h1
  have hb2 : l2 < w.heap.size := lt_of_cell T.h2
  have hb3 : hb < w.heap.size := lt_of_cell P.t0
  obtain ⟨_, _, n1, n2, n3, n4, n5, n6, b0, bt, b1, b2, b3⟩ := id F
  go_enter_defers Ybad.func7, Ybad.ntmps7
  go_wp2_with (first
    | (go_at_call 15; refine (lock_any tb _ ((K0.cell hb0 (by simp)).trans T.mu) ((K0.frozen hb0 (by simp)).trans (T.ft 33))).mono ?_; rintro e w1 ⟨rfl, hw1⟩; obtain ⟨T1, P1, ht1, hl1, k1⟩ := locked_all hk F T P K0 hw1; have O1 := O0.kp hw1.kp (by simp; omega) (by simp; omega); clear hw1)
    | (go_at_call 17; refine (treeLink_tree tb mb l1 _ ht1 hl1 P1.tree).mono ?_; rintro e w2 ⟨rfl, bb2⟩; have T2 := T1.bel bb2; have tc := T2.child1))
  have k2 := k1.trans (Kp.ofBelow bb2 _)
  have P2 := P1.kp (Kp.ofBelow bb2 []) (by simp) (by simp) (by simp) (by simp)
  have O2 := O1.kp (Kp.ofBelow bb2 []) (by simp) (by simp)
  clear T1 P1 O1 ht1 hl1 k1 bb2 tc O0 T P F
  have KT : Kp [] w2 w2 := Kp.refl _ _
  obtain ⟨_, r1, r2, r3, r4, _, r5, r6, _⟩ := id P2
  obtain ⟨_, _, s1, s2, s3⟩ := id O2
  have hnew1 := World.new_ne w2 _ r5; have hnew2 := World.new_ne w2 _ r1; have hnew3 := World.new_ne w2 _ r2; have hnew4 := World.new_ne w2 _ s1
  go_region_held3 (fun w' => w'.cell? ⟨2, 0, none⟩ = some (.int .i64 bu) ∧ w'.cell? ⟨2, 1, none⟩ = some (.int .i64 ev) ∧ w'.cell? ⟨l1, 6, none⟩ = some (.pointer (some ⟨hb, 0, none⟩)) ∧ w'.cell? ⟨hb, 4, none⟩ = some (.int .u64 x') ∧ w'.cell? ⟨hb, 5, none⟩ = some (.int .i64 y') ∧ w'.cell? ⟨hb, 6, none⟩ = some (.pointer none)
      ∧ w'.cell? ⟨w.heap.size + 1, 0, none⟩ = some (.int .u64 x) ∧ w'.cell? ⟨w.heap.size + 1, 1, none⟩ = some (.int .i64 y) ∧ w'.cell? ⟨w.heap.size + 1, 2, none⟩ = some (.pointer none)) (go_keep)
    (first
      | (go_at_call 18; refine (take_any _ _ _ _ _ _ _).mono ?_; rintro e w3 ⟨⟨x3, y3, ok, rfl⟩, bb3⟩; first | (have K3 : Kp [] w2 w3 := kp_take0 bb3; have P3 := P2.kp K3 (by simp) (by simp) (by simp) (by simp); have O3 := O2.kp K3 (by simp) (by simp); have T3 := T2.kp K3 (by simp) (by simp) (by simp); obtain ⟨_, u1, u2, u3, u4, _, u5, u6, _⟩ := id P3; obtain ⟨_, _, v1, v2, v3⟩ := id O3; have hn1 := World.new_ne w3 _ u5; have hn2 := World.new_ne w3 _ u1; have hn3 := World.new_ne w3 _ u2; have hn4 := World.new_ne w3 _ v1) | (have K3 : Kp [] w2 w3 := kp_take bb3; have N3 : TB w3 w2.heap.size 0 0 (Value.pointer none) := (TB.new w2 0 0 (Value.pointer none) 43).bel bb3 rfl; obtain ⟨a1, a2, a3, a4, a5, a6⟩ := id N3; have hw2 : w2.heap.size < w3.heap.size := lt_of_cell a1; have P3 := P2.kp K3 (by simp) (by simp) (by simp) (by simp); have O3 := O2.kp K3 (by simp) (by simp); have T3 := T2.kp K3 (by simp) (by simp) (by simp); obtain ⟨_, u1, u2, u3, u4, _, u5, u6, _⟩ := id P3; obtain ⟨_, _, v1, v2, v3⟩ := id O3; have hn1 := World.new_ne w3 _ u5; have hn2 := World.new_ne w3 _ u1; have hn3 := World.new_ne w3 _ u2; have hn4 := World.new_ne w3 _ v1)))
  all_goals
    first
    | (have N4 := ((N3.set0 x3).set1 y3).set2 (.pointer none)
       have K4 := (((K3.setNew (p := ⟨w2.heap.size, 0, none⟩) (Nat.le_refl _) (.int .u64 x3)).setNew (p := ⟨w2.heap.size, 1, none⟩) (Nat.le_refl _) (.int .i64 y3)).setNew (p := ⟨w2.heap.size, 2, none⟩) (Nat.le_refl _) (.pointer none))
       have hnb := Nat.le_refl w2.heap.size
       have T4 := T2.kp K4 (by simp) (by simp) (by simp)
       have P4 := P2.kp K4 (by simp) (by simp) (by simp) (by simp)
       have O4 := O2.kp K4 (by simp) (by simp)
       clear T3 P3 O3 u1 u2 u3 u4 u5 u6 v1 v2 v3 hn1 hn2 hn3 hn4 r1 r2 r3 r4 r5 r6 s1 s2 s3 hnew1 hnew2 hnew3 hnew4 T2 P2 O2 K3 bb3
       clear N3 a1 a2 a3 a4 a5 a6 hw2
       generalize ((w3.setCell ⟨w2.heap.size, 0, none⟩ (.int .u64 x3)).setCell ⟨w2.heap.size, 1, none⟩ (.int .i64 y3)).setCell ⟨w2.heap.size, 2, none⟩ (.pointer none) = w4 at *
       obtain ⟨nb, hnbe⟩ : ∃ nb, nb = w2.heap.size := ⟨_, rfl⟩
       rw [← hnbe]
       rw [← hnbe] at N4
       replace hnb : w2.heap.size ≤ nb := by omega
       clear hnbe)
    | (have N4 := TB.new w3 x3 y3 (.pointer none) 43
       have K4 := K3.alloc (.cells #[.int .u64 x3, .int .i64 y3, .pointer none] 43)
       have hnb := K3.size
       have T4 := T2.kp K4 (by simp) (by simp) (by simp)
       have P4 := P2.kp K4 (by simp) (by simp) (by simp) (by simp)
       have O4 := O2.kp K4 (by simp) (by simp)
       clear T3 P3 O3 u1 u2 u3 u4 u5 u6 v1 v2 v3 hn1 hn2 hn3 hn4 r1 r2 r3 r4 r5 r6 s1 s2 s3 hnew1 hnew2 hnew3 hnew4 T2 P2 O2 K3 bb3
       generalize w3.alloc (.cells #[.int .u64 x3, .int .i64 y3, .pointer none] 43) = w4 at *
       generalize w3.heap.size = nb at *)
    have k4 := k2.trans (K4.mono (by simp))
    have hs4 := K4.size
    have hO4 := O4.lt
    have hs2 := k2.size
    clear K0 k2 K4
    cases ok
    · go_wp2
      exact door7 _ _ rfl rfl rfl T4.mu (T4.ft 33) ⟨_, rfl, .inl ⟨rfl, T4.setMu hk 0⟩, (k4.setCell (p := ⟨tb, 33, none⟩) (by simp) _).toBelow (by omega) (by simp; omega)⟩
    go_wp2_with fail
    obtain ⟨_, r1, r2, r3, r4, r7, r5, r6, _⟩ := id P4
    obtain ⟨a1, a2, a3, _, _, _⟩ := id N4
    have z4 := r7 4; have z5 := r7 5; have z6 := r7 6
    clear r7
    have d1 : hb ≠ nb := by omega
    have d2 : l1 ≠ nb := by omega
    go_region_held3 (fun w' => w'.cell? ⟨l1, 6, none⟩ = some (.pointer (some ⟨hb, 0, none⟩)) ∧ w'.cell? ⟨nb, 0, none⟩ = some (.int .u64 x3) ∧ w'.cell? ⟨nb, 1, none⟩ = some (.int .i64 y3) ∧ w'.cell? ⟨nb, 2, none⟩ = some (.pointer none)) (go_keep) (fail)
    have K5 : Kp [hb] w4 ((((w4.setCell ⟨hb, 4, none⟩ (.int .u64 x3)).setCell ⟨hb, 5, none⟩ (.int .i64 y3)).setCell ⟨hb, 6, none⟩ (.pointer none)).drew) := ((((Kp.refl _ w4).setCell (by simp) _).setCell (by simp) _).setCell (by simp) _).drew
    have T5 := T4.kp K5 (by simp [Ne.symm n4]) (by simp [Ne.symm n5]) (by simp [Ne.symm n6])
    have O5 := O4.kp K5 (by simp; omega) (by simp; omega)
    clear T4 O4 P4 N4 r1 r2 r3 r4 r5 r6 a1 a2 a3 z4 z5 z6
    generalize ((((w4.setCell ⟨hb, 4, none⟩ (.int .u64 x3)).setCell ⟨hb, 5, none⟩ (.int .i64 y3)).setCell ⟨hb, 6, none⟩ (.pointer none)).drew) = w5 at *
    have k5 : Kp [tb, hb] w w5 := (k4.mono (by simp)).trans (K5.mono (by simp))
    have hs5 := K5.size
    clear k4 K5
    have T6 := T5.kp ((Kp.refl [] w5).alloc (.cells #[.slice none 0 0] 116)) (by simp) (by simp) (by simp)
    have O6 := O5.kp ((Kp.refl [] w5).alloc (.cells #[.slice none 0 0] 116)) (by simp) (by simp)
    have X6 := BX.new w5
    have k6 := k5.alloc (.cells #[.slice none 0 0] 116)
    have q1 := T6.par
    clear T5 O5 k5
    have hob : w5.heap.size < (w5.alloc (.cells #[.slice none 0 0] 116)).heap.size := by simp
    have q2 := eql_ptr_other n3 T6.p2 T6.p1
    have q3 := (BX.cell0 X6)
    go_wp2_with fail
    have hlb := Nat.lt_of_succ_lt O6.lt
    have htb : tb < (w5.alloc (.cells #[.slice none 0 0] 116)).heap.size := lt_of_cell T6.fr
    have qk := key_eq low sk hlo hk
    refine wp_region_kp (by kernel_rfl) (by kernel_rfl) ?_
    refine wpQuiet_step (fun K hK => ?_)
    rw [if_pos (by rfl)]
    refine quiet_load27 rfl rfl low hlo (fun w' hw' => range_kp O6.low hw' hlb) (hK _ ?_)
    clear hK K
    simp only [Act.put, List.setIfInBounds_toArray, List.set_cons_zero, List.set_cons_succ]
    refine wpQuiet_step (fun K hK => ?_)
    go_simp
    refine ⟨_, fun _ _ => rfl, hK _ ?_⟩
    clear hK K
    refine wpQuiet_step (fun K hK => ?_)
    go_simp
    refine ⟨_, fun _ _ => rfl, hK _ ?_⟩
    clear hK K
    refine wpQuiet_step (fun K hK => ?_)
    go_simp
    refine ⟨_, fun _ _ => rfl, hK _ ?_⟩
    clear hK K
    refine wpQuiet_step (fun K hK => ?_)
    rw [if_pos (by rfl)]
    refine quiet_load27 rfl rfl sk hk (fun w' hw' => range_kp T6.key hw' htb) (hK _ ?_)
    clear hK K
    simp only [Act.put, List.setIfInBounds_toArray, List.set_cons_zero, List.set_cons_succ]
    refine wpQuiet_step (fun K hK => ?_)
    go_simp
    refine ⟨_, fun _ _ => rfl, hK _ ?_⟩
    clear hK K
    refine wpQuiet_step (fun K hK => ?_)
    go_simp
    refine ⟨_, fun _ _ => rfl, hK _ ?_⟩
    clear hK K
    refine wpQuiet_nil ?_
    intro w7 K7
    have T7 := T6.kp K7 (by simp) (by simp) (by simp)
    have X7 := X6.kp (Nat.le_refl _) K7 (by simp)
    have O7 := O6.kp K7 (by simp) (by simp)
    have k7 := k6.trans (K7.mono (by simp))
    have hs7 := X7.ob_lt
    have hs6 := k6.size
    clear T6 X6 k6 O6 q1 q3 qk hlb htb K7 hob
    have q4 := T7.par
    have q5 := BX.cell0 X7
    go_wp2_with fail
    have hlb := Nat.lt_of_succ_lt O7.lt
    have htb : tb < w7.heap.size := lt_of_cell T7.fr
    refine wp_region_kp (by kernel_rfl) (by kernel_rfl) ?_
    refine wpQuiet_step (fun K hK => ?_)
    go_simp
    refine ⟨_, fun _ _ => rfl, hK _ ?_⟩
    clear hK K
    refine wpQuiet_step (fun K hK => ?_)
    go_simp
    refine ⟨_, fun _ _ => rfl, hK _ ?_⟩
    clear hK K
    refine wpQuiet_step (fun K hK => ?_)
    go_simp
    refine ⟨_, fun _ _ => rfl, hK _ ?_⟩
    clear hK K
    refine wpQuiet_step (fun K hK => ?_)
    rw [if_pos (by rfl)]
    refine quiet_load27 rfl rfl sk hk (fun w' hw' => range_kp T7.key hw' htb) (hK _ ?_)
    clear hK K
    simp only [Act.put, List.setIfInBounds_toArray, List.set_cons_zero, List.set_cons_succ]
    refine wpQuiet_step (fun K hK => ?_)
    rw [if_pos (by rfl)]
    refine quiet_load27 rfl rfl low hlo (fun w' hw' => range_kp O7.low hw' hlb) (hK _ ?_)
    clear hK K
    simp only [Act.put, List.setIfInBounds_toArray, List.set_cons_zero, List.set_cons_succ]
    refine wpQuiet_step (fun K hK => ?_)
    go_simp
    refine ⟨.int .i64 (cmpL sk low), fun w' hw' => ?_, hK _ ?_⟩
    · refine (compareKeys_any sk low _ hk hlo).mono ?_
      rintro e w'' ⟨rfl, hb⟩
      exact ⟨rfl, hw'.below hb⟩
    clear hK K
    refine wpQuiet_step (fun K hK => ?_)
    go_simp
    refine ⟨_, fun _ _ => rfl, hK _ ?_⟩
    clear hK K
    refine wpQuiet_nil ?_
    intro w8 K8
    have T8 := T7.kp K8 (by simp) (by simp) (by simp)
    have X8 := X7.kp (Nat.le_refl _) K8 (by simp)
    have O8 := O7.kp K8 (by simp) (by simp)
    have k8 := k7.trans (K8.mono (by simp))
    have hs8 := X8.ob_lt
    clear T7 X7 O7 k7 K8 q4 q5 hlb htb
    have q4 := T8.par
    have q5 := BX.cell0 X8
    have R9 := O8.low
    have T9 := T8
    have X9 := X8
    have k9 := k8
    clear T8 X8 k8 O8 q4 q5
    generalize hw89 : w8 = w9 at *
    clear hw89
    have t1 := T9.par
    have t2 := T9.fr
    have hu := Ybad.underlying27
    have hi := size_key hlo
    have hlen : (kcl low).length = 32 := by rw [kcl_length, hlo]
    have hone := kcl_one low
    have hah := meth_probe
    have hbw := X9.base
    go_wp2_with fail
    go_region_held3 (fun w' => w'.rangeAt w.heap.size 0 (kcl low) ∧ w'.cell? ⟨tb, 32, none⟩ = some (.iface 107 (.agg #[])) ∧ w'.cell? ⟨tb, 37, none⟩ = some (.pointer (some ⟨l2, 0, none⟩))) (go_keep)
      (first
        | (go_at_call 117; refine (probeM_any low (IntKind.i64.wrap (hops + 1)) _ hlo).mono ?_; rintro e wa ⟨ga, capa, rfl, Fa⟩; have KKa : Kp [] w9 wa := kp_take0 Fa.bel; have Ta := T9.kp KKa (by simp) (by simp) (by simp); have Xa := X9.kp (Nat.le_refl _) KKa (by simp); have ta1 := Ta.par; have ta2 := Ta.fr; have ta3 := range_kp R9 KKa (by omega); have hge : w9.heap.size ≤ ga := Fa.ge; have hlt := Fa.lt)
        | (go_at_call 21; refine (send_bx w5.heap.size l2 w5.heap.size _ 2 ga capa 41 (pbs low (IntKind.i64.wrap (hops + 1)) 8) _ _ Xa (Nat.le_refl _) Ta.h2 (by simp) (pbs_length low _ 8 hlo) (by omega) hlt (by omega) (by simp [Value.ownBlock]) Fa.row).mono ?_; rintro e wb ⟨rfl, svb, Xb, kb, hsb, ggb, ccb, rfl⟩; have Tb := Ta.kp kb (Xa.far (Nat.le_refl _) (by omega)) (Xa.far (Nat.le_refl _) (by omega)) (Xa.far (Nat.le_refl _) (by omega)); have tb1 := Tb.par; have tb2 := Tb.fr; have tb3 : wb.rangeAt w.heap.size 0 (kcl low) := fun j v hv => (kb.cell (p := ⟨w.heap.size, 0 + j, none⟩) (show w.heap.size < wa.heap.size by omega) (Xa.far (t := w.heap.size) (Nat.le_refl _) (by omega))).trans (ta3 j v hv); have q9 := BX.cell0 Xb))
    go_wp2
    have GT := BX.got (tb := tb) (l := [(2, pbs low (IntKind.i64.wrap (hops + 1)) 8)]) Xb (show tb < w5.heap.size by omega) (.int .i32 0)
    exact door7 _ _ rfl rfl rfl Tb.mu (Tb.ft 33) ⟨_, rfl, .inr ⟨GT, Tb.setMu hk 0⟩, ((((k9.trans (KKa.mono (by simp))).toBelow (by omega) (by simp; omega)).trans (kb.toBelow (by have := KKa.size; omega) (fun k hm => by have := Xa.ges (Nat.le_refl _) k hm; omega)))).setCell (p := ⟨tb, 33, none⟩) (by omega) _⟩

end Go.Proofs.YbulkdaeyDoor
