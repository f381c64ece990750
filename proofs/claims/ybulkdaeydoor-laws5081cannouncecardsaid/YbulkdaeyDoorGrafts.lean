import Derived.Test.YbulkdaeyDoorPresent
/-
  TakeProbe on a child link.
-/
namespace Go.Proofs.YbulkdaeyDoor
open Go.RowKit Go.MuLone

/-- TakeProbe's two boxes: low's, now's. -/
structure Bo (w : World) (lb : Nat) (low : List UInt8) (x y : Int) : Prop where
  low : w.rangeAt lb 0 (kcl low)
  th : w.there lb 0 32
  t0 : w.cell? ⟨lb + 1, 0, none⟩ = some (.int .u64 x)
  t1 : w.cell? ⟨lb + 1, 1, none⟩ = some (.int .i64 y)
  t2 : w.cell? ⟨lb + 1, 2, none⟩ = some (.pointer none)

theorem Bo.lt {w : World} {lb : Nat} {low : List UInt8} {x y : Int} (h : Bo w lb low x y) : lb + 1 < w.heap.size := lt_of_cell h.t0
theorem Bo.kp {w w' : World} {lb : Nat} {low : List UInt8} {x y : Int} {L : List Nat} (h : Bo w lb low x y) (k : Kp L w w') (h1 : lb ∉ L) (h2 : lb + 1 ∉ L) : Bo w' lb low x y := by
  have b := h.lt
  have b1 : lb < w.heap.size := by omega
  exact ⟨fun j v hv => (k.cell (p := ⟨lb, 0 + j, none⟩) b1 h1).trans (h.low j v hv), fun j hj => by rw [k.cell (p := ⟨lb, 0 + j, none⟩) b1 h1, k.frozen (p := ⟨lb, 0 + j, none⟩) b1 h1]; exact h.th j hj,
    (k.cell (p := ⟨lb + 1, 0, none⟩) b h2).trans h.t0, (k.cell (p := ⟨lb + 1, 1, none⟩) b h2).trans h.t1, (k.cell (p := ⟨lb + 1, 2, none⟩) b h2).trans h.t2⟩
theorem Bo.new (w : World) (low : List UInt8) (x y : Int) (hl : low.length = 32) : Bo ((w.alloc (.cells (kcl low).toArray 27)).alloc (.cells #[.int .u64 x, .int .i64 y, .pointer none] 43)) w.heap.size low x y := by
  have r := World.rangeAt_alloc (range_new w (kcl low) 27) (.cells #[.int .u64 x, .int .i64 y, .pointer none] 43)
  refine ⟨r, fun j hj => ⟨r.isSome j (by rw [kcl_length, hl]; exact hj), ?_⟩, by simp, by simp, by simp⟩
  have : Plain ((w.alloc (.cells (kcl low).toArray 27)).alloc (.cells #[.int .u64 x, .int .i64 y, .pointer none] 43)) w.heap.size := (Plain.kp (w := w.alloc (.cells (kcl low).toArray 27)) ⟨_, _, heap_alloc_new w _⟩ ((Kp.refl [] _).alloc _) (by simp))
  obtain ⟨ca, ta, h⟩ := this
  simp [World.frozen?, h]

theorem kp_take {w2 w3 : World} {o : Obj} (h : Below ((w2.alloc o).drew).heap.size ((w2.alloc o).drew) w3) : Kp [] w2 w3 := (((Kp.refl [] w2).alloc o).drew).below h

theorem kp_take0 {w2 w3 : World} (h : Below (w2.drew).heap.size (w2.drew) w3) : Kp [] w2 w3 := ((Kp.refl [] w2).drew).below h

theorem Plain.thaw {w : World} {b : Nat} (h : Plain w b) (o : Nat) : w.frozen? ⟨b, o, none⟩ = false := by
  obtain ⟨ca, ta, h⟩ := h
  simp [World.frozen?, h]
theorem BX.new (w : World) : BX (w.alloc (.cells #[.slice none 0 0] 116)) w.heap.size w.heap.size (.slice none 0 0) [] :=
  ⟨[], ⟨by simp, Plain.thaw ⟨_, _, heap_alloc_new w _⟩ 0, World.ownsRow_nil _ _ _ _, by simp [Value.ownBlock], by simp⟩, trivial⟩
theorem BX.cell0 {w : World} {ob B : Nat} {sv : Value} {l : List (Int × List Int)} (h : BX w ob B sv l) : w.cell? ⟨ob, 0, none⟩ = some sv := by
  obtain ⟨xs, ho, _⟩ := h
  exact ho.cell

/-- A slice of sends as TakeProbe hands it back. -/
def GotS (w : World) (sv : Value) (l : List (Int × List Int)) : Prop := ∃ gg c xs B, sv = .slice (some ⟨gg, 0, none⟩) l.length c ∧ w.rangeAt gg 0 xs ∧ SN w B [] xs l ∧ xs.length = l.length * 3

theorem BX.got {w : World} {ob B tb : Nat} {l : List (Int × List Int)} {gg c : Nat} (h : BX w ob B (.slice (some ⟨gg, 0, none⟩) l.length c) l) (ht : tb < B) (u : Value) : GotS (w.setCell ⟨tb, 33, none⟩ u) (.slice (some ⟨gg, 0, none⟩) l.length c) l := by
  have h1 := h.own_lt gg rfl
  obtain ⟨xs, ho, hs⟩ := h
  have hk : Kp [tb] w (w.setCell ⟨tb, 33, none⟩ u) := (Kp.refl _ _).setCell (by simp) _
  refine ⟨gg, c, xs, B, rfl, fun j v hv => ?_, hs.kp hk (fun i hi _ hm => ?_) (fun i _ _ hm => by simp at hm), ho.own.1⟩
  · have hj : j < l.length * 3 := by
      rw [← ho.own.1]
      rcases Nat.lt_or_ge j xs.length with h | h
      · exact h
      · rw [List.getElem?_eq_none h] at hv
        cases hv
    refine (hk.cell (p := ⟨gg, 0 + j, none⟩) h1.2 (by simp; omega)).trans ?_
    rw [Nat.zero_add, ho.own.cellAt j hj]
    exact hv
  · simp at hm
    omega

theorem key_eq (a b : List UInt8) (ha : a.length = 32) (hb : b.length = 32) (w : World) : (binOp .eql 27 (.agg (kcl a).toArray) (.agg (kcl b).toArray)).run Ybad.prog w = .ok (.bool (a == b)) w :=
  Go.run_eql_bytes w 27 5 32 Ybad.underlying27 Ybad.underlying5 Ybad.sizeOf5 a b ha hb

theorem wp_region_kp {id : Nat} {Q : Exit → Act → World → Prop} {a : Act} {w : World} {l : List Oper} (hm : Ybad.prog.follows .mixedOrders = true) (hB : Region.lexB .any l.toArray = true)
    (h : wpQuiet Ybad.prog l.toArray (Kp [] w) (fun a' => ∀ w', Kp [] w w' → Q .normal a' w') l a) : (Code.region id l.toArray true).wp Ybad.prog Q a w :=
  wp_region_quiet (C := Kp [] w) hm hB ((Kp.refl [] w).drew) (by simpa using h)

theorem quiet_load27 {op : Oper} {a : Act} {C : World → Prop} {K : Act → Prop} {x : Operand} (ho : op.op = .load 27 x) {b o : Nat} (hx : a.eval x = .pointer (some ⟨b, o, none⟩)) (k : List UInt8) (hk : k.length = 32)
    (hC : ∀ w, C w → w.rangeAt b o (kcl k)) (h : K (a.put op.dst (.agg (kcl k).toArray))) : op.quiet Ybad.prog a C K := by
  refine ⟨_, fun w hw => ?_, h⟩
  unfold Oper.quietAt execOp
  simp only [ho, hx, Sem.run_bind, run_loadAt_mid w b o 27 (kcl k) _ (hC w hw) Ybad.underlying27 rfl (size_key hk), Result.andThen_ok, Sem.run_pure]
  exact ⟨rfl, rfl⟩

theorem range_kp {w w' : World} {b o : Nat} {cs : List Value} (h : w.rangeAt b o cs) (k : Kp [] w w') (hb : b < w.heap.size) : w'.rangeAt b o cs := fun j v hv => (k.cell (p := ⟨b, o + j, none⟩) hb (by simp)).trans (h j v hv)

theorem Locked.kp {w w' : World} {tb : Nat} {m : Int} (h : Locked w w' tb m) : Kp [tb] w w' := by rw [h.eq]; exact (Kp.refl _ _).setCell (by simp) _

set_option maxRecDepth 20000 in
set_option maxHeartbeats 3200000 in
theorem takeProbe_self (tb l1 l2 hb mb B0 : Nat) (sk low : List UInt8) (hops x y x' y' bu ev : Int) (er : Value) (z1 z2 c2 : Bool) (w : World) (hk : sk.length = 32) (hlo : low.length = 32) (F : Tr w tb l1 l2 hb mb B0) (T : TW w tb l1 l2 sk 0 (.pointer (some ⟨l1, 0, none⟩)) z1 true z2 c2) (P : PP w l1 hb true bu ev x' y' er) (hbs : B0 ≤ w.heap.size) :
    Calls Ybad.prog 7 #[.pointer (some ⟨tb, 0, none⟩), .int .i64 1, .agg (kcl low).toArray, .int .i64 hops, .agg #[.int .u64 x, .int .i64 y, .pointer none]] w fun e w' =>
      ∃ sv, e = .returned (.tuple #[sv, .nilIface]) ∧ sv = .slice none 0 0 ∧ TW w' tb l1 l2 sk 0 (.pointer (some ⟨l1, 0, none⟩)) z1 true z2 c2 ∧ Below B0 w w' := by
  have K0 : Kp [] w ((w.alloc (.cells (kcl low).toArray 27)).alloc (.cells #[.int .u64 x, .int .i64 y, .pointer none] 43)) := ((Kp.refl _ _).alloc _).alloc _
  have O0 := Bo.new w low x y hlo
  have hb0 : tb < w.heap.size := lt_of_cell T.fr
  have hb1 : l1 < w.heap.size := lt_of_cell T.h1
  have hb2 : l2 < w.heap.size := lt_of_cell T.h2
  have hb3 : hb < w.heap.size := lt_of_cell P.t0
  obtain ⟨_, _, n1, n2, n3, n4, n5, n6, b0, bt, b1, b2, b3⟩ := id F
  go_enter_defers Ybad.func7, Ybad.ntmps7
  go_wp2_with (first
    | (go_at_call 15; refine (lock_any tb _ ((K0.cell hb0 (by simp)).trans T.mu) ((K0.frozen hb0 (by simp)).trans (T.ft 33))).mono ?_; rintro e w1 ⟨rfl, hw1⟩; obtain ⟨T1, P1, ht1, hl1, k1⟩ := locked_all hk F T P K0 hw1; have O1 := O0.kp hw1.kp (by simp; omega) (by simp; omega); clear hw1)
    | (go_at_call 17; refine (treeLink_tree tb mb l1 _ ht1 hl1 P1.tree).mono ?_; rintro e w2 ⟨rfl, bb2⟩; have T2 := T1.bel bb2; have tc := T2.child1))
  have k2 := k1.trans (Kp.ofBelow bb2 _)
  have P2 := P1.kp (Kp.ofBelow bb2 []) (by simp) (by simp) (by simp) (by simp)
  have O2 := O1.kp (Kp.ofBelow bb2 []) (by simp) (by simp)
  clear T1 P1 O1 ht1 hl1 k1 bb2 tc O0 T P F
  have KT : Kp [] w2 w2 := Kp.refl _ _
  obtain ⟨_, r1, r2, r3, r4, _, r5, r6, _⟩ := id P2
  obtain ⟨_, _, s1, s2, s3⟩ := id O2
  have hnew1 := World.new_ne w2 _ r5; have hnew2 := World.new_ne w2 _ r1; have hnew3 := World.new_ne w2 _ r2; have hnew4 := World.new_ne w2 _ s1
  go_region_held3 (fun w' => w'.cell? ⟨2, 0, none⟩ = some (.int .i64 bu) ∧ w'.cell? ⟨2, 1, none⟩ = some (.int .i64 ev) ∧ w'.cell? ⟨l1, 6, none⟩ = some (.pointer (some ⟨hb, 0, none⟩)) ∧ w'.cell? ⟨hb, 4, none⟩ = some (.int .u64 x') ∧ w'.cell? ⟨hb, 5, none⟩ = some (.int .i64 y') ∧ w'.cell? ⟨hb, 6, none⟩ = some (.pointer none)
      ∧ w'.cell? ⟨w.heap.size + 1, 0, none⟩ = some (.int .u64 x) ∧ w'.cell? ⟨w.heap.size + 1, 1, none⟩ = some (.int .i64 y) ∧ w'.cell? ⟨w.heap.size + 1, 2, none⟩ = some (.pointer none)) (go_keep)
    (first
      | (go_at_call 18; refine (take_any _ _ _ _ _ _ _).mono ?_; rintro e w3 ⟨⟨x3, y3, ok, rfl⟩, bb3⟩; first | (have K3 : Kp [] w2 w3 := kp_take0 bb3; have P3 := P2.kp K3 (by simp) (by simp) (by simp) (by simp); have O3 := O2.kp K3 (by simp) (by simp); have T3 := T2.kp K3 (by simp) (by simp) (by simp); obtain ⟨_, u1, u2, u3, u4, _, u5, u6, _⟩ := id P3; obtain ⟨_, _, v1, v2, v3⟩ := id O3; have hn1 := World.new_ne w3 _ u5; have hn2 := World.new_ne w3 _ u1; have hn3 := World.new_ne w3 _ u2; have hn4 := World.new_ne w3 _ v1) | (have K3 : Kp [] w2 w3 := kp_take bb3; have N3 : TB w3 w2.heap.size 0 0 (Value.pointer none) := (TB.new w2 0 0 (Value.pointer none) 43).bel bb3 rfl; obtain ⟨a1, a2, a3, a4, a5, a6⟩ := id N3; have hw2 : w2.heap.size < w3.heap.size := lt_of_cell a1; have P3 := P2.kp K3 (by simp) (by simp) (by simp) (by simp); have O3 := O2.kp K3 (by simp) (by simp); have T3 := T2.kp K3 (by simp) (by simp) (by simp); obtain ⟨_, u1, u2, u3, u4, _, u5, u6, _⟩ := id P3; obtain ⟨_, _, v1, v2, v3⟩ := id O3; have hn1 := World.new_ne w3 _ u5; have hn2 := World.new_ne w3 _ u1; have hn3 := World.new_ne w3 _ u2; have hn4 := World.new_ne w3 _ v1)))
  all_goals
    first
    | (have N4 := ((N3.set0 x3).set1 y3).set2 (.pointer none)
       have K4 := (((K3.setNew (p := ⟨w2.heap.size, 0, none⟩) (Nat.le_refl _) (.int .u64 x3)).setNew (p := ⟨w2.heap.size, 1, none⟩) (Nat.le_refl _) (.int .i64 y3)).setNew (p := ⟨w2.heap.size, 2, none⟩) (Nat.le_refl _) (.pointer none))
       have hnb := Nat.le_refl w2.heap.size
       have T4 := T2.kp K4 (by simp) (by simp) (by simp)
       have P4 := P2.kp K4 (by simp) (by simp) (by simp) (by simp)
       have O4 := O2.kp K4 (by simp) (by simp)
       clear T3 P3 O3 u1 u2 u3 u4 u5 u6 v1 v2 v3 hn1 hn2 hn3 hn4 r1 r2 r3 r4 r5 r6 s1 s2 s3 hnew1 hnew2 hnew3 hnew4 T2 P2 O2 K3 bb3
       clear N3 a1 a2 a3 a4 a5 a6 hw2
       generalize ((w3.setCell ⟨w2.heap.size, 0, none⟩ (.int .u64 x3)).setCell ⟨w2.heap.size, 1, none⟩ (.int .i64 y3)).setCell ⟨w2.heap.size, 2, none⟩ (.pointer none) = w4 at *
       obtain ⟨nb, hnbe⟩ : ∃ nb, nb = w2.heap.size := ⟨_, rfl⟩
       rw [← hnbe]
       rw [← hnbe] at N4
       replace hnb : w2.heap.size ≤ nb := by omega
       clear hnbe)
    | (have N4 := TB.new w3 x3 y3 (.pointer none) 43
       have K4 := K3.alloc (.cells #[.int .u64 x3, .int .i64 y3, .pointer none] 43)
       have hnb := K3.size
       have T4 := T2.kp K4 (by simp) (by simp) (by simp)
       have P4 := P2.kp K4 (by simp) (by simp) (by simp) (by simp)
       have O4 := O2.kp K4 (by simp) (by simp)
       clear T3 P3 O3 u1 u2 u3 u4 u5 u6 v1 v2 v3 hn1 hn2 hn3 hn4 r1 r2 r3 r4 r5 r6 s1 s2 s3 hnew1 hnew2 hnew3 hnew4 T2 P2 O2 K3 bb3
       generalize w3.alloc (.cells #[.int .u64 x3, .int .i64 y3, .pointer none] 43) = w4 at *
       generalize w3.heap.size = nb at *)
    have k4 := k2.trans (K4.mono (by simp))
    have hs4 := K4.size
    have hs2 := k2.size
    clear K0 k2 K4
    cases ok
    · go_wp2
      exact door7 _ _ rfl rfl rfl T4.mu (T4.ft 33) ⟨_, rfl, rfl, T4.setMu hk 0, (k4.setCell (p := ⟨tb, 33, none⟩) (by simp) _).toBelow (by omega) (by simp; omega)⟩
    go_wp2_with fail
    obtain ⟨_, r1, r2, r3, r4, r7, r5, r6, _⟩ := id P4
    obtain ⟨a1, a2, a3, _, _, _⟩ := id N4
    have z4 := r7 4; have z5 := r7 5; have z6 := r7 6
    clear r7
    have d1 : hb ≠ nb := by omega
    have d2 : l1 ≠ nb := by omega
    go_region_held3 (fun w' => w'.cell? ⟨l1, 6, none⟩ = some (.pointer (some ⟨hb, 0, none⟩)) ∧ w'.cell? ⟨nb, 0, none⟩ = some (.int .u64 x3) ∧ w'.cell? ⟨nb, 1, none⟩ = some (.int .i64 y3) ∧ w'.cell? ⟨nb, 2, none⟩ = some (.pointer none)) (go_keep) (fail)
    have K5 : Kp [hb] w4 ((((w4.setCell ⟨hb, 4, none⟩ (.int .u64 x3)).setCell ⟨hb, 5, none⟩ (.int .i64 y3)).setCell ⟨hb, 6, none⟩ (.pointer none)).drew) := ((((Kp.refl _ w4).setCell (by simp) _).setCell (by simp) _).setCell (by simp) _).drew
    have T5 := T4.kp K5 (by simp [Ne.symm n4]) (by simp [Ne.symm n5]) (by simp [Ne.symm n6])
    have O5 := O4.kp K5 (by simp; omega) (by simp; omega)
    clear T4 O4 P4 N4 r1 r2 r3 r4 r5 r6 a1 a2 a3 z4 z5 z6
    generalize ((((w4.setCell ⟨hb, 4, none⟩ (.int .u64 x3)).setCell ⟨hb, 5, none⟩ (.int .i64 y3)).setCell ⟨hb, 6, none⟩ (.pointer none)).drew) = w5 at *
    have k5 : Kp [tb, hb] w w5 := (k4.mono (by simp)).trans (K5.mono (by simp))
    have hs5 := K5.size
    clear k4 K5
    have T6 := T5.kp ((Kp.refl [] w5).alloc (.cells #[.slice none 0 0] 116)) (by simp) (by simp) (by simp)
    have O6 := O5.kp ((Kp.refl [] w5).alloc (.cells #[.slice none 0 0] 116)) (by simp) (by simp)
    have X6 := BX.new w5
    have k6 := k5.alloc (.cells #[.slice none 0 0] 116)
    have q1 := T6.par
    clear T5 O5 k5
    have hob : w5.heap.size < (w5.alloc (.cells #[.slice none 0 0] 116)).heap.size := by simp
    have q2 := eql_ptr_same
    have q3 := (BX.cell0 X6)
    go_wp2
    exact door7 _ _ rfl rfl rfl T6.mu (T6.ft 33) ⟨_, rfl, rfl, T6.setMu hk 0, (k6.setCell (p := ⟨tb, 33, none⟩) (by simp) _).toBelow (by omega) (by simp; omega)⟩

set_option maxRecDepth 20000 in
set_option maxHeartbeats 3200000 in
theorem takeProbe_graft0 (tb l1 l2 hb mb B0 : Nat) (sk low : List UInt8) (hops x y x' y' bu ev : Int) (er : Value) (z1 z2 c2 : Bool) (w : World) (hk : sk.length = 32) (hlo : low.length = 32) (he : (low == sk) = true) (F : Tr w tb l1 l2 hb mb B0) (T : TW w tb l1 l2 sk 0 (.pointer none) z1 true z2 c2) (P : PP w l1 hb true bu ev x' y' er) (hbs : B0 ≤ w.heap.size) :
    Calls Ybad.prog 7 #[.pointer (some ⟨tb, 0, none⟩), .int .i64 1, .agg (kcl low).toArray, .int .i64 hops, .agg #[.int .u64 x, .int .i64 y, .pointer none]] w fun e w' =>
      ∃ sv, e = .returned (.tuple #[sv, .nilIface]) ∧ ((sv = .slice none 0 0 ∧ TW w' tb l1 l2 sk 0 (.pointer none) z1 true z2 c2) ∨ (GotS w' sv [(1, [71]), (1, pbs sk 1 8)] ∧ TW w' tb l1 l2 sk 0 (.pointer (some ⟨l1, 0, none⟩)) false true z2 c2)) ∧ Below B0 w w' := by
  have K0 : Kp [] w ((w.alloc (.cells (kcl low).toArray 27)).alloc (.cells #[.int .u64 x, .int .i64 y, .pointer none] 43)) := ((Kp.refl _ _).alloc _).alloc _
  have O0 := Bo.new w low x y hlo
  have hb0 : tb < w.heap.size := lt_of_cell T.fr
  have hb1 : l1 < w.heap.size := lt_of_cell T.h1
  have hb2 : l2 < w.heap.size := lt_of_cell T.h2
  have hb3 : hb < w.heap.size := lt_of_cell P.t0
  obtain ⟨_, _, n1, n2, n3, n4, n5, n6, b0, bt, b1, b2, b3⟩ := id F
  go_enter_defers Ybad.func7, Ybad.ntmps7
  go_wp2_with (first
    | (go_at_call 15; refine (lock_any tb _ ((K0.cell hb0 (by simp)).trans T.mu) ((K0.frozen hb0 (by simp)).trans (T.ft 33))).mono ?_; rintro e w1 ⟨rfl, hw1⟩; obtain ⟨T1, P1, ht1, hl1, k1⟩ := locked_all hk F T P K0 hw1; have O1 := O0.kp hw1.kp (by simp; omega) (by simp; omega); clear hw1)
    | (go_at_call 17; refine (treeLink_tree tb mb l1 _ ht1 hl1 P1.tree).mono ?_; rintro e w2 ⟨rfl, bb2⟩; have T2 := T1.bel bb2; have tc := T2.child1))
  have k2 := k1.trans (Kp.ofBelow bb2 _)
  have P2 := P1.kp (Kp.ofBelow bb2 []) (by simp) (by simp) (by simp) (by simp)
  have O2 := O1.kp (Kp.ofBelow bb2 []) (by simp) (by simp)
  clear T1 P1 O1 ht1 hl1 k1 bb2 tc O0 T P F
  have KT : Kp [] w2 w2 := Kp.refl _ _
  obtain ⟨_, r1, r2, r3, r4, _, r5, r6, _⟩ := id P2
  obtain ⟨_, _, s1, s2, s3⟩ := id O2
  have hnew1 := World.new_ne w2 _ r5; have hnew2 := World.new_ne w2 _ r1; have hnew3 := World.new_ne w2 _ r2; have hnew4 := World.new_ne w2 _ s1
  go_region_held3 (fun w' => w'.cell? ⟨2, 0, none⟩ = some (.int .i64 bu) ∧ w'.cell? ⟨2, 1, none⟩ = some (.int .i64 ev) ∧ w'.cell? ⟨l1, 6, none⟩ = some (.pointer (some ⟨hb, 0, none⟩)) ∧ w'.cell? ⟨hb, 4, none⟩ = some (.int .u64 x') ∧ w'.cell? ⟨hb, 5, none⟩ = some (.int .i64 y') ∧ w'.cell? ⟨hb, 6, none⟩ = some (.pointer none)
      ∧ w'.cell? ⟨w.heap.size + 1, 0, none⟩ = some (.int .u64 x) ∧ w'.cell? ⟨w.heap.size + 1, 1, none⟩ = some (.int .i64 y) ∧ w'.cell? ⟨w.heap.size + 1, 2, none⟩ = some (.pointer none)) (go_keep)
    (first
      | (go_at_call 18; refine (take_any _ _ _ _ _ _ _).mono ?_; rintro e w3 ⟨⟨x3, y3, ok, rfl⟩, bb3⟩; first | (have K3 : Kp [] w2 w3 := kp_take0 bb3; have P3 := P2.kp K3 (by simp) (by simp) (by simp) (by simp); have O3 := O2.kp K3 (by simp) (by simp); have T3 := T2.kp K3 (by simp) (by simp) (by simp); obtain ⟨_, u1, u2, u3, u4, _, u5, u6, _⟩ := id P3; obtain ⟨_, _, v1, v2, v3⟩ := id O3; have hn1 := World.new_ne w3 _ u5; have hn2 := World.new_ne w3 _ u1; have hn3 := World.new_ne w3 _ u2; have hn4 := World.new_ne w3 _ v1) | (have K3 : Kp [] w2 w3 := kp_take bb3; have N3 : TB w3 w2.heap.size 0 0 (Value.pointer none) := (TB.new w2 0 0 (Value.pointer none) 43).bel bb3 rfl; obtain ⟨a1, a2, a3, a4, a5, a6⟩ := id N3; have hw2 : w2.heap.size < w3.heap.size := lt_of_cell a1; have P3 := P2.kp K3 (by simp) (by simp) (by simp) (by simp); have O3 := O2.kp K3 (by simp) (by simp); have T3 := T2.kp K3 (by simp) (by simp) (by simp); obtain ⟨_, u1, u2, u3, u4, _, u5, u6, _⟩ := id P3; obtain ⟨_, _, v1, v2, v3⟩ := id O3; have hn1 := World.new_ne w3 _ u5; have hn2 := World.new_ne w3 _ u1; have hn3 := World.new_ne w3 _ u2; have hn4 := World.new_ne w3 _ v1)))
  all_goals
    first
    | (have N4 := ((N3.set0 x3).set1 y3).set2 (.pointer none)
       have K4 := (((K3.setNew (p := ⟨w2.heap.size, 0, none⟩) (Nat.le_refl _) (.int .u64 x3)).setNew (p := ⟨w2.heap.size, 1, none⟩) (Nat.le_refl _) (.int .i64 y3)).setNew (p := ⟨w2.heap.size, 2, none⟩) (Nat.le_refl _) (.pointer none))
       have hnb := Nat.le_refl w2.heap.size
       have T4 := T2.kp K4 (by simp) (by simp) (by simp)
       have P4 := P2.kp K4 (by simp) (by simp) (by simp) (by simp)
       have O4 := O2.kp K4 (by simp) (by simp)
       clear T3 P3 O3 u1 u2 u3 u4 u5 u6 v1 v2 v3 hn1 hn2 hn3 hn4 r1 r2 r3 r4 r5 r6 s1 s2 s3 hnew1 hnew2 hnew3 hnew4 T2 P2 O2 K3 bb3
       clear N3 a1 a2 a3 a4 a5 a6 hw2
       generalize ((w3.setCell ⟨w2.heap.size, 0, none⟩ (.int .u64 x3)).setCell ⟨w2.heap.size, 1, none⟩ (.int .i64 y3)).setCell ⟨w2.heap.size, 2, none⟩ (.pointer none) = w4 at *
       obtain ⟨nb, hnbe⟩ : ∃ nb, nb = w2.heap.size := ⟨_, rfl⟩
       rw [← hnbe]
       rw [← hnbe] at N4
       replace hnb : w2.heap.size ≤ nb := by omega
       clear hnbe)
    | (have N4 := TB.new w3 x3 y3 (.pointer none) 43
       have K4 := K3.alloc (.cells #[.int .u64 x3, .int .i64 y3, .pointer none] 43)
       have hnb := K3.size
       have T4 := T2.kp K4 (by simp) (by simp) (by simp)
       have P4 := P2.kp K4 (by simp) (by simp) (by simp) (by simp)
       have O4 := O2.kp K4 (by simp) (by simp)
       clear T3 P3 O3 u1 u2 u3 u4 u5 u6 v1 v2 v3 hn1 hn2 hn3 hn4 r1 r2 r3 r4 r5 r6 s1 s2 s3 hnew1 hnew2 hnew3 hnew4 T2 P2 O2 K3 bb3
       generalize w3.alloc (.cells #[.int .u64 x3, .int .i64 y3, .pointer none] 43) = w4 at *
       generalize w3.heap.size = nb at *)
    have k4 := k2.trans (K4.mono (by simp))
    have hs4 := K4.size
    have hs2 := k2.size
    clear K0 k2 K4
    cases ok
    · go_wp2
      exact door7 _ _ rfl rfl rfl T4.mu (T4.ft 33) ⟨_, rfl, .inl ⟨rfl, T4.setMu hk 0⟩, (k4.setCell (p := ⟨tb, 33, none⟩) (by simp) _).toBelow (by omega) (by simp; omega)⟩
    go_wp2_with fail
    obtain ⟨_, r1, r2, r3, r4, r7, r5, r6, _⟩ := id P4
    obtain ⟨a1, a2, a3, _, _, _⟩ := id N4
    have z4 := r7 4; have z5 := r7 5; have z6 := r7 6
    clear r7
    have d1 : hb ≠ nb := by omega
    have d2 : l1 ≠ nb := by omega
    go_region_held3 (fun w' => w'.cell? ⟨l1, 6, none⟩ = some (.pointer (some ⟨hb, 0, none⟩)) ∧ w'.cell? ⟨nb, 0, none⟩ = some (.int .u64 x3) ∧ w'.cell? ⟨nb, 1, none⟩ = some (.int .i64 y3) ∧ w'.cell? ⟨nb, 2, none⟩ = some (.pointer none)) (go_keep) (fail)
    have K5 : Kp [hb] w4 ((((w4.setCell ⟨hb, 4, none⟩ (.int .u64 x3)).setCell ⟨hb, 5, none⟩ (.int .i64 y3)).setCell ⟨hb, 6, none⟩ (.pointer none)).drew) := ((((Kp.refl _ w4).setCell (by simp) _).setCell (by simp) _).setCell (by simp) _).drew
    have T5 := T4.kp K5 (by simp [Ne.symm n4]) (by simp [Ne.symm n5]) (by simp [Ne.symm n6])
    have O5 := O4.kp K5 (by simp; omega) (by simp; omega)
    clear T4 O4 P4 N4 r1 r2 r3 r4 r5 r6 a1 a2 a3 z4 z5 z6
    generalize ((((w4.setCell ⟨hb, 4, none⟩ (.int .u64 x3)).setCell ⟨hb, 5, none⟩ (.int .i64 y3)).setCell ⟨hb, 6, none⟩ (.pointer none)).drew) = w5 at *
    have k5 : Kp [tb, hb] w w5 := (k4.mono (by simp)).trans (K5.mono (by simp))
    have hs5 := K5.size
    clear k4 K5
    have T6 := T5.kp ((Kp.refl [] w5).alloc (.cells #[.slice none 0 0] 116)) (by simp) (by simp) (by simp)
    have O6 := O5.kp ((Kp.refl [] w5).alloc (.cells #[.slice none 0 0] 116)) (by simp) (by simp)
    have X6 := BX.new w5
    have k6 := k5.alloc (.cells #[.slice none 0 0] 116)
    have q1 := T6.par
    clear T5 O5 k5
    have hob : w5.heap.size < (w5.alloc (.cells #[.slice none 0 0] 116)).heap.size := by simp
    have q2 := eql_nil_l
    have q3 := (BX.cell0 X6)
    go_wp2_with fail
    have hlb := Nat.lt_of_succ_lt O6.lt
    have htb : tb < (w5.alloc (.cells #[.slice none 0 0] 116)).heap.size := lt_of_cell T6.fr
    have qk := key_eq low sk hlo hk
    refine wp_region_kp (by kernel_rfl) (by kernel_rfl) ?_
    refine wpQuiet_step (fun K hK => ?_)
    rw [if_pos (by rfl)]
    refine quiet_load27 rfl rfl low hlo (fun w' hw' => range_kp O6.low hw' hlb) (hK _ ?_)
    clear hK K
    simp only [Act.put, List.setIfInBounds_toArray, List.set_cons_zero, List.set_cons_succ]
    refine wpQuiet_step (fun K hK => ?_)
    go_simp
    refine ⟨_, fun _ _ => rfl, hK _ ?_⟩
    clear hK K
    refine wpQuiet_step (fun K hK => ?_)
    go_simp
    refine ⟨_, fun _ _ => rfl, hK _ ?_⟩
    clear hK K
    refine wpQuiet_step (fun K hK => ?_)
    go_simp
    refine ⟨_, fun _ _ => rfl, hK _ ?_⟩
    clear hK K
    refine wpQuiet_step (fun K hK => ?_)
    rw [if_pos (by rfl)]
    refine quiet_load27 rfl rfl sk hk (fun w' hw' => range_kp T6.key hw' htb) (hK _ ?_)
    clear hK K
    simp only [Act.put, List.setIfInBounds_toArray, List.set_cons_zero, List.set_cons_succ]
    refine wpQuiet_step (fun K hK => ?_)
    go_simp
    refine ⟨_, fun _ _ => rfl, hK _ ?_⟩
    clear hK K
    refine wpQuiet_step (fun K hK => ?_)
    go_simp
    refine ⟨_, fun _ _ => rfl, hK _ ?_⟩
    clear hK K
    refine wpQuiet_nil ?_
    intro w7 K7
    have T7 := T6.kp K7 (by simp) (by simp) (by simp)
    have X7 := X6.kp (Nat.le_refl _) K7 (by simp)
    have O7 := O6.kp K7 (by simp) (by simp)
    have k7 := k6.trans (K7.mono (by simp))
    have hs7 := X7.ob_lt
    have hs6 := k6.size
    clear T6 X6 k6 O6 q1 q3 qk hlb htb K7 hob
    have qf := T7.fr
    have qm := meth_graft
    go_wp2_with (first
      | (go_at_call 113; refine (graft_any _).mono ?_; rintro e w8 ⟨g8, cap8, rfl, F8⟩; have T8 := T7.bel F8.bel; have X8 := X7.kp (Nat.le_refl _) (Kp.ofBelow F8.bel []) (by simp); have hge := F8.ge; have hlt := F8.lt)
      | (go_at_call 19; refine (takeParent_none tb l1 l2 w5.heap.size w5.heap.size B0 g8 cap8 sk 1 z1 true z2 c2 _ hk T8 X8 (Nat.le_refl _) (by omega) (by omega) (by omega) n1 n3 bt b1 (by omega) hlt (by omega) F8.row).mono ?_; rintro e w9 ⟨rfl, sv9, X9, T9, bel9, gg9, c9, rfl⟩; have q9 := BX.cell0 X9))
    have GT := BX.got (tb := tb) (l := [(1, [71]), (1, pbs sk 1 8)]) X9 (show tb < w5.heap.size by omega) (.int .i32 0)
    exact door7 _ _ rfl rfl rfl T9.mu (T9.ft 33) ⟨_, rfl, .inr ⟨GT, T9.setMu hk 0⟩, (((k7.trans (Kp.ofBelow F8.bel _)).toBelow (by omega) (by simp; omega)).trans bel9).setCell (p := ⟨tb, 33, none⟩) (by omega) _⟩

set_option maxRecDepth 20000 in
set_option maxHeartbeats 3200000 in
theorem takeProbe_graft2 (tb l1 l2 hb mb B0 : Nat) (sk low : List UInt8) (hops x y x' y' bu ev : Int) (er : Value) (z1 z2 c2 : Bool) (w : World) (hk : sk.length = 32) (hlo : low.length = 32) (he : (low == sk) = true) (F : Tr w tb l1 l2 hb mb B0) (T : TW w tb l1 l2 sk 0 (.pointer (some ⟨l2, 0, none⟩)) z1 true z2 c2) (P : PP w l1 hb true bu ev x' y' er) (hbs : B0 ≤ w.heap.size) :
    Calls Ybad.prog 7 #[.pointer (some ⟨tb, 0, none⟩), .int .i64 1, .agg (kcl low).toArray, .int .i64 hops, .agg #[.int .u64 x, .int .i64 y, .pointer none]] w fun e w' =>
      ∃ sv, e = .returned (.tuple #[sv, .nilIface]) ∧ ((sv = .slice none 0 0 ∧ TW w' tb l1 l2 sk 0 (.pointer (some ⟨l2, 0, none⟩)) z1 true z2 c2) ∨ (GotS w' sv [(2, [80]), (1, [71]), (1, pbs sk 1 8)] ∧ TW w' tb l1 l2 sk 0 (.pointer (some ⟨l1, 0, none⟩)) false true true false)) ∧ Below B0 w w' := by
  have K0 : Kp [] w ((w.alloc (.cells (kcl low).toArray 27)).alloc (.cells #[.int .u64 x, .int .i64 y, .pointer none] 43)) := ((Kp.refl _ _).alloc _).alloc _
  have O0 := Bo.new w low x y hlo
  have hb0 : tb < w.heap.size := lt_of_cell T.fr
  have hb1 : l1 < w.heap.size := lt_of_cell T.h1
  have hb2 : l2 < w.heap.size := lt_of_cell T.h2
  have hb3 : hb < w.heap.size := lt_of_cell P.t0
  obtain ⟨_, _, n1, n2, n3, n4, n5, n6, b0, bt, b1, b2, b3⟩ := id F
  go_enter_defers Ybad.func7, Ybad.ntmps7
  go_wp2_with (first
    | (go_at_call 15; refine (lock_any tb _ ((K0.cell hb0 (by simp)).trans T.mu) ((K0.frozen hb0 (by simp)).trans (T.ft 33))).mono ?_; rintro e w1 ⟨rfl, hw1⟩; obtain ⟨T1, P1, ht1, hl1, k1⟩ := locked_all hk F T P K0 hw1; have O1 := O0.kp hw1.kp (by simp; omega) (by simp; omega); clear hw1)
    | (go_at_call 17; refine (treeLink_tree tb mb l1 _ ht1 hl1 P1.tree).mono ?_; rintro e w2 ⟨rfl, bb2⟩; have T2 := T1.bel bb2; have tc := T2.child1))
  have k2 := k1.trans (Kp.ofBelow bb2 _)
  have P2 := P1.kp (Kp.ofBelow bb2 []) (by simp) (by simp) (by simp) (by simp)
  have O2 := O1.kp (Kp.ofBelow bb2 []) (by simp) (by simp)
  clear T1 P1 O1 ht1 hl1 k1 bb2 tc O0 T P F
  have KT : Kp [] w2 w2 := Kp.refl _ _
  obtain ⟨_, r1, r2, r3, r4, _, r5, r6, _⟩ := id P2
  obtain ⟨_, _, s1, s2, s3⟩ := id O2
  have hnew1 := World.new_ne w2 _ r5; have hnew2 := World.new_ne w2 _ r1; have hnew3 := World.new_ne w2 _ r2; have hnew4 := World.new_ne w2 _ s1
  go_region_held3 (fun w' => w'.cell? ⟨2, 0, none⟩ = some (.int .i64 bu) ∧ w'.cell? ⟨2, 1, none⟩ = some (.int .i64 ev) ∧ w'.cell? ⟨l1, 6, none⟩ = some (.pointer (some ⟨hb, 0, none⟩)) ∧ w'.cell? ⟨hb, 4, none⟩ = some (.int .u64 x') ∧ w'.cell? ⟨hb, 5, none⟩ = some (.int .i64 y') ∧ w'.cell? ⟨hb, 6, none⟩ = some (.pointer none)
      ∧ w'.cell? ⟨w.heap.size + 1, 0, none⟩ = some (.int .u64 x) ∧ w'.cell? ⟨w.heap.size + 1, 1, none⟩ = some (.int .i64 y) ∧ w'.cell? ⟨w.heap.size + 1, 2, none⟩ = some (.pointer none)) (go_keep)
    (first
      | (go_at_call 18; refine (take_any _ _ _ _ _ _ _).mono ?_; rintro e w3 ⟨⟨x3, y3, ok, rfl⟩, bb3⟩; first | (have K3 : Kp [] w2 w3 := kp_take0 bb3; have P3 := P2.kp K3 (by simp) (by simp) (by simp) (by simp); have O3 := O2.kp K3 (by simp) (by simp); have T3 := T2.kp K3 (by simp) (by simp) (by simp); obtain ⟨_, u1, u2, u3, u4, _, u5, u6, _⟩ := id P3; obtain ⟨_, _, v1, v2, v3⟩ := id O3; have hn1 := World.new_ne w3 _ u5; have hn2 := World.new_ne w3 _ u1; have hn3 := World.new_ne w3 _ u2; have hn4 := World.new_ne w3 _ v1) | (have K3 : Kp [] w2 w3 := kp_take bb3; have N3 : TB w3 w2.heap.size 0 0 (Value.pointer none) := (TB.new w2 0 0 (Value.pointer none) 43).bel bb3 rfl; obtain ⟨a1, a2, a3, a4, a5, a6⟩ := id N3; have hw2 : w2.heap.size < w3.heap.size := lt_of_cell a1; have P3 := P2.kp K3 (by simp) (by simp) (by simp) (by simp); have O3 := O2.kp K3 (by simp) (by simp); have T3 := T2.kp K3 (by simp) (by simp) (by simp); obtain ⟨_, u1, u2, u3, u4, _, u5, u6, _⟩ := id P3; obtain ⟨_, _, v1, v2, v3⟩ := id O3; have hn1 := World.new_ne w3 _ u5; have hn2 := World.new_ne w3 _ u1; have hn3 := World.new_ne w3 _ u2; have hn4 := World.new_ne w3 _ v1)))
  all_goals
    first
    | (have N4 := ((N3.set0 x3).set1 y3).set2 (.pointer none)
       have K4 := (((K3.setNew (p := ⟨w2.heap.size, 0, none⟩) (Nat.le_refl _) (.int .u64 x3)).setNew (p := ⟨w2.heap.size, 1, none⟩) (Nat.le_refl _) (.int .i64 y3)).setNew (p := ⟨w2.heap.size, 2, none⟩) (Nat.le_refl _) (.pointer none))
       have hnb := Nat.le_refl w2.heap.size
       have T4 := T2.kp K4 (by simp) (by simp) (by simp)
       have P4 := P2.kp K4 (by simp) (by simp) (by simp) (by simp)
       have O4 := O2.kp K4 (by simp) (by simp)
       clear T3 P3 O3 u1 u2 u3 u4 u5 u6 v1 v2 v3 hn1 hn2 hn3 hn4 r1 r2 r3 r4 r5 r6 s1 s2 s3 hnew1 hnew2 hnew3 hnew4 T2 P2 O2 K3 bb3
       clear N3 a1 a2 a3 a4 a5 a6 hw2
       generalize ((w3.setCell ⟨w2.heap.size, 0, none⟩ (.int .u64 x3)).setCell ⟨w2.heap.size, 1, none⟩ (.int .i64 y3)).setCell ⟨w2.heap.size, 2, none⟩ (.pointer none) = w4 at *
       obtain ⟨nb, hnbe⟩ : ∃ nb, nb = w2.heap.size := ⟨_, rfl⟩
       rw [← hnbe]
       rw [← hnbe] at N4
       replace hnb : w2.heap.size ≤ nb := by omega
       clear hnbe)
    | (have N4 := TB.new w3 x3 y3 (.pointer none) 43
       have K4 := K3.alloc (.cells #[.int .u64 x3, .int .i64 y3, .pointer none] 43)
       have hnb := K3.size
       have T4 := T2.kp K4 (by simp) (by simp) (by simp)
       have P4 := P2.kp K4 (by simp) (by simp) (by simp) (by simp)
       have O4 := O2.kp K4 (by simp) (by simp)
       clear T3 P3 O3 u1 u2 u3 u4 u5 u6 v1 v2 v3 hn1 hn2 hn3 hn4 r1 r2 r3 r4 r5 r6 s1 s2 s3 hnew1 hnew2 hnew3 hnew4 T2 P2 O2 K3 bb3
       generalize w3.alloc (.cells #[.int .u64 x3, .int .i64 y3, .pointer none] 43) = w4 at *
       generalize w3.heap.size = nb at *)
    have k4 := k2.trans (K4.mono (by simp))
    have hs4 := K4.size
    have hs2 := k2.size
    clear K0 k2 K4
    cases ok
    · go_wp2
      exact door7 _ _ rfl rfl rfl T4.mu (T4.ft 33) ⟨_, rfl, .inl ⟨rfl, T4.setMu hk 0⟩, (k4.setCell (p := ⟨tb, 33, none⟩) (by simp) _).toBelow (by omega) (by simp; omega)⟩
    go_wp2_with fail
    obtain ⟨_, r1, r2, r3, r4, r7, r5, r6, _⟩ := id P4
    obtain ⟨a1, a2, a3, _, _, _⟩ := id N4
    have z4 := r7 4; have z5 := r7 5; have z6 := r7 6
    clear r7
    have d1 : hb ≠ nb := by omega
    have d2 : l1 ≠ nb := by omega
    go_region_held3 (fun w' => w'.cell? ⟨l1, 6, none⟩ = some (.pointer (some ⟨hb, 0, none⟩)) ∧ w'.cell? ⟨nb, 0, none⟩ = some (.int .u64 x3) ∧ w'.cell? ⟨nb, 1, none⟩ = some (.int .i64 y3) ∧ w'.cell? ⟨nb, 2, none⟩ = some (.pointer none)) (go_keep) (fail)
    have K5 : Kp [hb] w4 ((((w4.setCell ⟨hb, 4, none⟩ (.int .u64 x3)).setCell ⟨hb, 5, none⟩ (.int .i64 y3)).setCell ⟨hb, 6, none⟩ (.pointer none)).drew) := ((((Kp.refl _ w4).setCell (by simp) _).setCell (by simp) _).setCell (by simp) _).drew
    have T5 := T4.kp K5 (by simp [Ne.symm n4]) (by simp [Ne.symm n5]) (by simp [Ne.symm n6])
    have O5 := O4.kp K5 (by simp; omega) (by simp; omega)
    clear T4 O4 P4 N4 r1 r2 r3 r4 r5 r6 a1 a2 a3 z4 z5 z6
    generalize ((((w4.setCell ⟨hb, 4, none⟩ (.int .u64 x3)).setCell ⟨hb, 5, none⟩ (.int .i64 y3)).setCell ⟨hb, 6, none⟩ (.pointer none)).drew) = w5 at *
    have k5 : Kp [tb, hb] w w5 := (k4.mono (by simp)).trans (K5.mono (by simp))
    have hs5 := K5.size
    clear k4 K5
    have T6 := T5.kp ((Kp.refl [] w5).alloc (.cells #[.slice none 0 0] 116)) (by simp) (by simp) (by simp)
    have O6 := O5.kp ((Kp.refl [] w5).alloc (.cells #[.slice none 0 0] 116)) (by simp) (by simp)
    have X6 := BX.new w5
    have k6 := k5.alloc (.cells #[.slice none 0 0] 116)
    have q1 := T6.par
    clear T5 O5 k5
    have hob : w5.heap.size < (w5.alloc (.cells #[.slice none 0 0] 116)).heap.size := by simp
    have q2 := eql_ptr_other n3 T6.p2 T6.p1
    have q3 := (BX.cell0 X6)
    go_wp2_with fail
    have hlb := Nat.lt_of_succ_lt O6.lt
    have htb : tb < (w5.alloc (.cells #[.slice none 0 0] 116)).heap.size := lt_of_cell T6.fr
    have qk := key_eq low sk hlo hk
    refine wp_region_kp (by kernel_rfl) (by kernel_rfl) ?_
    refine wpQuiet_step (fun K hK => ?_)
    rw [if_pos (by rfl)]
    refine quiet_load27 rfl rfl low hlo (fun w' hw' => range_kp O6.low hw' hlb) (hK _ ?_)
    clear hK K
    simp only [Act.put, List.setIfInBounds_toArray, List.set_cons_zero, List.set_cons_succ]
    refine wpQuiet_step (fun K hK => ?_)
    go_simp
    refine ⟨_, fun _ _ => rfl, hK _ ?_⟩
    clear hK K
    refine wpQuiet_step (fun K hK => ?_)
    go_simp
    refine ⟨_, fun _ _ => rfl, hK _ ?_⟩
    clear hK K
    refine wpQuiet_step (fun K hK => ?_)
    go_simp
    refine ⟨_, fun _ _ => rfl, hK _ ?_⟩
    clear hK K
    refine wpQuiet_step (fun K hK => ?_)
    rw [if_pos (by rfl)]
    refine quiet_load27 rfl rfl sk hk (fun w' hw' => range_kp T6.key hw' htb) (hK _ ?_)
    clear hK K
    simp only [Act.put, List.setIfInBounds_toArray, List.set_cons_zero, List.set_cons_succ]
    refine wpQuiet_step (fun K hK => ?_)
    go_simp
    refine ⟨_, fun _ _ => rfl, hK _ ?_⟩
    clear hK K
    refine wpQuiet_step (fun K hK => ?_)
    go_simp
    refine ⟨_, fun _ _ => rfl, hK _ ?_⟩
    clear hK K
    refine wpQuiet_nil ?_
    intro w7 K7
    have T7 := T6.kp K7 (by simp) (by simp) (by simp)
    have X7 := X6.kp (Nat.le_refl _) K7 (by simp)
    have O7 := O6.kp K7 (by simp) (by simp)
    have k7 := k6.trans (K7.mono (by simp))
    have hs7 := X7.ob_lt
    have hs6 := k6.size
    clear T6 X6 k6 O6 q1 q3 qk hlb htb K7 hob
    have qf := T7.fr
    have qm := meth_graft
    go_wp2_with (first
      | (go_at_call 113; refine (graft_any _).mono ?_; rintro e w8 ⟨g8, cap8, rfl, F8⟩; have T8 := T7.bel F8.bel; have X8 := X7.kp (Nat.le_refl _) (Kp.ofBelow F8.bel []) (by simp); have hge := F8.ge; have hlt := F8.lt)
      | (go_at_call 19; refine (takeParent_two tb l1 l2 w5.heap.size w5.heap.size B0 g8 cap8 sk 1 z1 true z2 c2 _ hk T8 X8 (Nat.le_refl _) (by omega) (by omega) (by omega) n1 n3 n2 bt b1 b2 (by omega) hlt (by omega) F8.row).mono ?_; rintro e w9 ⟨rfl, sv9, X9, T9, bel9, gg9, c9, rfl⟩; have q9 := BX.cell0 X9))
    have GT := BX.got (tb := tb) (l := [(2, [80]), (1, [71]), (1, pbs sk 1 8)]) X9 (show tb < w5.heap.size by omega) (.int .i32 0)
    exact door7 _ _ rfl rfl rfl T9.mu (T9.ft 33) ⟨_, rfl, .inr ⟨GT, T9.setMu hk 0⟩, (((k7.trans (Kp.ofBelow F8.bel _)).toBelow (by omega) (by simp; omega)).trans bel9).setCell (p := ⟨tb, 33, none⟩) (by omega) _⟩

end Go.Proofs.YbulkdaeyDoor
