import Derived.Test.YbulkdaeyDoorAll
/-
  LawS5081AParent.
-/
namespace Go.Proofs.YbulkdaeyDoor
open Go.RowKit

theorem size22 : (Ybad.prog.info? 22).map (·.size) = some 32 := by kernel_rfl
theorem size_key22 {k : List UInt8} (hk : k.length = 32) : (Ybad.prog.info? 22).map (·.size) = some (kcl k).length := by rw [kcl_length, hk]; exact size22
theorem size_arr22 {k : List UInt8} (hk : k.length = 32) : (Ybad.prog.info? 22).map (·.size) = some (kcl k).toArray.size := by rw [List.size_toArray]; exact size_key22 hk
theorem key_eq22 (a b : List UInt8) (ha : a.length = 32) (hb : b.length = 32) (w : World) : (binOp .eql 22 (.agg (kcl a).toArray) (.agg (kcl b).toArray)).run Ybad.prog w = .ok (.bool (a == b)) w :=
  Go.run_eql_bytes w 22 5 32 Ybad.underlying22 Ybad.underlying5 Ybad.sizeOf5 a b ha hb

/-- The law's two boxes: self's at n, low's at n + 1. -/
structure Lb (w W : World) (sk low : List UInt8) : Prop where
  s : W.rangeAt w.heap.size 0 (kcl sk)
  l : W.rangeAt (w.heap.size + 1) 0 (kcl low)
  bel : Below w.heap.size w W
  lt : w.heap.size + 1 < W.heap.size

theorem there_new (w : World) (cs : List Value) (t : TypeId) (n : Nat) (h : cs.length = n) : (w.alloc (.cells cs.toArray t)).there w.heap.size 0 n := fun j hj => by
  refine ⟨(range_new w cs t).isSome j (by omega), Plain.thaw ⟨_, _, heap_alloc_new w _⟩ _⟩

theorem Lb.no (w : World) (sk lo : List UInt8) : Lb w ((w.alloc (.cells (kcl sk).toArray 22)).alloc (.cells (kcl lo).toArray 22)) sk lo := by
  have r1 := World.rangeAt_alloc (range_new w (kcl sk) 22) (.cells (kcl lo).toArray 22)
  have r2 := range_new (w.alloc (.cells (kcl sk).toArray 22)) (kcl lo) 22
  rw [show (w.alloc (.cells (kcl sk).toArray 22)).heap.size = w.heap.size + 1 by simp] at r2
  exact ⟨r1, r2, ((Below.refl _ _).alloc (Nat.le_refl _) _).alloc (by simp) _, by simp⟩

theorem law_there (w : World) (sk lo : List UInt8) (hk : sk.length = 32) (hlo : lo.length = 32) : ((w.alloc (.cells (kcl sk).toArray 22)).alloc (.cells (kcl lo).toArray 22)).there (w.heap.size + 1) 0 (kcl sk).toArray.size := by
  have := there_new (w.alloc (.cells (kcl sk).toArray 22)) (kcl lo) 22 32 (by rw [kcl_length, hlo])
  rw [show (w.alloc (.cells (kcl sk).toArray 22)).heap.size = w.heap.size + 1 by simp] at this
  rw [show (kcl sk).toArray.size = 32 by simp [kcl_length, hk]]
  exact this

theorem Lb.yes (w : World) (sk lo : List UInt8) (hk : sk.length = 32) (hlo : lo.length = 32) : Lb w (((w.alloc (.cells (kcl sk).toArray 22)).alloc (.cells (kcl lo).toArray 22)).setCells (w.heap.size + 1) 0 (kcl sk).toArray.toList) sk sk := by
  have h := Lb.no w sk lo
  have k := kp_setCells (w.heap.size + 1) (kcl sk).toArray.toList 0 ((w.alloc (.cells (kcl sk).toArray 22)).alloc (.cells (kcl lo).toArray 22))
  have ht := law_there w sk lo hk hlo
  rw [List.size_toArray] at ht
  exact ⟨fun j v hv => (k.cell (p := ⟨w.heap.size, 0 + j, none⟩) (show w.heap.size < _ by simp; omega) (by simp)).trans (h.s j v hv), World.rangeAt_setCells_same _ _ _ _ ht, h.bel.trans (k.toBelow (by simp; omega) (by simp)), Nat.lt_of_lt_of_le h.lt k.size⟩

theorem Lb.bel' {w W W' : World} {sk low : List UInt8} (h : Lb w W sk low) {n : Nat} (hn : w.heap.size + 2 ≤ n) (b : Below n W W') : Lb w W' sk low := by
  have hlt := h.lt
  exact ⟨fun j v hv => (b.cell (p := ⟨w.heap.size, 0 + j, none⟩) (show w.heap.size < n by omega)).trans (h.s j v hv), fun j v hv => (b.cell (p := ⟨w.heap.size + 1, 0 + j, none⟩) (show w.heap.size + 1 < n by omega)).trans (h.l j v hv), h.bel.trans (b.mono (by omega)), Nat.lt_of_lt_of_le hlt b.size⟩

theorem Tr.kp {w w' : World} {tb l1 l2 hb mb B0 : Nat} (h : Tr w tb l1 l2 hb mb B0) (k : Kp [] w w') : Tr w' tb l1 l2 hb mb B0 := by
  obtain ⟨es, c, i, h2, h3⟩ := h.look
  exact { h with links := (k.cell (p := ⟨tb, 35, none⟩) (lt_of_cell h.links) (by simp)).trans h.links, look := ⟨es, c, i, (k.block mb (heap_lt h2) (by simp)).trans h2, h3⟩ }

theorem wpList_load_g {ops : Array Oper} {rest : List Oper} {op : Oper} {a : Act} {w : World} {Q : Exit → Act → World → Prop} (hw : Region.wanted op (yielded ops a.tmps) = true) (x : Operand) (ho : op.op = .load 22 x)
    (b o : Nat) (hx : a.eval x = .pointer (some ⟨b, o, none⟩)) (k : List UInt8) (hk : k.length = 32) (hc : w.rangeAt b o (kcl k))
    (h : wpList Ybad.prog ops Q rest (a.put op.dst (.agg (kcl k).toArray)) w) : wpList Ybad.prog ops Q (op :: rest) a w :=
  wpList_step fun _ hK => by
    rw [if_pos hw]
    exact wp_load_mid 22 x ho b o hx (kcl k) _ hc Ybad.underlying22 rfl (size_key22 hk) (hK _ _ h)

theorem pvk_cases (k : Int) (a b : Value) : pvk k a b = .pointer none ∨ pvk k a b = a ∨ pvk k a b = b := by
  unfold pvk
  split
  · exact .inr (.inl rfl)
  · split
    · exact .inr (.inr rfl)
    · exact .inl rfl

set_option maxRecDepth 20000 in
set_option maxHeartbeats 6400000 in
theorem parent_law (sk lo : List UInt8) (b : Bool) (hops md ps nn bu ev : Int) (er : Value) (w : World) (hk : sk.length = 32) (hlo : lo.length = 32) (h0 : 0 ≤ md) (h1 : md ≤ 255) (p0 : 0 ≤ ps) (p1 : ps ≤ 255)
    (g0 : w.cell? ⟨2, 0, none⟩ = some (.int .i64 bu)) (g1 : w.cell? ⟨2, 1, none⟩ = some (.int .i64 ev)) (ge : w.cell? ⟨0, 0, none⟩ = some er) (hm : md % 8 ≠ 0) :
    Calls Ybad.prog 4 #[.agg (kcl sk).toArray, .agg (kcl lo).toArray, .bool b, .int .i64 hops, .int .u8 md, .int .u8 ps, .int .i64 nn] w fun e w' => e = .returned (.bool true) ∧ Below w.heap.size w w' := by
  have L0 := Lb.no w sk lo
  have hth := law_there w sk lo hk hlo
  have hsz := size_arr22 hk
  go_enter Ybad.func4, Ybad.ntmps4
  cases b
  case' false =>
    go_wp2_with (first
      | (refine wpList_load_mid rfl 22 _ rfl _ _ rfl (kcl sk) _ L0.s Ybad.underlying22 rfl (size_key22 hk) ?_; refine Hid.out ?_))
    obtain ⟨low, hlow, LW⟩ : ∃ low : List UInt8, low.length = 32 ∧ Lb w ((w.alloc (.cells (kcl sk).toArray 22)).alloc (.cells (kcl lo).toArray 22)) sk low := ⟨lo, hlo, L0⟩
    clear L0 hth
    generalize (w.alloc (.cells (kcl sk).toArray 22)).alloc (.cells (kcl lo).toArray 22) = W at *
  case' true =>
    have LY := Lb.yes w sk lo hk hlo
    go_wp2_with (first
      | (refine wpList_load_mid rfl 22 _ rfl _ _ rfl (kcl sk) _ L0.s Ybad.underlying22 rfl (size_key22 hk) ?_)
      | (refine wpList_store_mid rfl 22 _ _ rfl _ _ (kcl sk).toArray rfl rfl hth hsz (all_oneCell_toArray (kcl_one sk)) ?_)
      | (refine wpList_load_mid rfl 22 _ rfl _ _ rfl (kcl sk) _ LY.s Ybad.underlying22 rfl (size_key22 hk) ?_; refine Hid.out ?_))
    obtain ⟨low, hlow, LW⟩ : ∃ low : List UInt8, low.length = 32 ∧ Lb w (((w.alloc (.cells (kcl sk).toArray 22)).alloc (.cells (kcl lo).toArray 22)).setCells (w.heap.size + 1) 0 (kcl sk).toArray.toList) sk low := ⟨sk, hk, LY⟩
    clear LY L0 hth
    generalize ((w.alloc (.cells (kcl sk).toArray 22)).alloc (.cells (kcl lo).toArray 22)).setCells (w.heap.size + 1) 0 (kcl sk).toArray.toList = W at *
  all_goals
    refine Lib.hid ?_
    clear hsz
    have hb2 : 2 < w.heap.size := lt_of_cell g0
    have hltW := LW.lt
    go_wp2_with (first
      | (go_at_call 6; refine (build_some sk hk md ps _ h0 h1 p0 p1 hm).mono ?_; rintro e w2 ⟨tb, mb, hb, l1, l2, rfl, S2⟩; obtain ⟨F2, T2, P2⟩ := S2.facts hk ((LW.bel.cell (p := ⟨2, 0, none⟩) hb2).trans g0) ((LW.bel.cell (p := ⟨2, 1, none⟩) hb2).trans g1) ((LW.bel.cell (p := ⟨0, 0, none⟩) (show 0 < w.heap.size by omega)).trans ge); have tp := T2.par))
    have L2 := LW.bel' (by omega) S2.bel
    have hsW := S2.bel.size
    have l2l := L2.l
    have hu := Ybad.underlying22
    have hi := size_key22 hlow
    have hlen : (kcl low).length = 32 := by rw [kcl_length, hlow]
    have hone := kcl_one low
    have hpv := pvk_cases (ps % 3) (.pointer (some ⟨l1, 0, none⟩)) (.pointer (some ⟨l2, 0, none⟩))
    have htc : decide (3 ≤ md % 8) = true → (md % 8 != 1) = true := by
      intro h
      simp at h
      simp
      omega
    generalize hpe : pvk (ps % 3) (.pointer (some ⟨l1, 0, none⟩)) (.pointer (some ⟨l2, 0, none⟩)) = pv at *
    clear hpe S2 LW tp
    go_region_held3 (fun w' => w'.rangeAt (w.heap.size + 1) 0 (kcl low)) (go_keep)
      (first
        | (go_at_call 8; refine (add_any _ _ _ _).mono ?_; rintro e w3 ⟨⟨x3, y3, rfl⟩, bb3⟩; have K3 : Kp [] w2 w3 := kp_take0 bb3; have F3 := F2.kp K3; have T3 := T2.kp K3 (by simp) (by simp) (by simp); have P3 := P2.kp K3 (by simp) (by simp) (by simp) (by simp); have L3 := range_kp l2l K3 (by omega))
        | (go_at_call 7; refine (takeProbe_all tb l1 l2 hb mb W.heap.size sk low hops _ _ _ _ _ _ pv er _ _ _ hk hlow F3 T3 P3 (by have := K3.size; omega) hpv htc).mono ?_; rintro e w4 ⟨sv, er', rfl, Q4, bel4⟩; have L4 : w4.rangeAt (w.heap.size + 1) 0 (kcl low) := fun j v hv => (bel4.cell (p := ⟨w.heap.size + 1, 0 + j, none⟩) hltW).trans (L3 j v hv)))
    have s4 : w4.rangeAt w.heap.size 0 (kcl sk) := fun j v hv => (bel4.cell (p := ⟨w.heap.size, 0 + j, none⟩) (show w.heap.size < W.heap.size by omega)).trans ((K3.cell (p := ⟨w.heap.size, 0 + j, none⟩) (show w.heap.size < w2.heap.size by omega) (by simp)).trans (L2.s j v hv))
    have B4 : Below w.heap.size w w4 := L2.bel.trans ((K3.toBelow (by omega) (by simp)).trans (bel4.mono (by omega)))
    have n3 := F2.n3
    clear F2 T2 P2 L2 l2l K3 bb3 F3 T3 P3 L3 bel4 hsW hltW hb2 htc hu hi hlen hone g0 g1 ge
    have qk := key_eq22 low sk hlow hk
    have qn := neq_nil_l
    have qs := neq_ptr_same
    have qe := eql_ptr_same
    have qd := eql_nil_l
    rcases Q4 with ⟨rfl, -, T4⟩ | ⟨-, hch, -, hlw, rfl, G4, T4⟩ | ⟨-, hch, -, hlw, rfl, G4, T4⟩ | ⟨-, hch, -, hlw, rfl, -, G4, T4⟩
    · have qo := neq_ptr_other n3 T4.p2 T4.p1
      obtain ⟨_, _, _, t4, _, t6, t7, _, t9, t10, _, _, _, _, _, _⟩ := id T4
      by_cases m3 : 3 ≤ md % 8
      · cases hlw : (low == sk) <;> rcases hpv with rfl | rfl | rfl
        all_goals
          go_wp2_with (first
            | (refine wpList_load_g rfl _ rfl _ _ rfl low hlow L4 ?_)
            | (refine wpList_load_g rfl _ rfl _ _ rfl sk hk s4 ?_))
          go_ret
          exact ⟨rfl, B4⟩
      · rcases hpv with rfl | rfl | rfl
        all_goals
          go_wp2
          go_ret
          exact ⟨rfl, B4⟩
    all_goals
      have m3 : 3 ≤ md % 8 := by simpa using hch
      have qo := neq_ptr_other n3 T4.p2 T4.p1
      obtain ⟨_, _, _, t4, _, t6, t7, _, t9, t10, _, _, _, _, _, _⟩ := id T4
      obtain ⟨gg, cc, xs, BB, hsv, -, -, -⟩ := G4
      simp only [List.length_cons, List.length_nil, Nat.zero_add, Nat.reduceAdd] at hsv
      subst hsv
      clear hch T4
      go_wp2_with (first
        | (refine wpList_load_g rfl _ rfl _ _ rfl low hlow L4 ?_)
        | (refine wpList_load_g rfl _ rfl _ _ rfl sk hk s4 ?_))
      go_ret
      exact ⟨rfl, B4⟩
end Go.Proofs.YbulkdaeyDoor
