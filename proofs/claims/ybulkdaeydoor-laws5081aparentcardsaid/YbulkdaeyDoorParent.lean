import Derived.Test.YbulkdaeyDoorParentSome
/-
  LawS5081AParent, link 1 not joined; the law.
-/
namespace Go.Proofs.YbulkdaeyDoor
open Go.RowKit

/-- Out of the blocks: what TakeProbe and the law look at, link 1 not joined. -/
structure Z0 (w : World) (tb mb l2 : Nat) (pv : Value) : Prop where
  links : w.cell? ⟨tb, 35, none⟩ = some (.map (some mb))
  look : ∃ es c, w.heap[mb]? = some (.map es c) ∧ Instr.findNow (.int .i64) (.int .i64 1) es.toList 0 = some none
  mu : w.cell? ⟨tb, 33, none⟩ = some (.int .i32 0)
  thaw : w.frozen? ⟨tb, 33, none⟩ = false
  par : w.cell? ⟨tb, 37, none⟩ = some pv
  lazy2 : w.cell? ⟨l2, 2, none⟩ = some (.bool false)
  child2 : w.cell? ⟨l2, 3, none⟩ = some (.bool true)
  ne : l2 ≠ tb

theorem B0s.facts {w w' : World} {tb mb hb l2 : Nat} {sk : List UInt8} {pv : Value} (h : B0s w w' tb mb hb l2 sk pv) : Z0 w' tb mb l2 pv := by
  obtain ⟨⟨⟨S, t1, t2⟩, b2, b3, b4⟩, bel, tge, hge, ge2, n2, n3⟩ := h
  exact ⟨by simp [World.cell?, t1, t2.links], ⟨_, _, b2, by rfl⟩, by simp [World.cell?, t1, t2.mu], Plain.thaw ⟨_, _, t1⟩ 33, by simp [World.cell?, t1, t2.par], by simp [World.cell?, b4, linkC], by simp [World.cell?, b4, linkC], n3⟩

theorem Z0.kp {w w' : World} {tb mb l2 : Nat} {pv : Value} (h : Z0 w tb mb l2 pv) (k : Kp [] w w') : Z0 w' tb mb l2 pv := by
  obtain ⟨es, c, h2, h3⟩ := h.look
  have bt : tb < w.heap.size := lt_of_cell h.mu
  have b2 : l2 < w.heap.size := lt_of_cell h.lazy2
  exact ⟨(k.cell bt (by simp)).trans h.links, ⟨es, c, (k.block mb (heap_lt h2) (by simp)).trans h2, h3⟩, (k.cell bt (by simp)).trans h.mu, (k.frozen bt (by simp)).trans h.thaw, (k.cell bt (by simp)).trans h.par, (k.cell b2 (by simp)).trans h.lazy2, (k.cell b2 (by simp)).trans h.child2, h.ne⟩

/-- TakeProbe there. -/
theorem takeProbe_z (tb mb l2 : Nat) (low : List UInt8) (hops x y : Int) (pv : Value) (w : World) (h : Z0 w tb mb l2 pv) :
    Calls Ybad.prog 7 #[.pointer (some ⟨tb, 0, none⟩), .int .i64 1, .agg (kcl low).toArray, .int .i64 hops, .agg #[.int .u64 x, .int .i64 y, .pointer none]] w fun e w' =>
      e = .returned (.tuple #[.slice none 0 0, .nilIface]) ∧ Kp [tb] w w' ∧ w'.cell? ⟨tb, 37, none⟩ = some pv ∧ w'.cell? ⟨l2, 2, none⟩ = some (.bool false) ∧ w'.cell? ⟨l2, 3, none⟩ = some (.bool true) := by
  obtain ⟨es, c, h2, h3⟩ := h.look
  have hne := h.ne
  refine (takeProbe_absent tb mb low hops x y w h.links es c h2 h3 h.mu h.thaw).mono ?_
  rintro e w' ⟨rfl, L⟩
  have b2 : l2 < w.heap.size := lt_of_cell h.lazy2
  exact ⟨rfl, L.kp, (L.cells 37 (by decide)).trans h.par, (L.kp.cell b2 (by simp [hne])).trans h.lazy2, (L.kp.cell b2 (by simp [hne])).trans h.child2⟩

set_option maxRecDepth 20000 in
set_option maxHeartbeats 6400000 in
theorem parent_zero (sk lo : List UInt8) (b : Bool) (hops md ps nn : Int) (w : World) (hk : sk.length = 32) (hlo : lo.length = 32) (h0 : 0 ≤ md) (h1 : md ≤ 255) (p0 : 0 ≤ ps) (p1 : ps ≤ 255) (hm : md % 8 = 0) :
    Calls Ybad.prog 4 #[.agg (kcl sk).toArray, .agg (kcl lo).toArray, .bool b, .int .i64 hops, .int .u8 md, .int .u8 ps, .int .i64 nn] w fun e w' => e = .returned (.bool true) ∧ Below w.heap.size w w' := by
  have L0 := Lb.no w sk lo
  have hth := law_there w sk lo hk hlo
  have hsz := size_arr22 hk
  go_enter Ybad.func4, Ybad.ntmps4
  cases b
  case' false =>
    go_wp2_with (first
      | (refine wpList_load_mid rfl 22 _ rfl _ _ rfl (kcl sk) _ L0.s Ybad.underlying22 rfl (size_key22 hk) ?_; refine Hid.out ?_))
    obtain ⟨low, hlow, LW⟩ : ∃ low : List UInt8, low.length = 32 ∧ Lb w ((w.alloc (.cells (kcl sk).toArray 22)).alloc (.cells (kcl lo).toArray 22)) sk low := ⟨lo, hlo, L0⟩
    clear L0 hth
    generalize (w.alloc (.cells (kcl sk).toArray 22)).alloc (.cells (kcl lo).toArray 22) = W at *
  case' true =>
    have LY := Lb.yes w sk lo hk hlo
    go_wp2_with (first
      | (refine wpList_load_mid rfl 22 _ rfl _ _ rfl (kcl sk) _ L0.s Ybad.underlying22 rfl (size_key22 hk) ?_)
      | (refine wpList_store_mid rfl 22 _ _ rfl _ _ (kcl sk).toArray rfl rfl hth hsz (all_oneCell_toArray (kcl_one sk)) ?_)
      | (refine wpList_load_mid rfl 22 _ rfl _ _ rfl (kcl sk) _ LY.s Ybad.underlying22 rfl (size_key22 hk) ?_; refine Hid.out ?_))
    obtain ⟨low, hlow, LW⟩ : ∃ low : List UInt8, low.length = 32 ∧ Lb w (((w.alloc (.cells (kcl sk).toArray 22)).alloc (.cells (kcl lo).toArray 22)).setCells (w.heap.size + 1) 0 (kcl sk).toArray.toList) sk low := ⟨sk, hk, LY⟩
    clear LY L0 hth
    generalize ((w.alloc (.cells (kcl sk).toArray 22)).alloc (.cells (kcl lo).toArray 22)).setCells (w.heap.size + 1) 0 (kcl sk).toArray.toList = W at *
  all_goals
    refine Lib.hid ?_
    clear hsz
    have hltW := LW.lt
    go_wp2_with (first
      | (go_at_call 6; refine (build_zero sk hk md ps _ h0 h1 p0 p1 hm).mono ?_; rintro e w2 ⟨tb, mb, hb, l2, rfl, S2⟩; have Z2 := S2.facts; have tp := Z2.par))
    have L2 := LW.bel' (by omega) S2.bel
    have hsW := S2.bel.size
    have htb : W.heap.size ≤ tb := S2.tge
    have l2l := L2.l
    have hu := Ybad.underlying22
    have hi := size_key22 hlow
    have hlen : (kcl low).length = 32 := by rw [kcl_length, hlow]
    have hone := kcl_one low
    have hpv := pvk_cases (ps % 3) (.pointer none) (.pointer (some ⟨l2, 0, none⟩))
    generalize hpe : pvk (ps % 3) (.pointer none) (.pointer (some ⟨l2, 0, none⟩)) = pv at *
    clear hpe S2 LW tp
    go_region_held3 (fun w' => w'.rangeAt (w.heap.size + 1) 0 (kcl low)) (go_keep)
      (first
        | (go_at_call 8; refine (add_any _ _ _ _).mono ?_; rintro e w3 ⟨⟨x3, y3, rfl⟩, bb3⟩; have K3 : Kp [] w2 w3 := kp_take0 bb3; have Z3 := Z2.kp K3; have L3 := range_kp l2l K3 (by omega))
        | (go_at_call 7; refine (takeProbe_z tb mb l2 low hops _ _ pv _ Z3).mono ?_; rintro e w4 ⟨rfl, K4, c1, c2, c3⟩; have L4 : w4.rangeAt (w.heap.size + 1) 0 (kcl low) := fun j v hv => (K4.cell (p := ⟨w.heap.size + 1, 0 + j, none⟩) (show w.heap.size + 1 < w3.heap.size by have := K3.size; omega) (by simp; omega)).trans (L3 j v hv)))
    have B4 : Below w.heap.size w w4 := L2.bel.trans ((K3.toBelow (by omega) (by simp)).trans (K4.toBelow (by have := K3.size; omega) (by simp; omega)))
    clear Z2 Z3 L2 l2l K3 bb3 L3 K4 hsW hltW htb hu hi hlen hone
    have qs := neq_ptr_same
    rcases hpv with rfl | rfl | rfl
    all_goals
      go_wp2
      go_ret
      exact ⟨rfl, B4⟩

theorem parent_any (sk lo : List UInt8) (b : Bool) (hops md ps nn bu ev : Int) (er : Value) (w : World) (hk : sk.length = 32) (hlo : lo.length = 32) (h0 : 0 ≤ md) (h1 : md ≤ 255) (p0 : 0 ≤ ps) (p1 : ps ≤ 255)
    (g0 : w.cell? ⟨2, 0, none⟩ = some (.int .i64 bu)) (g1 : w.cell? ⟨2, 1, none⟩ = some (.int .i64 ev)) (ge : w.cell? ⟨0, 0, none⟩ = some er) :
    Calls Ybad.prog 4 #[.agg (kcl sk).toArray, .agg (kcl lo).toArray, .bool b, .int .i64 hops, .int .u8 md, .int .u8 ps, .int .i64 nn] w fun e w' => e = .returned (.bool true) ∧ Below w.heap.size w w' := by
  by_cases hm : md % 8 = 0
  · exact parent_zero sk lo b hops md ps nn w hk hlo h0 h1 p0 p1 hm
  · exact parent_law sk lo b hops md ps nn bu ev er w hk hlo h0 h1 p0 p1 g0 g1 ge hm
end Go.Proofs.YbulkdaeyDoor
