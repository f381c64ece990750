import Derived.Test.YbulkdaeyDoorLawBox
/-
  LawS5081ASends, link 1 not joined.
-/
namespace Go.Proofs.YbulkdaeyDoor
open Go.RowKit

set_option maxRecDepth 20000 in
set_option maxHeartbeats 6400000 in
theorem sends_zero (sk lo : List UInt8) (b : Bool) (hops md ps nn : Int) (w : World) (hk : sk.length = 32) (hlo : lo.length = 32) (h0 : 0 ≤ md) (h1 : md ≤ 255) (p0 : 0 ≤ ps) (p1 : ps ≤ 255) (hm : md % 8 = 0) :
    Calls Ybad.prog 3 #[.agg (kcl sk).toArray, .agg (kcl lo).toArray, .bool b, .int .i64 hops, .int .u8 md, .int .u8 ps, .int .i64 nn] w fun e w' => e = .returned (.bool true) ∧ Below w.heap.size w w' := by
  have L0 := Lb.no w sk lo
  have hth := law_there w sk lo hk hlo
  have hsz := size_arr22 hk
  go_enter Ybad.func3, Ybad.ntmps3
  cases b
  case' false =>
    go_wp2_with (first
      | (refine wpList_load_mid rfl 22 _ rfl _ _ rfl (kcl sk) _ L0.s Ybad.underlying22 rfl (size_key22 hk) ?_; refine Hid.out ?_))
    obtain ⟨low, hlow, LW⟩ : ∃ low : List UInt8, low.length = 32 ∧ Lb w ((w.alloc (.cells (kcl sk).toArray 22)).alloc (.cells (kcl lo).toArray 22)) sk low := ⟨lo, hlo, L0⟩
    clear L0 hth
    generalize (w.alloc (.cells (kcl sk).toArray 22)).alloc (.cells (kcl lo).toArray 22) = W at *
  case' true =>
    have LY := Lb.yes w sk lo hk hlo
    go_wp2_with (first
      | (refine wpList_load_mid rfl 22 _ rfl _ _ rfl (kcl sk) _ L0.s Ybad.underlying22 rfl (size_key22 hk) ?_)
      | (refine wpList_store_mid rfl 22 _ _ rfl _ _ (kcl sk).toArray rfl rfl hth hsz (all_oneCell_toArray (kcl_one sk)) ?_)
      | (refine wpList_load_mid rfl 22 _ rfl _ _ rfl (kcl sk) _ LY.s Ybad.underlying22 rfl (size_key22 hk) ?_; refine Hid.out ?_))
    obtain ⟨low, hlow, LW⟩ : ∃ low : List UInt8, low.length = 32 ∧ Lb w (((w.alloc (.cells (kcl sk).toArray 22)).alloc (.cells (kcl lo).toArray 22)).setCells (w.heap.size + 1) 0 (kcl sk).toArray.toList) sk low := ⟨sk, hk, LY⟩
    clear LY L0 hth
    generalize ((w.alloc (.cells (kcl sk).toArray 22)).alloc (.cells (kcl lo).toArray 22)).setCells (w.heap.size + 1) 0 (kcl sk).toArray.toList = W at *
  all_goals
    refine Lib.hid ?_
    clear hsz
    have hltW := LW.lt
    go_wp2_with (first
      | (go_at_call 6; refine (build_zero sk hk md ps _ h0 h1 p0 p1 hm).mono ?_; rintro e w2 ⟨tb, mb, hb, l2, rfl, S2⟩; have Z2 := S2.facts; have tp := Z2.par))
    have L2 := LW.bel' (by omega) S2.bel
    have hsW := S2.bel.size
    have htb : W.heap.size ≤ tb := S2.tge
    have l2l := L2.l
    have hu := Ybad.underlying22
    have hi := size_key22 hlow
    have hlen : (kcl low).length = 32 := by rw [kcl_length, hlow]
    have hone := kcl_one low
    generalize hpe : pvk (ps % 3) (.pointer none) (.pointer (some ⟨l2, 0, none⟩)) = pv at *
    clear hpe S2 LW tp
    go_region_held3 (fun w' => w'.rangeAt (w.heap.size + 1) 0 (kcl low)) (go_keep)
      (first
        | (go_at_call 8; refine (add_any _ _ _ _).mono ?_; rintro e w3 ⟨⟨x3, y3, rfl⟩, bb3⟩; have K3 : Kp [] w2 w3 := kp_take0 bb3; have Z3 := Z2.kp K3; have L3 := range_kp l2l K3 (by omega))
        | (go_at_call 7; refine (takeProbe_z tb mb l2 low hops _ _ pv _ Z3).mono ?_; rintro e w4 ⟨rfl, K4, c1, c2, c3⟩; have L4 : w4.rangeAt (w.heap.size + 1) 0 (kcl low) := fun j v hv => (K4.cell (p := ⟨w.heap.size + 1, 0 + j, none⟩) (show w.heap.size + 1 < w3.heap.size by have := K3.size; omega) (by simp; omega)).trans (L3 j v hv)))
    have B4 : Below w.heap.size w w4 := L2.bel.trans ((K3.toBelow (by omega) (by simp)).trans (K4.toBelow (by have := K3.size; omega) (by simp; omega)))
    clear Z2 Z3 L2 l2l K3 bb3 L3 K4 hsW hltW htb hu hi hlen hone
    go_wp2
    go_ret
    exact ⟨rfl, B4⟩
end Go.Proofs.YbulkdaeyDoor
