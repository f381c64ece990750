import Derived.Test.YbulkdaeyDoorLawBox
import Derived.Test.YbulkdaeyDoorSame
import Derived.Test.YbulkdaeyDoorWant
import Derived.Test.YbulkdaeyDoorLess
/-
  LawS5081ASends, link 1 joined.
-/
namespace Go.Proofs.YbulkdaeyDoor
open Go.RowKit

/-- A new [32]byte variable. -/
abbrev zero27 : Obj := .cells #[.int .u8 0, .int .u8 0, .int .u8 0, .int .u8 0, .int .u8 0, .int .u8 0, .int .u8 0, .int .u8 0, .int .u8 0, .int .u8 0, .int .u8 0, .int .u8 0, .int .u8 0, .int .u8 0, .int .u8 0, .int .u8 0, .int .u8 0, .int .u8 0, .int .u8 0, .int .u8 0, .int .u8 0, .int .u8 0, .int .u8 0, .int .u8 0, .int .u8 0, .int .u8 0, .int .u8 0, .int .u8 0, .int .u8 0, .int .u8 0, .int .u8 0, .int .u8 0] 27
theorem size_arr27 {k : List UInt8} (hk : k.length = 32) : (Ybad.prog.info? 27).map (·.size) = some (kcl k).toArray.size := by rw [List.size_toArray]; exact size_key hk
theorem there27 (w : World) (k : List UInt8) (hk : k.length = 32) : (w.alloc zero27).there w.heap.size 0 (kcl k).toArray.size := by
  rw [show (kcl k).toArray.size = 32 by simp [kcl_length, hk]]
  exact there_new w [.int .u8 0, .int .u8 0, .int .u8 0, .int .u8 0, .int .u8 0, .int .u8 0, .int .u8 0, .int .u8 0, .int .u8 0, .int .u8 0, .int .u8 0, .int .u8 0, .int .u8 0, .int .u8 0, .int .u8 0, .int .u8 0, .int .u8 0, .int .u8 0, .int .u8 0, .int .u8 0, .int .u8 0, .int .u8 0, .int .u8 0, .int .u8 0, .int .u8 0, .int .u8 0, .int .u8 0, .int .u8 0, .int .u8 0, .int .u8 0, .int .u8 0, .int .u8 0] 27 32 rfl
theorem low_var (w : World) (k : List UInt8) (hk : k.length = 32) : Kp [] w ((w.alloc zero27).setCells w.heap.size 0 (kcl k).toArray.toList) ∧ ((w.alloc zero27).setCells w.heap.size 0 (kcl k).toArray.toList).rangeAt w.heap.size 0 (kcl k) ∧
    ((w.alloc zero27).setCells w.heap.size 0 (kcl k).toArray.toList).there w.heap.size 0 32 ∧ w.heap.size < ((w.alloc zero27).setCells w.heap.size 0 (kcl k).toArray.toList).heap.size := by
  have h := there27 w k hk
  have k1 := kp_setCells w.heap.size (kcl k).toArray.toList 0 (w.alloc zero27)
  have h1 := h
  rw [List.size_toArray] at h1
  rw [show (kcl k).toArray.size = 32 by simp [kcl_length, hk]] at h
  exact ⟨((Kp.refl _ w).alloc _).news k1 (by simp), World.rangeAt_setCells_same _ _ _ _ h1, World.there_setCells h _ _ _, Nat.lt_of_lt_of_le (by simp) k1.size⟩

set_option maxRecDepth 20000 in
set_option maxHeartbeats 6400000 in
theorem sends_law (sk lo : List UInt8) (b : Bool) (hops md ps nn bu ev : Int) (er : Value) (w : World) (hk : sk.length = 32) (hlo : lo.length = 32) (h0 : 0 ≤ md) (h1 : md ≤ 255) (p0 : 0 ≤ ps) (p1 : ps ≤ 255)
    (g0 : w.cell? ⟨2, 0, none⟩ = some (.int .i64 bu)) (g1 : w.cell? ⟨2, 1, none⟩ = some (.int .i64 ev)) (ge : w.cell? ⟨0, 0, none⟩ = some er) (heq : ∀ w, (binOp .eql 72 er er).run Ybad.prog w = .ok (.bool true) w) (hgu : ∀ (x y : Operand) (w : World), (eqGuard .eql 72 x y er er).run Ybad.prog w = .ok () w) (hm : md % 8 ≠ 0) :
    Calls Ybad.prog 3 #[.agg (kcl sk).toArray, .agg (kcl lo).toArray, .bool b, .int .i64 hops, .int .u8 md, .int .u8 ps, .int .i64 nn] w fun e w' => e = .returned (.bool true) ∧ Below w.heap.size w w' := by
  have L0 := Lb.no w sk lo
  have hth := law_there w sk lo hk hlo
  have hsz := size_arr22 hk
  go_enter Ybad.func3, Ybad.ntmps3
  cases b
  case' false =>
    go_wp2_with (first
      | (refine wpList_load_mid rfl 22 _ rfl _ _ rfl (kcl sk) _ L0.s Ybad.underlying22 rfl (size_key22 hk) ?_; refine Hid.out ?_))
    obtain ⟨low, hlow, LW⟩ : ∃ low : List UInt8, low.length = 32 ∧ Lb w ((w.alloc (.cells (kcl sk).toArray 22)).alloc (.cells (kcl lo).toArray 22)) sk low := ⟨lo, hlo, L0⟩
    clear L0 hth
    generalize (w.alloc (.cells (kcl sk).toArray 22)).alloc (.cells (kcl lo).toArray 22) = W at *
  case' true =>
    have LY := Lb.yes w sk lo hk hlo
    go_wp2_with (first
      | (refine wpList_load_mid rfl 22 _ rfl _ _ rfl (kcl sk) _ L0.s Ybad.underlying22 rfl (size_key22 hk) ?_)
      | (refine wpList_store_mid rfl 22 _ _ rfl _ _ (kcl sk).toArray rfl rfl hth hsz (all_oneCell_toArray (kcl_one sk)) ?_)
      | (refine wpList_load_mid rfl 22 _ rfl _ _ rfl (kcl sk) _ LY.s Ybad.underlying22 rfl (size_key22 hk) ?_; refine Hid.out ?_))
    obtain ⟨low, hlow, LW⟩ : ∃ low : List UInt8, low.length = 32 ∧ Lb w (((w.alloc (.cells (kcl sk).toArray 22)).alloc (.cells (kcl lo).toArray 22)).setCells (w.heap.size + 1) 0 (kcl sk).toArray.toList) sk low := ⟨sk, hk, LY⟩
    clear LY L0 hth
    generalize ((w.alloc (.cells (kcl sk).toArray 22)).alloc (.cells (kcl lo).toArray 22)).setCells (w.heap.size + 1) 0 (kcl sk).toArray.toList = W at *
  all_goals
    refine Lib.hid ?_
    clear hsz
    have hb2 : 2 < w.heap.size := lt_of_cell g0
    have hltW := LW.lt
    go_wp2_with (first
      | (go_at_call 6; refine (build_some sk hk md ps _ h0 h1 p0 p1 hm).mono ?_; rintro e w2 ⟨tb, mb, hb, l1, l2, rfl, S2⟩; obtain ⟨F2, T2, P2⟩ := S2.facts hk ((LW.bel.cell (p := ⟨2, 0, none⟩) hb2).trans g0) ((LW.bel.cell (p := ⟨2, 1, none⟩) hb2).trans g1) ((LW.bel.cell (p := ⟨0, 0, none⟩) (show 0 < w.heap.size by omega)).trans ge); have tp := T2.par))
    have L2 := LW.bel' (by omega) S2.bel
    have hsW := S2.bel.size
    have l2l := L2.l
    have hu := Ybad.underlying22
    have hi := size_key22 hlow
    have hlen : (kcl low).length = 32 := by rw [kcl_length, hlow]
    have hone := kcl_one low
    have hpv := pvk_cases (ps % 3) (.pointer (some ⟨l1, 0, none⟩)) (.pointer (some ⟨l2, 0, none⟩))
    have htc : decide (3 ≤ md % 8) = true → (md % 8 != 1) = true := by
      intro h
      simp at h
      simp
      omega
    generalize hpe : pvk (ps % 3) (.pointer (some ⟨l1, 0, none⟩)) (.pointer (some ⟨l2, 0, none⟩)) = pv at *
    clear hpe S2 LW tp
    go_region_held3 (fun w' => w'.rangeAt (w.heap.size + 1) 0 (kcl low)) (go_keep)
      (first
        | (go_at_call 8; refine (add_any _ _ _ _).mono ?_; rintro e w3 ⟨⟨x3, y3, rfl⟩, bb3⟩; have K3 : Kp [] w2 w3 := kp_take0 bb3; have F3 := F2.kp K3; have T3 := T2.kp K3 (by simp) (by simp) (by simp); have P3 := P2.kp K3 (by simp) (by simp) (by simp) (by simp); have L3 := range_kp l2l K3 (by omega))
        | (go_at_call 7; refine (takeProbe_all tb l1 l2 hb mb W.heap.size sk low hops _ _ _ _ _ _ pv er _ _ _ hk hlow F3 T3 P3 (by have := K3.size; omega) hpv htc).mono ?_; rintro e w4 ⟨sv, er', rfl, Q4, bel4⟩; have L4 : w4.rangeAt (w.heap.size + 1) 0 (kcl low) := fun j v hv => (bel4.cell (p := ⟨w.heap.size + 1, 0 + j, none⟩) hltW).trans (L3 j v hv)))
    have s4 : w4.rangeAt w.heap.size 0 (kcl sk) := fun j v hv => (bel4.cell (p := ⟨w.heap.size, 0 + j, none⟩) (show w.heap.size < W.heap.size by omega)).trans ((K3.cell (p := ⟨w.heap.size, 0 + j, none⟩) (show w.heap.size < w2.heap.size by omega) (by simp)).trans (L2.s j v hv))
    have B4 : Below w.heap.size w w4 := L2.bel.trans ((K3.toBelow (by omega) (by simp)).trans (bel4.mono (by omega)))
    have n3 := F2.n3
    have ge4 := (B4.cell (p := ⟨0, 0, none⟩) (show 0 < w.heap.size by omega)).trans ge
    have hsw : w.heap.size + 1 < w4.heap.size := by have := bel4.size; have := K3.size; omega
    clear F2 T2 P2 L2 l2l K3 bb3 F3 T3 P3 L3 bel4 hsW hltW hb2 htc hu hi hlen hone g0 g1 ge
    have hmb : 0 ≤ md % 8 ∧ md % 8 < 8 := by omega
    by_cases m2 : md % 8 = 2
    · obtain ⟨hsv, hee⟩ : sv = .slice none 0 0 ∧ er' = .nilIface := by
        rcases Q4 with ⟨h1, h2, _⟩ | ⟨_, hch, _⟩ | ⟨_, hch, _⟩ | ⟨_, hch, _⟩
        · exact ⟨h1, by rw [h2]; simp [m2]⟩
        all_goals
          exfalso
          simp [m2] at hch
      subst hsv hee
      go_wp2
      go_ret
      exact ⟨rfl, B4⟩
    · by_cases m1 : md % 8 = 1
      · obtain ⟨hsv, hee⟩ : sv = .slice none 0 0 ∧ er' = er := by
          rcases Q4 with ⟨h1, h2, _⟩ | ⟨_, hch, _⟩ | ⟨_, hch, _⟩ | ⟨_, hch, _⟩
          · exact ⟨h1, by rw [h2]; simp [m1]⟩
          all_goals
            exfalso
            simp [m1] at hch
        subst hsv hee
        have heq4 := heq w4
        clear heq
        go_wp2
        all_goals
          go_ret
          exact ⟨rfl, B4⟩
      · have m3 : 3 ≤ md % 8 := by omega
        have z0 : (md % 8 == 0) = false := by simpa using hm
        have z1 : (md % 8 == 1) = false := by simpa using m1
        have z2 : (md % 8 == 2) = false := by simpa using m2
        clear heq hgu ge4
        have hE : er' = .nilIface := by
          rcases Q4 with ⟨_, h2, _⟩ | ⟨_, _, h2, _⟩ | ⟨_, _, h2, _⟩ | ⟨_, _, h2, _⟩
          · rw [h2]; simp [m1]
          all_goals exact h2
        subst hE
        have qk := key_eq22 low sk hlow hk
        have qn := eql_nil_l
        have qs := eql_ptr_same
        have qo : (binOp .eql 24 (.pointer (some ⟨l2, 0, none⟩)) (.pointer (some ⟨l1, 0, none⟩))).run Ybad.prog w4 = .ok (.bool false) w4 := by
          rcases Q4 with ⟨_, _, T4⟩ | ⟨_, _, _, _, _, _, T4⟩ | ⟨_, _, _, _, _, _, T4⟩ | ⟨_, _, _, _, _, _, _, T4⟩ <;> exact eql_ptr_other n3 T4.p2 T4.p1
        rcases hpv with rfl | rfl | rfl
        · cases hlw : (low == sk)
          · have hsv : sv = .slice none 0 0 := by
              rcases Q4 with ⟨h1, _⟩ | ⟨_, _, _, h, _⟩ | ⟨_, _, _, h, _⟩ | ⟨_, _, _, _, h, _⟩
              · exact h1
              · rw [hlw] at h; cases h
              · rw [hlw] at h; cases h
              · cases h
            subst hsv
            clear Q4
            go_wp2_with (first
            | (refine wpList_load_g rfl _ rfl _ _ rfl low hlow (L4) ?_)
            | (refine wpList_load_g rfl _ rfl _ _ rfl sk hk (s4) ?_))
            all_goals
              go_ret
              exact ⟨rfl, B4⟩
          have hsv : sv = .slice none 0 0 ∨ GotS w4 sv [(1, [71]), (1, pbs sk 1 8)] := by
            rcases Q4 with ⟨h1, _⟩ | ⟨_, _, _, _, _, h, _⟩ | ⟨_, _, _, _, h, _⟩ | ⟨_, _, _, _, h, _⟩
            · exact .inl h1
            · exact .inr h
            · cases h
            · cases h
          clear Q4 qs
          obtain ⟨ka5, kb5, kc5, kd5⟩ := lit_send w4 1 71
          have XA5 := (WX.nil (w := w4) (B := w.heap.size) (by omega)).kp ka5
          have hu5 := (Kp.refl [] w4).size
          go_wp2_with (first
            | (refine wpList_load_g rfl _ rfl _ _ rfl low hlow (L4) ?_)
            | (refine wpList_load_g rfl _ rfl _ _ rfl sk hk (s4) ?_)
            | (at_builtin; refine wpList_push (sv := .slice none 0 0) 1 [71] w4.heap.size 1 1 (w4.heap.size + 1) 1 1 rfl rfl rfl _ _ rfl rfl rfl XA5 kb5 (by simp) (by omega) (by omega) (by simp [Value.ownBlock]) kc5 ?_; intro gg5 cap5 w5 X5 K5 hat5; refine Hid.out ?_))
          refine Lib.hid ?_
          clear XA5 kb5 kc5
          have KK5 : Kp [] w4 w5 := ((Kp.refl [] w4).trans ka5).news K5 (by simp [Value.ownBlock])
          have hgg5 : w4.heap.size ≤ gg5 := by
            rcases hat5 with e | e
            · cases e
            · have := (Kp.refl [] w4).size; omega
          have hgl5 : gg5 < w5.heap.size := by obtain ⟨_, ho, _, _⟩ := X5; exact (ho.lt gg5 rfl).2
          clear K5 hat5 ka5
          go_wp2_with (first
            | (refine wpList_load_g rfl _ rfl _ _ rfl low hlow (range_kp L4 KK5 (by omega)) ?_)
            | (refine wpList_load_g rfl _ rfl _ _ rfl sk hk (range_kp s4 KK5 (by omega)) ?_)
            | (go_at_call 9; refine (probe_any sk _ _ hk).mono ?_; rintro e wp6 ⟨gp6, cp6, rfl, ho6, hb6⟩; refine Hid.out ?_))
          refine Lib.hid ?_
          have FP6 := FR.ofOwn (pbs_length sk 1 8 hk) (Below.refl _ _) ho6 hb6
          have fg6 := FP6.ge
          have fl6 := FP6.lt
          have Kp6 := Kp.ofBelow FP6.bel []
          obtain ⟨ka6, kb6, kd6⟩ := made_send wp6 1 gp6 41 cp6
          have XA6 := (X5.kp Kp6).kp ka6
          have hu6 := KK5.size
          have hr6 := range_kp FP6.row ka6 fl6
          clear ho6 hb6
          go_wp2_with (first
            | (at_builtin; refine wpList_push (sv := .slice (some ⟨gg5, 0, none⟩) 1 cap5) 1 (pbs sk 1 8) gp6 41 cp6 wp6.heap.size 1 2 (pbs_length sk 1 8 hk) rfl rfl _ _ rfl rfl rfl XA6 kb6 (by simp) (by omega) (by omega) (fun e => by have : gg5 = gp6 := Option.some.inj e; omega) hr6 ?_; intro gg6 cap6 w6 X6 K6 hat6; refine Hid.out ?_))
          refine Lib.hid ?_
          clear XA6 kb6 hr6
          have KK6 : Kp [] w4 w6 := ((KK5.trans Kp6).trans ka6).news K6 (by simp [Value.ownBlock]; omega)
          clear K6 hat6 ka6 Kp6 FP6
          have BF : Below w.heap.size w w6 := B4.trans (KK6.toBelow (by omega) (by simp))
          rcases hsv with rfl | hG
          · go_wp2
            go_ret
            exact ⟨rfl, BF⟩
          · have G2 := hG.kp KK6
            have G3 := WX.got (l := [(1, [71]), (1, pbs sk 1 8)]) X6
            obtain ⟨ga, ca, -, -, rfl, -, -, -⟩ := id hG
            clear hG
            go_wp2_with (first
              | (go_at_call 11; refine (asame_any ga gg6 2 ca cap6 [(1, [71]), (1, pbs sk 1 8)] _ rfl (by omega) G2 G3).mono ?_; rintro e wz ⟨rfl, KZ⟩))
            go_ret
            exact ⟨rfl, BF.trans (KZ.toBelow (by have := KK6.size; omega) (by simp))⟩
        · have hsv : sv = .slice none 0 0 := by
            rcases Q4 with ⟨h1, _⟩ | ⟨_, _, _, _, h, _⟩ | ⟨_, _, _, _, h, _⟩ | ⟨_, _, _, _, h, _⟩
            · exact h1
            · cases h
            all_goals
              exfalso
              simp at h
          subst hsv
          clear Q4
          go_wp2
          all_goals
            go_ret
            exact ⟨rfl, B4⟩
        · cases hlw : (low == sk)
          · by_cases hh : hops < 255
            · by_cases hc : cmpL sk low < 0
              · have hsv : sv = .slice none 0 0 ∨ GotS w4 sv [(2, pbs sk (wrap64 (hops + 1)) 8)] := by
                  rcases Q4 with ⟨h1, _⟩ | ⟨_, _, _, _, h, _⟩ | ⟨_, _, _, h, _⟩ | ⟨_, _, _, _, _, _, h, _⟩
                  · exact .inl h1
                  · cases h
                  · rw [hlw] at h; cases h
                  · exact .inr (by rw [lower, if_pos hc, IntWalk.i64_left] at h; exact h)
                have hdec : decide (cmpL sk low < 0) = true := by simp [hc]
                have hcH : Hid (cmpL sk low < 0) := hc
                clear Q4 qs hc
                have hthA := there27 w4 low hlow
                have hszA := size_arr27 hlow
                go_wp2_with (first
                  | (refine wpList_load_g rfl _ rfl _ _ rfl low hlow L4 ?_)
                  | (refine wpList_load_g rfl _ rfl _ _ rfl sk hk s4 ?_)
                  | (refine wpList_store_mid rfl 27 _ _ rfl _ _ (kcl low).toArray rfl rfl hthA hszA (all_oneCell_toArray (kcl_one low)) ?_; refine Hid.out ?_))
                refine Lib.hid ?_
                obtain ⟨KK5, R5, th5, hs5⟩ := low_var w4 low hlow
                clear hthA hszA
                generalize (w4.alloc zero27).setCells w4.heap.size 0 (kcl low).toArray.toList = w5 at *
                go_wp2_with (first
                  | (refine wpList_load_g rfl _ rfl _ _ rfl sk hk (range_kp s4 KK5 (by omega)) ?_)
                  | (refine wpList_load_mid rfl 27 _ rfl _ _ rfl (kcl low) _ R5 Ybad.underlying27 rfl (size_key hlow) ?_)
                  | (go_at_call 10; refine (less_any sk low _ hk hlow).mono ?_; rintro e w6 ⟨he6, bb6⟩; rw [hdec] at he6; subst he6; refine Hid.out ?_))
                refine Lib.hid ?_
                have K6 := Kp.ofBelow bb6 []
                have KK6 := KK5.trans K6
                have R6 := range_kp R5 K6 hs5
                have hs6 := K6.size
                have th6 : w6.there w4.heap.size 0 (kcl sk).toArray.size := by
                  rw [show (kcl sk).toArray.size = 32 by simp [kcl_length, hk]]
                  exact fun j hj => by rw [K6.cell (p := ⟨w4.heap.size, 0 + j, none⟩) hs5 (by simp), K6.frozen (p := ⟨w4.heap.size, 0 + j, none⟩) hs5 (by simp)]; exact th5 j hj
                have hszA := size_arr27 hk
                clear R5 th5 KK5 K6 bb6
                go_wp2_with (first
                  | (refine wpList_load_g rfl _ rfl _ _ rfl sk hk (range_kp s4 KK6 (by omega)) ?_)
                  | (refine wpList_store_mid rfl 27 _ _ rfl _ _ (kcl sk).toArray rfl rfl th6 hszA (all_oneCell_toArray (kcl_one sk)) ?_; refine Hid.out ?_))
                refine Lib.hid ?_
                have KS := kp_setCells w4.heap.size (kcl sk).toArray.toList 0 w6
                have KK7 := KK6.news KS (by simp)
                have R7 : (w6.setCells w4.heap.size 0 (kcl sk).toArray.toList).rangeAt w4.heap.size 0 (kcl sk) := World.rangeAt_setCells_same _ _ _ _ (by rw [List.size_toArray] at th6; exact th6)
                have hs7 := KS.size
                clear th6 hszA R6 KK6 KS
                generalize w6.setCells w4.heap.size 0 (kcl sk).toArray.toList = w7 at *
                go_wp2_with (first
                  | (refine wpList_load_mid rfl 27 _ rfl _ _ rfl (kcl sk) _ R7 Ybad.underlying27 rfl (size_key hk) ?_)
                  | (go_at_call 9; refine (probe_any sk _ _ hk).mono ?_; rintro e wp8 ⟨gp8, cp8, rfl, ho8, hb8⟩; refine Hid.out ?_))
                refine Lib.hid ?_
                have FP8 := FR.ofOwn (pbs_length sk (wrap64 (hops + 1)) 8 hk) (Below.refl _ _) ho8 hb8
                have fg8 := FP8.ge
                have fl8 := FP8.lt
                have Kp8 := Kp.ofBelow FP8.bel []
                obtain ⟨ka8, kb8, kd8⟩ := made_send wp8 2 gp8 41 cp8
                have XA8 := ((WX.nil (w := w7) (B := w.heap.size) (by have := KK7.size; omega)).kp Kp8).kp ka8
                have hu8 := KK7.size
                have hr8 := range_kp FP8.row ka8 fl8
                clear ho8 hb8
                go_wp2_with (first
                  | (at_builtin; refine wpList_push (sv := .slice none 0 0) 2 (pbs sk (wrap64 (hops + 1)) 8) gp8 41 cp8 wp8.heap.size 1 1 (pbs_length sk (wrap64 (hops + 1)) 8 hk) rfl rfl _ _ rfl rfl rfl XA8 kb8 (by simp) (by omega) (by omega) (by simp [Value.ownBlock]) hr8 ?_; intro gg8 cap8 w8 X8 K8 hat8; refine Hid.out ?_))
                refine Lib.hid ?_
                clear XA8 kb8 hr8
                have KK8 : Kp [] w4 w8 := ((KK7.trans Kp8).trans ka8).news K8 (by simp [Value.ownBlock])
                clear K8 hat8 ka8 Kp8 FP8
                have BF : Below w.heap.size w w8 := B4.trans (KK8.toBelow (by omega) (by simp))
                rcases hsv with rfl | hG
                · go_wp2
                  go_ret
                  exact ⟨rfl, BF⟩
                · have G2 := hG.kp KK8
                  have G3 := WX.got (l := [(2, pbs sk (wrap64 (hops + 1)) 8)]) X8
                  obtain ⟨ga, ca, -, -, rfl, -, -, -⟩ := id hG
                  clear hG
                  go_wp2_with (first
                    | (go_at_call 11; refine (asame_any ga gg8 1 ca cap8 [(2, pbs sk (wrap64 (hops + 1)) 8)] _ rfl (by omega) G2 G3).mono ?_; rintro e wz ⟨rfl, KZ⟩))
                  go_ret
                  exact ⟨rfl, BF.trans (KZ.toBelow (by have := KK8.size; omega) (by simp))⟩
              · have hsv : sv = .slice none 0 0 ∨ GotS w4 sv [(2, pbs low (wrap64 (hops + 1)) 8)] := by
                  rcases Q4 with ⟨h1, _⟩ | ⟨_, _, _, _, h, _⟩ | ⟨_, _, _, h, _⟩ | ⟨_, _, _, _, _, _, h, _⟩
                  · exact .inl h1
                  · cases h
                  · rw [hlw] at h; cases h
                  · exact .inr (by rw [lower, if_neg hc, IntWalk.i64_left] at h; exact h)
                have hdec : decide (cmpL sk low < 0) = false := by simp [hc]
                have hcH : Hid (¬ cmpL sk low < 0) := hc
                clear Q4 qs hc
                have hthA := there27 w4 low hlow
                have hszA := size_arr27 hlow
                go_wp2_with (first
                  | (refine wpList_load_g rfl _ rfl _ _ rfl low hlow L4 ?_)
                  | (refine wpList_load_g rfl _ rfl _ _ rfl sk hk s4 ?_)
                  | (refine wpList_store_mid rfl 27 _ _ rfl _ _ (kcl low).toArray rfl rfl hthA hszA (all_oneCell_toArray (kcl_one low)) ?_; refine Hid.out ?_))
                refine Lib.hid ?_
                obtain ⟨KK5, R5, th5, hs5⟩ := low_var w4 low hlow
                clear hthA hszA
                generalize (w4.alloc zero27).setCells w4.heap.size 0 (kcl low).toArray.toList = w5 at *
                go_wp2_with (first
                  | (refine wpList_load_g rfl _ rfl _ _ rfl sk hk (range_kp s4 KK5 (by omega)) ?_)
                  | (refine wpList_load_mid rfl 27 _ rfl _ _ rfl (kcl low) _ R5 Ybad.underlying27 rfl (size_key hlow) ?_)
                  | (go_at_call 10; refine (less_any sk low _ hk hlow).mono ?_; rintro e w6 ⟨he6, bb6⟩; rw [hdec] at he6; subst he6; refine Hid.out ?_))
                refine Lib.hid ?_
                have K6 := Kp.ofBelow bb6 []
                have KK6 := KK5.trans K6
                have R6 := range_kp R5 K6 hs5
                have hs6 := K6.size
                have KK7 := KK6
                have R7 := R6
                clear R5 th5 KK5 K6 bb6 KK6 R6
                generalize hw67 : w6 = w7 at *
                clear hw67
                go_wp2_with (first
                  | (refine wpList_load_mid rfl 27 _ rfl _ _ rfl (kcl low) _ R7 Ybad.underlying27 rfl (size_key hlow) ?_)
                  | (go_at_call 9; refine (probe_any low _ _ hlow).mono ?_; rintro e wp8 ⟨gp8, cp8, rfl, ho8, hb8⟩; refine Hid.out ?_))
                refine Lib.hid ?_
                have FP8 := FR.ofOwn (pbs_length low (wrap64 (hops + 1)) 8 hlow) (Below.refl _ _) ho8 hb8
                have fg8 := FP8.ge
                have fl8 := FP8.lt
                have Kp8 := Kp.ofBelow FP8.bel []
                obtain ⟨ka8, kb8, kd8⟩ := made_send wp8 2 gp8 41 cp8
                have XA8 := ((WX.nil (w := w7) (B := w.heap.size) (by have := KK7.size; omega)).kp Kp8).kp ka8
                have hu8 := KK7.size
                have hr8 := range_kp FP8.row ka8 fl8
                clear ho8 hb8
                go_wp2_with (first
                  | (at_builtin; refine wpList_push (sv := .slice none 0 0) 2 (pbs low (wrap64 (hops + 1)) 8) gp8 41 cp8 wp8.heap.size 1 1 (pbs_length low (wrap64 (hops + 1)) 8 hlow) rfl rfl _ _ rfl rfl rfl XA8 kb8 (by simp) (by omega) (by omega) (by simp [Value.ownBlock]) hr8 ?_; intro gg8 cap8 w8 X8 K8 hat8; refine Hid.out ?_))
                refine Lib.hid ?_
                clear XA8 kb8 hr8
                have KK8 : Kp [] w4 w8 := ((KK7.trans Kp8).trans ka8).news K8 (by simp [Value.ownBlock])
                clear K8 hat8 ka8 Kp8 FP8
                have BF : Below w.heap.size w w8 := B4.trans (KK8.toBelow (by omega) (by simp))
                rcases hsv with rfl | hG
                · go_wp2
                  go_ret
                  exact ⟨rfl, BF⟩
                · have G2 := hG.kp KK8
                  have G3 := WX.got (l := [(2, pbs low (wrap64 (hops + 1)) 8)]) X8
                  obtain ⟨ga, ca, -, -, rfl, -, -, -⟩ := id hG
                  clear hG
                  go_wp2_with (first
                    | (go_at_call 11; refine (asame_any ga gg8 1 ca cap8 [(2, pbs low (wrap64 (hops + 1)) 8)] _ rfl (by omega) G2 G3).mono ?_; rintro e wz ⟨rfl, KZ⟩))
                  go_ret
                  exact ⟨rfl, BF.trans (KZ.toBelow (by have := KK8.size; omega) (by simp))⟩
            · have hsv : sv = .slice none 0 0 := by
                rcases Q4 with ⟨h1, _⟩ | ⟨_, _, _, h, _⟩ | ⟨_, _, _, h, _⟩ | ⟨_, _, _, _, _, h, _⟩
                · exact h1
                · rw [hlw] at h; cases h
                · rw [hlw] at h; cases h
                · exact (hh h).elim
              subst hsv
              clear Q4
              go_wp2_with (first
            | (refine wpList_load_g rfl _ rfl _ _ rfl low hlow (L4) ?_)
            | (refine wpList_load_g rfl _ rfl _ _ rfl sk hk (s4) ?_))
              go_ret
              exact ⟨rfl, B4⟩
          have hsv : sv = .slice none 0 0 ∨ GotS w4 sv [(2, [80]), (1, [71]), (1, pbs sk 1 8)] := by
            rcases Q4 with ⟨h1, _⟩ | ⟨_, _, _, _, h, _⟩ | ⟨_, _, _, _, _, h, _⟩ | ⟨_, _, _, h, _⟩
            · exact .inl h1
            · cases h
            · exact .inr h
            · rw [hlw] at h; cases h
          clear Q4 qs
          obtain ⟨ka5, kb5, kc5, kd5⟩ := lit_send w4 2 80
          have XA5 := (WX.nil (w := w4) (B := w.heap.size) (by omega)).kp ka5
          have hu5 := (Kp.refl [] w4).size
          go_wp2_with (first
            | (refine wpList_load_g rfl _ rfl _ _ rfl low hlow (L4) ?_)
            | (refine wpList_load_g rfl _ rfl _ _ rfl sk hk (s4) ?_)
            | (at_builtin; refine wpList_push (sv := .slice none 0 0) 2 [80] w4.heap.size 1 1 (w4.heap.size + 1) 1 1 rfl rfl rfl _ _ rfl rfl rfl XA5 kb5 (by simp) (by omega) (by omega) (by simp [Value.ownBlock]) kc5 ?_; intro gg5 cap5 w5 X5 K5 hat5; refine Hid.out ?_))
          refine Lib.hid ?_
          clear XA5 kb5 kc5
          have KK5 : Kp [] w4 w5 := ((Kp.refl [] w4).trans ka5).news K5 (by simp [Value.ownBlock])
          have hgg5 : w4.heap.size ≤ gg5 := by
            rcases hat5 with e | e
            · cases e
            · have := (Kp.refl [] w4).size; omega
          have hgl5 : gg5 < w5.heap.size := by obtain ⟨_, ho, _, _⟩ := X5; exact (ho.lt gg5 rfl).2
          clear K5 hat5 ka5
          obtain ⟨ka6, kb6, kc6, kd6⟩ := lit_send w5 1 71
          have XA6 := X5.kp ka6
          have hu6 := KK5.size
          go_wp2_with (first
            | (refine wpList_load_g rfl _ rfl _ _ rfl low hlow (range_kp L4 KK5 (by omega)) ?_)
            | (refine wpList_load_g rfl _ rfl _ _ rfl sk hk (range_kp s4 KK5 (by omega)) ?_)
            | (at_builtin; refine wpList_push (sv := .slice (some ⟨gg5, 0, none⟩) 1 cap5) 1 [71] w5.heap.size 1 1 (w5.heap.size + 1) 1 2 rfl rfl rfl _ _ rfl rfl rfl XA6 kb6 (by simp) (by omega) (by omega) (fun e => by have : gg5 = w5.heap.size := Option.some.inj e; omega) kc6 ?_; intro gg6 cap6 w6 X6 K6 hat6; refine Hid.out ?_))
          refine Lib.hid ?_
          clear XA6 kb6 kc6
          have KK6 : Kp [] w4 w6 := (KK5.trans ka6).news K6 (by intro i hi; simp [Value.ownBlock] at hi; omega)
          have hgg6 : w4.heap.size ≤ gg6 := by
            rcases hat6 with e | e
            · have : gg5 = gg6 := Option.some.inj e; omega
            · have := KK5.size; omega
          have hgl6 : gg6 < w6.heap.size := by obtain ⟨_, ho, _, _⟩ := X6; exact (ho.lt gg6 rfl).2
          clear K6 hat6 ka6
          go_wp2_with (first
            | (refine wpList_load_g rfl _ rfl _ _ rfl low hlow (range_kp L4 KK6 (by omega)) ?_)
            | (refine wpList_load_g rfl _ rfl _ _ rfl sk hk (range_kp s4 KK6 (by omega)) ?_)
            | (go_at_call 9; refine (probe_any sk _ _ hk).mono ?_; rintro e wp7 ⟨gp7, cp7, rfl, ho7, hb7⟩; refine Hid.out ?_))
          refine Lib.hid ?_
          have FP7 := FR.ofOwn (pbs_length sk 1 8 hk) (Below.refl _ _) ho7 hb7
          have fg7 := FP7.ge
          have fl7 := FP7.lt
          have Kp7 := Kp.ofBelow FP7.bel []
          obtain ⟨ka7, kb7, kd7⟩ := made_send wp7 1 gp7 41 cp7
          have XA7 := (X6.kp Kp7).kp ka7
          have hu7 := KK6.size
          have hr7 := range_kp FP7.row ka7 fl7
          clear ho7 hb7
          go_wp2_with (first
            | (at_builtin; refine wpList_push (sv := .slice (some ⟨gg6, 0, none⟩) 2 cap6) 1 (pbs sk 1 8) gp7 41 cp7 wp7.heap.size 1 3 (pbs_length sk 1 8 hk) rfl rfl _ _ rfl rfl rfl XA7 kb7 (by simp) (by omega) (by omega) (fun e => by have : gg6 = gp7 := Option.some.inj e; omega) hr7 ?_; intro gg7 cap7 w7 X7 K7 hat7; refine Hid.out ?_))
          refine Lib.hid ?_
          clear XA7 kb7 hr7
          have KK7 : Kp [] w4 w7 := ((KK6.trans Kp7).trans ka7).news K7 (by simp [Value.ownBlock]; omega)
          clear K7 hat7 ka7 Kp7 FP7
          have BF : Below w.heap.size w w7 := B4.trans (KK7.toBelow (by omega) (by simp))
          rcases hsv with rfl | hG
          · go_wp2
            go_ret
            exact ⟨rfl, BF⟩
          · have G2 := hG.kp KK7
            have G3 := WX.got (l := [(2, [80]), (1, [71]), (1, pbs sk 1 8)]) X7
            obtain ⟨ga, ca, -, -, rfl, -, -, -⟩ := id hG
            clear hG
            go_wp2_with (first
              | (go_at_call 11; refine (asame_any ga gg7 3 ca cap7 [(2, [80]), (1, [71]), (1, pbs sk 1 8)] _ rfl (by omega) G2 G3).mono ?_; rintro e wz ⟨rfl, KZ⟩))
            go_ret
            exact ⟨rfl, BF.trans (KZ.toBelow (by have := KK7.size; omega) (by simp))⟩
end Go.Proofs.YbulkdaeyDoor
