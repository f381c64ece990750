import Derived.Test.YbulkdaeyDoorTime
import Derived.Deep.RegionHeld3
import Derived.Deep.DrawnRows
/-
  Package time's comparisons, and rate.Limit.Take: that each returns, and turns nothing that was there.
-/
namespace Go.Proofs.YbulkdaeyDoor
open Go.RowKit

theorem TB.ofHeap {w w' : World} {b : Nat} {x y : Int} {l : Value} (h : TB w b x y l) (hh : w'.heap = w.heap) : TB w' b x y l := by
  obtain ⟨h0, h1, h2, f0, f1, f2⟩ := h
  exact ⟨by simpa [World.cell?, hh] using h0, by simpa [World.cell?, hh] using h1, by simpa [World.cell?, hh] using h2, by simpa [World.frozen?, hh] using f0, by simpa [World.frozen?, hh] using f1, by simpa [World.frozen?, hh] using f2⟩
theorem TB.bel {w W w' : World} {b : Nat} {x y : Int} {l : Value} (h : TB w b x y l) (hb : Below W.heap.size W w') (hh : W.heap = w.heap) : TB w' b x y l :=
  (h.ofHeap hh).kp (Kp.ofBelow hb []) (by simp)
theorem Below.onto {a w W w' : World} {B : Nat} (h : Below B a w) (hb : Below W.heap.size W w') (hB : B ≤ w.heap.size) (hh : W.heap = w.heap) (ho : W.os = w.os) (ht : W.tape = w.tape) (hp : W.output = w.output) : Below B a w' :=
  h.trans ⟨hb.os.trans ho, hb.tape.trans ht, hb.output.trans hp, by rw [← hh]; exact hb.size, fun k hk => by rw [hb.block k (by rw [hh]; omega), hh]⟩

/-- It returns a bool. -/
def IsB (e : Ending) : Prop := ∃ c, e = .returned (.bool c)
theorem IsB.mk (c : Bool) : IsB (.returned (.bool c)) := ⟨c, rfl⟩

set_option maxHeartbeats 800000 in
theorem before_any (x y x' y' : Int) (w : World) :
    Calls Ybad.prog 37 #[.agg #[.int .u64 x, .int .i64 y, .pointer none], .agg #[.int .u64 x', .int .i64 y', .pointer none]] w fun e w' => IsB e ∧ Below w.heap.size w w' := by
  go_enter Ybad.func37, Ybad.ntmps37
  go_wp2_with (first
    | (go_at_call 41; refine (sec_any _ _ _ _ (by simp; rfl) (by simp; rfl)).mono ?_; rintro e w' ⟨⟨n, rfl⟩, rfl⟩)
    | (go_at_call 23; refine (nsec_any _ _ _ (by simp; rfl)).mono ?_; rintro e w' ⟨⟨m, rfl⟩, rfl⟩))
  all_goals go_ret
  all_goals exact ⟨IsB.mk _, ((Below.refl _ _).alloc (Nat.le_refl _) _).alloc (by simp) _⟩

set_option maxHeartbeats 800000 in
theorem equal_any (x y x' y' : Int) (w : World) :
    Calls Ybad.prog 56 #[.agg #[.int .u64 x, .int .i64 y, .pointer none], .agg #[.int .u64 x', .int .i64 y', .pointer none]] w fun e w' => IsB e ∧ Below w.heap.size w w' := by
  go_enter Ybad.func56, Ybad.ntmps56
  go_wp2_with (first
    | (go_at_call 41; refine (sec_any _ _ _ _ (by simp; rfl) (by simp; rfl)).mono ?_; rintro e w' ⟨⟨n, rfl⟩, rfl⟩)
    | (go_at_call 23; refine (nsec_any _ _ _ (by simp; rfl)).mono ?_; rintro e w' ⟨⟨m, rfl⟩, rfl⟩))
  all_goals go_ret
  all_goals exact ⟨IsB.mk _, ((Below.refl _ _).alloc (Nat.le_refl _) _).alloc (by simp) _⟩

set_option maxHeartbeats 800000 in
theorem subMono_any (t u : Int) (w : World) :
    Calls Ybad.prog 55 #[.int .i64 t, .int .i64 u] w fun e w' => (∃ d, e = .returned (.int .i64 d)) ∧ w' = w := by
  go_enter Ybad.func55, Ybad.ntmps55
  go_wp2
  all_goals go_ret
  all_goals exact ⟨⟨_, rfl⟩, rfl⟩

set_option maxHeartbeats 1600000 in
theorem sub_any (x y x' y' : Int) (w : World) :
    Calls Ybad.prog 38 #[.agg #[.int .u64 x, .int .i64 y, .pointer none], .agg #[.int .u64 x', .int .i64 y', .pointer none]] w fun e w' => (∃ d, e = .returned (.int .i64 d)) ∧ Below w.heap.size w w' := by
  go_enter Ybad.func38, Ybad.ntmps38
  go_wp2_with (first
    | (go_at_call 55; refine (subMono_any _ _ _).mono ?_; rintro e w' ⟨⟨n, rfl⟩, rfl⟩)
    | (go_at_call 41; refine (sec_any _ _ _ _ (by simp; rfl) (by simp; rfl)).mono ?_; rintro e w' ⟨⟨n, rfl⟩, rfl⟩)
    | (go_at_call 23; refine (nsec_any _ _ _ (by simp; rfl)).mono ?_; rintro e w' ⟨⟨m, rfl⟩, rfl⟩))
  · go_ret
    exact ⟨⟨_, rfl⟩, ((Below.refl _ _).alloc (Nat.le_refl _) _).alloc (by simp) _⟩
  · obtain ⟨hA, hB⟩ := TB.two w x y x' y' (.pointer none) (.pointer none) 43 43
    have hBel : Below w.heap.size w ((w.alloc (.cells #[.int .u64 x, .int .i64 y, .pointer none] 43)).alloc (.cells #[.int .u64 x', .int .i64 y', .pointer none] 43)) := ((Below.refl _ _).alloc (Nat.le_refl _) _).alloc (by simp) _
    have hsz : ((w.alloc (.cells #[.int .u64 x, .int .i64 y, .pointer none] 43)).alloc (.cells #[.int .u64 x', .int .i64 y', .pointer none] 43)).heap.size = w.heap.size + 2 := by simp
    generalize ((w.alloc (.cells #[.int .u64 x, .int .i64 y, .pointer none] 43)).alloc (.cells #[.int .u64 x', .int .i64 y', .pointer none] 43)) = W at *
    obtain ⟨a0, a1, a2, _, _, _⟩ := id hA
    obtain ⟨b0, b1, b2, _, _, _⟩ := id hB
    go_region_held3 (fun w' => w'.cell? ⟨w.heap.size, 0, none⟩ = some (.int .u64 x) ∧ w'.cell? ⟨w.heap.size, 1, none⟩ = some (.int .i64 y) ∧ w'.cell? ⟨w.heap.size, 2, none⟩ = some (.pointer none) ∧ w'.cell? ⟨w.heap.size + 1, 0, none⟩ = some (.int .u64 x') ∧ w'.cell? ⟨w.heap.size + 1, 1, none⟩ = some (.int .i64 y') ∧ w'.cell? ⟨w.heap.size + 1, 2, none⟩ = some (.pointer none)) (go_keep)
      (first
      | (go_at_call 8; refine (add_any _ _ _ _).mono ?_; rintro e w1 ⟨⟨x1, y1, rfl⟩, hb1⟩; have qA := hA.bel hb1 rfl; have qB := hB.bel hb1 rfl; have hBel1 := Below.onto hBel hb1 (by omega) rfl rfl rfl rfl; have hsz1 := hb1.size; obtain ⟨c0, c1, c2, _, _, _⟩ := id qA; obtain ⟨d0, d1, d2, _, _, _⟩ := id qB)
      | (go_at_call 56; refine (equal_any _ _ _ _ _).mono ?_; rintro e w2 ⟨⟨c, rfl⟩, hb2⟩; have rA := qA.bel hb2 rfl; have rB := qB.bel hb2 rfl; have hBel2 := Below.onto hBel1 hb2 (by have := hBel1.size; omega) rfl rfl rfl rfl; obtain ⟨e0, e1, e2, _, _, _⟩ := id rA; obtain ⟨f0, f1, f2, _, _, _⟩ := id rB))
    have HB2 : Hid (Below w.heap.size w w2) := hBel2
    clear hBel hBel1 hBel2 hb1 hb2 hA hB qA qB rA rB
    go_wp2_with (go_at_call 37; refine (before_any _ _ _ _ _).mono ?_; rintro e w3 ⟨⟨c3, rfl⟩, hb3⟩; have HB3 : Hid (Below w.heap.size w w3) := Below.onto HB2.out hb3 HB2.out.size rfl rfl rfl rfl; clear hb3)
    all_goals go_ret
    all_goals first | exact ⟨⟨_, rfl⟩, HB2.out⟩ | exact ⟨⟨_, rfl⟩, HB3.out⟩
end Go.Proofs.YbulkdaeyDoor
