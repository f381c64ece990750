import Derived.Test.YbulkdaeyDoorRows
import Derived.Test.YbulkdaeyDoorBase
import Derived.WalkKit
import Derived.WalkSpells
import Derived.WalkLawsBesides
import Derived.BigQuiet
import Derived.Deep.QuietTactic
/-
  Package time's functions on the road: that each returns, what it may write.
-/
namespace Go.Proofs.YbulkdaeyDoor
open Go.RowKit

set_option maxHeartbeats 400000 in
theorem nsec_any (b : Nat) (x : Int) (w : World) (h0 : w.cell? ⟨b, 0, none⟩ = some (.int .u64 x)) :
    Calls Ybad.prog 23 #[.pointer (some ⟨b, 0, none⟩)] w fun e w' => (∃ n, e = .returned (.int .i32 n)) ∧ w' = w := by
  go_enter Ybad.func23, Ybad.ntmps23
  go_wp2
  go_ret
  exact ⟨⟨_, rfl⟩, rfl⟩

set_option maxHeartbeats 400000 in
theorem sec_any (b : Nat) (x y : Int) (w : World) (h0 : w.cell? ⟨b, 0, none⟩ = some (.int .u64 x)) (h1 : w.cell? ⟨b, 1, none⟩ = some (.int .i64 y)) :
    Calls Ybad.prog 41 #[.pointer (some ⟨b, 0, none⟩)] w fun e w' => (∃ n, e = .returned (.int .i64 n)) ∧ w' = w := by
  go_enter Ybad.func41, Ybad.ntmps41
  go_wp2
  all_goals
    go_ret
    exact ⟨⟨_, rfl⟩, rfl⟩

/-- A time.Time in three cells of its own block. -/
structure TB (w : World) (b : Nat) (x y : Int) (l : Value) : Prop where
  c0 : w.cell? ⟨b, 0, none⟩ = some (.int .u64 x)
  c1 : w.cell? ⟨b, 1, none⟩ = some (.int .i64 y)
  c2 : w.cell? ⟨b, 2, none⟩ = some l
  f0 : w.frozen? ⟨b, 0, none⟩ = false
  f1 : w.frozen? ⟨b, 1, none⟩ = false
  f2 : w.frozen? ⟨b, 2, none⟩ = false

theorem TB.set0 {w : World} {b : Nat} {x y : Int} {l : Value} (h : TB w b x y l) (x' : Int) : TB (w.setCell ⟨b, 0, none⟩ (.int .u64 x')) b x' y l :=
  ⟨World.cell?_setCell_same _ _ _ h.c0, (World.cell?_setCell_other _ _ _ _ (by simp)).trans h.c1, (World.cell?_setCell_other _ _ _ _ (by simp)).trans h.c2, by simp [h.f0], by simp [h.f1], by simp [h.f2]⟩
theorem TB.set1 {w : World} {b : Nat} {x y : Int} {l : Value} (h : TB w b x y l) (y' : Int) : TB (w.setCell ⟨b, 1, none⟩ (.int .i64 y')) b x y' l :=
  ⟨(World.cell?_setCell_other _ _ _ _ (by simp)).trans h.c0, World.cell?_setCell_same _ _ _ h.c1, (World.cell?_setCell_other _ _ _ _ (by simp)).trans h.c2, by simp [h.f0], by simp [h.f1], by simp [h.f2]⟩

set_option maxHeartbeats 400000 in
theorem strip_any (b : Nat) (x y : Int) (l : Value) (w : World) (h : TB w b x y l) :
    Calls Ybad.prog 25 #[.pointer (some ⟨b, 0, none⟩)] w fun e w' => e = .returned (.tuple #[]) ∧ (∃ x' y', TB w' b x' y' l) ∧ Kp [b] w w' := by
  obtain ⟨h0, h1, h2, f0, f1, f2⟩ := id h
  have H : Hid (TB w b x y l) := h
  clear h
  go_enter Ybad.func25, Ybad.ntmps25
  go_wp2_with (go_at_call 41; refine (sec_any b x y _ h0 h1).mono ?_; rintro e w' ⟨⟨n, rfl⟩, rfl⟩)
  all_goals
    go_end0
    first
    | exact ⟨rfl, ⟨_, _, H.out⟩, Kp.refl _ _⟩
    | exact ⟨rfl, ⟨_, _, ((H.out).set1 _).set0 _⟩, ((Kp.refl _ _).setCell (by simp) _).setCell (by simp) _⟩

set_option maxHeartbeats 400000 in
theorem addSec_any (b : Nat) (x y d : Int) (l : Value) (w : World) (h : TB w b x y l) :
    Calls Ybad.prog 24 #[.pointer (some ⟨b, 0, none⟩), .int .i64 d] w fun e w' => e = .returned (.tuple #[]) ∧ (∃ x' y', TB w' b x' y' l) ∧ Kp [b] w w' := by
  obtain ⟨h0, h1, h2, f0, f1, f2⟩ := id h
  have H : Hid (TB w b x y l) := h
  clear h
  go_enter Ybad.func24, Ybad.ntmps24
  go_wp2_with (go_at_call 25; refine (strip_any b x y l _ (by exact H.out)).mono ?_; rintro e w1 ⟨rfl, ⟨x1, y1, g⟩, hk⟩; obtain ⟨g0, g1, g2, k0, k1, k2⟩ := id g)
  all_goals first | go_end0 | refine bodyPost_ret (results_none rfl _ _ _) rfl ?_
  all_goals
    first
    | exact ⟨rfl, ⟨_, _, H.out.set0 _⟩, (Kp.refl _ _).setCell (by simp) _⟩
    | exact ⟨rfl, ⟨_, _, H.out.set1 _⟩, (Kp.refl _ _).setCell (by simp) _⟩
    | exact ⟨rfl, ⟨_, _, g.set1 _⟩, hk.setCell (by simp) _⟩

/-- A new block's time. -/
theorem TB.new (w : World) (x y : Int) (l : Value) (t : TypeId) : TB (w.alloc (.cells #[.int .u64 x, .int .i64 y, l] t)) w.heap.size x y l :=
  ⟨by simp, by simp, by simp, by simp, by simp, by simp⟩
/-- Two new blocks: the first. -/
theorem TB.two (w : World) (x y x' y' : Int) (l l' : Value) (t t' : TypeId) : TB ((w.alloc (.cells #[.int .u64 x, .int .i64 y, l] t)).alloc (.cells #[.int .u64 x', .int .i64 y', l'] t')) w.heap.size x y l ∧
    TB ((w.alloc (.cells #[.int .u64 x, .int .i64 y, l] t)).alloc (.cells #[.int .u64 x', .int .i64 y', l'] t')) (w.heap.size + 1) x' y' l' :=
  ⟨⟨by simp, by simp, by simp, by simp, by simp, by simp⟩, by simp, by simp, by simp, by simp, by simp, by simp⟩
theorem TB.kp {w w' : World} {b : Nat} {x y : Int} {l : Value} {L : List Nat} (h : TB w b x y l) (k : Kp L w w') (hn : b ∉ L) : TB w' b x y l := by
  have hb : b < w.heap.size := lt_of_cell h.c0
  exact ⟨(k.cell (p := ⟨b, 0, none⟩) hb hn).trans h.c0, (k.cell (p := ⟨b, 1, none⟩) hb hn).trans h.c1, (k.cell (p := ⟨b, 2, none⟩) hb hn).trans h.c2, (k.frozen (p := ⟨b, 0, none⟩) hb hn).trans h.f0, (k.frozen (p := ⟨b, 1, none⟩) hb hn).trans h.f1, (k.frozen (p := ⟨b, 2, none⟩) hb hn).trans h.f2⟩

theorem TB.set2 {w : World} {b : Nat} {x y : Int} {l : Value} (h : TB w b x y l) (l' : Value) : TB (w.setCell ⟨b, 2, none⟩ l') b x y l' :=
  ⟨(World.cell?_setCell_other _ _ _ _ (by simp)).trans h.c0, (World.cell?_setCell_other _ _ _ _ (by simp)).trans h.c1, World.cell?_setCell_same _ _ _ h.c2, by simp [h.f0], by simp [h.f1], by simp [h.f2]⟩
theorem TB.away {w : World} {b : Nat} {x y : Int} {l : Value} (h : TB w b x y l) (a : Addr) (v : Value) (hn : a.block ≠ b) : TB (w.setCell a v) b x y l :=
  ⟨(World.cell?_setCell_other _ _ _ _ (fun e => hn (by rw [e]))).trans h.c0, (World.cell?_setCell_other _ _ _ _ (fun e => hn (by rw [e]))).trans h.c1, (World.cell?_setCell_other _ _ _ _ (fun e => hn (by rw [e]))).trans h.c2, by simp [h.f0], by simp [h.f1], by simp [h.f2]⟩
/-- The three cells of a time, loaded. -/
theorem TB.load {w : World} {b : Nat} {x y : Int} {l : Value} (h : TB w b x y l) : (loadVar 43 ⟨b, 0, none⟩).run Ybad.prog w = .ok (.agg #[.int .u64 x, .int .i64 y, l]) w := by
  obtain ⟨h0, h1, h2, _, _, _⟩ := h
  simp [go_sem, h0, h1, h2]

theorem end_time {fn : Func} {Q : Ending → World → Prop} {a : Act} {w : World} (r : Nat) (x y : Int) (p : Tmp) (hf : fn.results = #[.cell p 43]) (hp : a.tmps.getD p undef = .pointer (some ⟨r, 0, none⟩)) (hd : a.defers = [])
    (h : TB w r x y (.pointer none)) (hR : Q (.returned (.agg #[.int .u64 x, .int .i64 y, .pointer none])) w) : bodyPost Ybad.prog fn Q .ret a w := by
  refine bodyPost_ret (v := .agg #[.int .u64 x, .int .i64 y, .pointer none]) ?_ hd hR
  rw [Array.getD_eq_getD_getElem?] at hp
  simp [results, hf, hp, asAddr, h.load]

/-- A time whose location is nil, as a value. -/
def tm (x y : Int) : Value := .agg #[.int .u64 x, .int .i64 y, .pointer none]

set_option maxHeartbeats 1600000 in
theorem add_any (x y d : Int) (w : World) :
    Calls Ybad.prog 8 #[.agg #[.int .u64 x, .int .i64 y, .pointer none], .int .i64 d] w fun e w' => (∃ x' y', e = .returned (.agg #[.int .u64 x', .int .i64 y', .pointer none])) ∧ Below w.heap.size w w' := by
  go_enter Ybad.func8, Ybad.ntmps8
  go_wp2_with (go_at_call 23; refine (nsec_any w.heap.size x _ (by simp)).mono ?_; rintro e w' ⟨⟨n, rfl⟩, rfl⟩)
  all_goals
    refine (addSec_any w.heap.size _ _ _ (.pointer none) _ (TB.two w _ _ _ _ _ _ _ _).1).mono ?_
    rintro e w1 ⟨rfl, ⟨x1, y1, g⟩, hk⟩
    have r := (TB.two w _ _ _ _ _ _ _ _).2.kp hk (by simp)
    have hB : Below w.heap.size w w1 := (((Kp.refl [] w).alloc _).alloc _).news hk (by simp) |>.toBelow (Nat.le_refl _) (by simp)
    clear hk
    obtain ⟨g0, g1, g2, k0, k1, k2⟩ := id g
    obtain ⟨r0, r1, r2, m0, m1, m2⟩ := id r
    have G : Hid (TB w1 w.heap.size x1 y1 (.pointer none)) := g
    have R : Hid (TB w1 (w.heap.size + 1) 0 0 (.pointer none)) := r
    have HB : Hid (Below w.heap.size w w1) := hB
    clear g r hB
    go_wp2_with (go_at_call 25; refine (strip_any w.heap.size x1 y1 (.pointer none) _ (by exact G.out)).mono ?_; rintro e w2 ⟨rfl, ⟨x2, y2, g'⟩, hk2⟩; obtain ⟨g0', g1', g2', k0', k1', k2'⟩ := g'; have R2 : Hid (TB w2 (w.heap.size + 1) 0 0 (.pointer none)) := R.out.kp hk2 (by simp); obtain ⟨r0', r1', r2', m0', m1', m2'⟩ := R.out.kp hk2 (by simp); have HB2 : Hid (Below w.heap.size w w2) := HB.out.trans (hk2.toBelow (by have := HB.out.size; omega) (by simp)); clear hk2)
    all_goals
      first
      | (with_reducible refine end_time (w.heap.size + 1) x1 y1 4 rfl rfl rfl (((R.out.set0 _).set1 _).set2 _) ⟨⟨_, _, rfl⟩, ?_⟩)
      | (with_reducible refine end_time (w.heap.size + 1) x1 (wrap64 (y1 + d)) 4 rfl rfl rfl ((((R.out.away _ _ (by simp)).set0 _).set1 _).set2 _) ⟨⟨_, _, rfl⟩, ?_⟩)
      | (with_reducible refine end_time (w.heap.size + 1) x2 y2 4 rfl rfl rfl (((R2.out.set0 _).set1 _).set2 _) ⟨⟨_, _, rfl⟩, ?_⟩)
    all_goals
      repeat refine Below.setCell ?_ (by simp) _
      first | (with_reducible exact HB.out) | (with_reducible exact HB2.out)
end Go.Proofs.YbulkdaeyDoor
