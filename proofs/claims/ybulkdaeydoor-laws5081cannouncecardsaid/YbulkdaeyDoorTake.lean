import Derived.Test.YbulkdaeyDoorTimes
import Derived.Laws.ResultCell
/-
  rate.Limit.Take: it returns, and turns nothing that was there.
-/
namespace Go.Proofs.YbulkdaeyDoor
open Go.RowKit

/-- It returns a time and a bool. -/
def IsTaken (e : Ending) : Prop := ∃ x y c, e = .returned (.tuple #[.agg #[.int .u64 x, .int .i64 y, .pointer none], .bool c])
theorem IsTaken.mk (x y : Int) (c : Bool) : IsTaken (.returned (.tuple #[.agg #[.int .u64 x, .int .i64 y, .pointer none], .bool c])) := ⟨x, y, c, rfl⟩

/-- Take's four boxes. -/
structure TK (w0 W : World) (bu ev x y x' y' : Int) : Prop where
  l0 : W.cell? ⟨w0.heap.size, 0, none⟩ = some (.int .i64 bu)
  l1 : W.cell? ⟨w0.heap.size, 1, none⟩ = some (.int .i64 ev)
  a : TB W (w0.heap.size + 1) x y (.pointer none)
  b : TB W (w0.heap.size + 1 + 1) x' y' (.pointer none)
  r : TB W (w0.heap.size + 1 + 1 + 1) 0 0 (.pointer none)
  bel : Below w0.heap.size w0 W

theorem alloc_size (w : World) (o : Obj) : (w.alloc o).heap.size = w.heap.size + 1 := by simp

theorem TK.new (w : World) (bu ev x y x' y' : Int) : TK w ((((w.alloc (.cells #[.int .i64 bu, .int .i64 ev] 114)).alloc (.cells #[.int .u64 x, .int .i64 y, .pointer none] 43)).alloc (.cells #[.int .u64 x', .int .i64 y', .pointer none] 43)).alloc (.cells #[.int .u64 0, .int .i64 0, .pointer none] 43)) bu ev x y x' y' := by
  generalize hA : w.alloc (.cells #[.int .i64 bu, .int .i64 ev] 114) = A
  have sA : A.heap.size = w.heap.size + 1 := by rw [← hA, alloc_size]
  have a0 : A.cell? ⟨w.heap.size, 0, none⟩ = some (.int .i64 bu) := by rw [← hA]; simp
  have a1 : A.cell? ⟨w.heap.size, 1, none⟩ = some (.int .i64 ev) := by rw [← hA]; simp
  have bA : Below w.heap.size w A := by rw [← hA]; exact (Below.refl _ _).alloc (Nat.le_refl _) _
  have tB := TB.new A x y (.pointer none) 43
  generalize hB : A.alloc (.cells #[.int .u64 x, .int .i64 y, .pointer none] 43) = B at *
  have sB : B.heap.size = w.heap.size + 1 + 1 := by rw [← hB, alloc_size, sA]
  have kB : Kp [] A B := by rw [← hB]; exact (Kp.refl _ _).alloc _
  have tC := TB.new B x' y' (.pointer none) 43
  generalize hC : B.alloc (.cells #[.int .u64 x', .int .i64 y', .pointer none] 43) = C at *
  have sC : C.heap.size = w.heap.size + 1 + 1 + 1 := by rw [← hC, alloc_size, sB]
  have kC : Kp [] B C := by rw [← hC]; exact (Kp.refl _ _).alloc _
  have tD := TB.new C 0 0 (.pointer none) 43
  generalize hD : C.alloc (.cells #[.int .u64 0, .int .i64 0, .pointer none] 43) = D at *
  have kD : Kp [] C D := by rw [← hD]; exact (Kp.refl _ _).alloc _
  rw [sA] at tB
  rw [sB] at tC
  rw [sC] at tD
  have kAD := (kB.trans kC).trans kD
  have hl : w.heap.size < A.heap.size := by omega
  exact ⟨(kAD.cell (p := ⟨w.heap.size, 0, none⟩) hl (by simp)).trans a0, (kAD.cell (p := ⟨w.heap.size, 1, none⟩) hl (by simp)).trans a1, tB.kp (kC.trans kD) (by simp), tC.kp kD (by simp), tD,
    bA.trans (kAD.toBelow (by omega) (by simp))⟩

theorem TK.on {w0 W V W' : World} {bu ev x y x' y' : Int} (h : TK w0 W bu ev x y x' y') (hb : Below V.heap.size V W') (hh : V.heap = W.heap) (ho : V.os = W.os) (ht : V.tape = W.tape) (hp : V.output = W.output) : TK w0 W' bu ev x y x' y' := by
  have hl : w0.heap.size < W.heap.size := lt_of_cell h.l0
  have e : ∀ o, W'.cell? ⟨w0.heap.size, o, none⟩ = W.cell? ⟨w0.heap.size, o, none⟩ := fun o => by
    rw [hb.cell (p := ⟨w0.heap.size, o, none⟩) (by rw [hh]; exact hl)]
    simp [World.cell?, hh]
  exact ⟨(e 0).trans h.l0, (e 1).trans h.l1, h.a.bel hb hh, h.b.bel hb hh, h.r.bel hb hh, Below.onto h.bel hb (by omega) hh ho ht hp⟩

/-- 'full = now'. -/
theorem TK.put {w0 W : World} {bu ev x y x' y' : Int} (h : TK w0 W bu ev x y x' y') :
    TK w0 (((W.setCell ⟨w0.heap.size + 1, 0, none⟩ (.int .u64 x')).setCell ⟨w0.heap.size + 1, 1, none⟩ (.int .i64 y')).setCell ⟨w0.heap.size + 1, 2, none⟩ (.pointer none)) bu ev x' y' x' y' := by
  refine ⟨?_, ?_, ((h.a.set0 _).set1 _).set2 _, ((h.b.away _ _ (by simp)).away _ _ (by simp)).away _ _ (by simp), ((h.r.away _ _ (by simp)).away _ _ (by simp)).away _ _ (by simp), ((h.bel.setCell (by simp) _).setCell (by simp) _).setCell (by simp) _⟩
  · rw [World.cell?_setCell_other _ _ _ _ (by simp), World.cell?_setCell_other _ _ _ _ (by simp), World.cell?_setCell_other _ _ _ _ (by simp)]; exact h.l0
  · rw [World.cell?_setCell_other _ _ _ _ (by simp), World.cell?_setCell_other _ _ _ _ (by simp), World.cell?_setCell_other _ _ _ _ (by simp)]; exact h.l1

theorem end_taken {Q : Ending → World → Prop} {a : Act} {w : World} (r : Nat) (x y : Int) (c : Bool) (hp : a.tmps.getD 6 undef = .pointer (some ⟨r, 0, none⟩)) (hc : a.tmps.getD 7 undef = .bool c) (hd : a.defers = [])
    (h : TB w r x y (.pointer none)) (hR : Q (.returned (.tuple #[.agg #[.int .u64 x, .int .i64 y, .pointer none], .bool c])) w) : bodyPost Ybad.prog Ybad.f18 Q .ret a w := by
  refine bodyPost_ret (v := .tuple #[.agg #[.int .u64 x, .int .i64 y, .pointer none], .bool c]) ?_ hd hR
  rw [results_cell_tmp (p := 6) (u := 7) (ty := 43) rfl, hp, hc]
  simp [asAddr, h.load, Result.andThen]

set_option maxHeartbeats 1600000 in
theorem take_any (bu ev x y x' y' : Int) (w : World) :
    Calls Ybad.prog 18 #[.agg #[.int .i64 bu, .int .i64 ev], .agg #[.int .u64 x, .int .i64 y, .pointer none], .agg #[.int .u64 x', .int .i64 y', .pointer none]] w fun e w' => IsTaken e ∧ Below w.heap.size w w' := by
  go_enter Ybad.func18, Ybad.ntmps18
  go_wp2_with fail
  have hT := TK.new w bu ev x y x' y'
  generalize (((w.alloc (.cells #[.int .i64 bu, .int .i64 ev] 114)).alloc (.cells #[.int .u64 x, .int .i64 y, .pointer none] 43)).alloc (.cells #[.int .u64 x', .int .i64 y', .pointer none] 43)).alloc (.cells #[.int .u64 0, .int .i64 0, .pointer none] 43) = W at *
  refine (before_any _ _ _ _ _).mono ?_
  rintro e w1 ⟨⟨c, rfl⟩, hb1⟩
  have hT1 := hT.on hb1 rfl rfl rfl rfl
  clear hT hb1
  obtain ⟨c1, c2, ⟨a0, a1, a2, g0, g1, g2⟩, ⟨b0, b1, b2, _, _, _⟩, _, _⟩ := id hT1
  have H1 : Hid (TK w w1 bu ev x y x' y') := hT1
  clear hT1
  cases c
  · clear c1 c2 a0 a1 a2 g0 g1 g2 b0 b1 b2
    go_wp2_with fail
    obtain ⟨c1, c2, ⟨a0, a1, a2, g0, g1, g2⟩, ⟨b0, b1, b2, _, _, _⟩, r0, _⟩ := id H1.out
    clear r0
    go_region_held3 (fun w' => w'.cell? ⟨w.heap.size, 0, none⟩ = some (.int .i64 bu) ∧ w'.cell? ⟨w.heap.size, 1, none⟩ = some (.int .i64 ev) ∧ w'.cell? ⟨w.heap.size + 1, 0, none⟩ = some (.int .u64 x) ∧ w'.cell? ⟨w.heap.size + 1, 1, none⟩ = some (.int .i64 y) ∧ w'.cell? ⟨w.heap.size + 1, 2, none⟩ = some (.pointer none) ∧ w'.cell? ⟨w.heap.size + 1 + 1, 0, none⟩ = some (.int .u64 x') ∧ w'.cell? ⟨w.heap.size + 1 + 1, 1, none⟩ = some (.int .i64 y') ∧ w'.cell? ⟨w.heap.size + 1 + 1, 2, none⟩ = some (.pointer none)) (go_keep)
      (first
      | (go_at_call 38; refine (sub_any _ _ _ _ _).mono ?_; rintro e w2 ⟨⟨d, rfl⟩, hb2⟩; have H2 : Hid (TK w w2 bu ev x y x' y') := H1.out.on hb2 rfl rfl rfl rfl; obtain ⟨e1, e2, ⟨i0, i1, i2, _, _, _⟩, ⟨j0, j1, j2, _, _, _⟩, ⟨m0, m1, m2, n0, n1, n2⟩, _⟩ := id H2.out))
    clear H1
    go_wp2_with (go_at_call 8; refine (add_any _ _ _ _).mono ?_; rintro e w3 ⟨⟨x3, y3, rfl⟩, hb3⟩; have H3 : Hid (TK w w3 bu ev x y x' y') := H2.out.on hb3 rfl rfl rfl rfl; obtain ⟨_, _, _, _, ⟨p0, p1, p2, q0, q1, q2⟩, _⟩ := id H3.out)
    · refine end_taken (w.heap.size + 1 + 1 + 1) _ _ false rfl rfl rfl (((H2.out.r.set0 _).set1 _).set2 _) ⟨IsTaken.mk _ _ _, ?_⟩
      exact ((H2.out.bel.setCell (by simp; omega) _).setCell (by simp; omega) _).setCell (by simp; omega) _
    · refine end_taken (w.heap.size + 1 + 1 + 1) _ _ true rfl rfl rfl (((H3.out.r.set0 _).set1 _).set2 _) ⟨IsTaken.mk _ _ _, ?_⟩
      exact ((H3.out.bel.setCell (by simp; omega) _).setCell (by simp; omega) _).setCell (by simp; omega) _
  · go_wp2_with fail
    have HP : Hid (TK w _ bu ev x' y' x' y') := H1.out.put
    clear c1 c2 a0 a1 a2 g0 g1 g2 b0 b1 b2 H1
    generalize ((w1.setCell ⟨w.heap.size + 1, 0, none⟩ (.int .u64 x')).setCell ⟨w.heap.size + 1, 1, none⟩ (.int .i64 y')).setCell ⟨w.heap.size + 1, 2, none⟩ (.pointer none) = V at *
    obtain ⟨c1, c2, ⟨a0, a1, a2, g0, g1, g2⟩, ⟨b0, b1, b2, _, _, _⟩, r0, _⟩ := id HP.out
    clear r0
    go_region_held3 (fun w' => w'.cell? ⟨w.heap.size, 0, none⟩ = some (.int .i64 bu) ∧ w'.cell? ⟨w.heap.size, 1, none⟩ = some (.int .i64 ev) ∧ w'.cell? ⟨w.heap.size + 1, 0, none⟩ = some (.int .u64 x') ∧ w'.cell? ⟨w.heap.size + 1, 1, none⟩ = some (.int .i64 y') ∧ w'.cell? ⟨w.heap.size + 1, 2, none⟩ = some (.pointer none) ∧ w'.cell? ⟨w.heap.size + 1 + 1, 0, none⟩ = some (.int .u64 x') ∧ w'.cell? ⟨w.heap.size + 1 + 1, 1, none⟩ = some (.int .i64 y') ∧ w'.cell? ⟨w.heap.size + 1 + 1, 2, none⟩ = some (.pointer none)) (go_keep)
      (first
      | (go_at_call 38; refine (sub_any _ _ _ _ _).mono ?_; rintro e w2 ⟨⟨d, rfl⟩, hb2⟩; have H2 : Hid (TK w w2 bu ev x' y' x' y') := HP.out.on hb2 rfl rfl rfl rfl; obtain ⟨e1, e2, ⟨i0, i1, i2, _, _, _⟩, ⟨j0, j1, j2, _, _, _⟩, ⟨m0, m1, m2, n0, n1, n2⟩, _⟩ := id H2.out))
    clear HP
    go_wp2_with (go_at_call 8; refine (add_any _ _ _ _).mono ?_; rintro e w3 ⟨⟨x3, y3, rfl⟩, hb3⟩; have H3 : Hid (TK w w3 bu ev x' y' x' y') := H2.out.on hb3 rfl rfl rfl rfl; obtain ⟨_, _, _, _, ⟨p0, p1, p2, q0, q1, q2⟩, _⟩ := id H3.out)
    · refine end_taken (w.heap.size + 1 + 1 + 1) _ _ false rfl rfl rfl (((H2.out.r.set0 _).set1 _).set2 _) ⟨IsTaken.mk _ _ _, ?_⟩
      exact ((H2.out.bel.setCell (by simp; omega) _).setCell (by simp; omega) _).setCell (by simp; omega) _
    · refine end_taken (w.heap.size + 1 + 1 + 1) _ _ true rfl rfl rfl (((H3.out.r.set0 _).set1 _).set2 _) ⟨IsTaken.mk _ _ _, ?_⟩
      exact ((H3.out.bel.setCell (by simp; omega) _).setCell (by simp; omega) _).setCell (by simp; omega) _
end Go.Proofs.YbulkdaeyDoor
