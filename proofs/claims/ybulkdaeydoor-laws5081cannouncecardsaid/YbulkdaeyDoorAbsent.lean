import Derived.Test.YbulkdaeyDoorTakeParent
import Derived.Test.YbulkdaeyDoorLocks
import Derived.Conc.MuLone
import Derived.Test.YbulkdaeyDoorTake
/-
  TakeProbe.
-/
namespace Go.Proofs.YbulkdaeyDoor
open Go.RowKit Go.MuLone

/-- All but the lock is as it was. -/
structure Lk (w w' : World) (tb : Nat) : Prop where
  kp : Kp [tb] w w'
  cells : ∀ o, o ≠ 33 → w'.cell? ⟨tb, o, none⟩ = w.cell? ⟨tb, o, none⟩
  thaw : ∀ o, w'.frozen? ⟨tb, o, none⟩ = w.frozen? ⟨tb, o, none⟩

theorem Lk.mk' {w0 w : World} {tb : Nat} (a b : Value) {w1 : World} (hb0 : tb < w0.heap.size) (k0 : Kp [] w0 w) (h : Kp [] (w.setCell ⟨tb, 33, none⟩ a) w1) : Lk w0 (w1.setCell ⟨tb, 33, none⟩ b) tb := by
  have hb : tb < w.heap.size := Nat.lt_of_lt_of_le hb0 k0.size
  have k1 : Kp [tb] w0 (w.setCell ⟨tb, 33, none⟩ a) := (k0.mono (by simp)).setCell (by simp) _
  have hb' : tb < (w.setCell ⟨tb, 33, none⟩ a).heap.size := by simpa [World.setCell] using hb
  refine ⟨(k1.trans (h.mono (by simp))).setCell (by simp) _, fun o ho => ?_, fun o => ?_⟩
  · rw [World.cell?_setCell_other _ _ _ _ (by simp), h.cell (p := ⟨tb, o, none⟩) hb' (by simp), World.cell?_setCell_other _ _ _ _ (by simp), k0.cell (p := ⟨tb, o, none⟩) hb0 (by simp)]
  · rw [World.frozen?_setCell, h.frozen (p := ⟨tb, o, none⟩) hb' (by simp), World.frozen?_setCell, k0.frozen (p := ⟨tb, o, none⟩) hb0 (by simp)]

/-- The lock's state is m in w', all else as in w. -/
def Locked (w w' : World) (tb : Nat) (m : Int) : Prop := w' = w.setCell ⟨tb, 33, none⟩ (.int .i32 m)

theorem Locked.eq {w w' : World} {tb : Nat} {m : Int} (h : Locked w w' tb m) : w' = w.setCell ⟨tb, 33, none⟩ (.int .i32 m) := h

theorem lock_any (tb : Nat) (w : World) (hc : w.cell? ⟨tb, 33, none⟩ = some (.int .i32 0)) (hz : w.frozen? ⟨tb, 33, none⟩ = false) :
    Calls Ybad.prog 15 #[.pointer (some ⟨tb, 33, none⟩)] w fun e w' => e = .returned (.tuple #[]) ∧ Locked w w' tb 1 :=
  (lock_free Ybad.muLib ⟨tb, 33, none⟩ w hc hz).mono fun _ _ ⟨h1, h2⟩ => ⟨h1, h2⟩

/-- The door: the deferred Unlock. -/
theorem door7 {R : Ending → World → Prop} {a : Act} {w : World} {tb : Nat} (u v : Value) (hd : a.defers = [⟨.fn (.func 16) #[], #[.pointer (some ⟨tb, 33, none⟩)]⟩]) (h10 : a.tmps.getD 10 undef = u) (h11 : a.tmps.getD 11 undef = v)
    (hc : w.cell? ⟨tb, 33, none⟩ = some (.int .i32 1)) (hz : w.frozen? ⟨tb, 33, none⟩ = false) (hR : R (.returned (.tuple #[u, v])) (w.setCell ⟨tb, 33, none⟩ (.int .i32 0))) : bodyPostD Ybad.prog Ybad.f7 R .ret a w := by
  obtain ⟨tmps, ds⟩ := a
  simp only at hd h10 h11
  subst hd h10 h11
  refine leaves_cons (f := 16) (args := #[.pointer (some ⟨tb, 33, none⟩)]) (by simp) (by simp [go_sem]) ?_
  refine (unlock_deferred Ybad.muLib ⟨tb, 33, none⟩ .returning _ hc hz).mono ?_
  rintro e u' w'' ⟨rfl, rfl, rfl⟩
  exact ⟨_, results_tmp2 rfl _ _ _, hR⟩

set_option maxRecDepth 20000 in
set_option maxHeartbeats 1600000 in
/-- TakeProbe on a link that is not joined. -/
theorem takeProbe_absent (tb mb : Nat) (low : List UInt8) (hops x y : Int) (w : World) (ht : w.cell? ⟨tb, 35, none⟩ = some (.map (some mb))) (es : Array MapEntry) (c : Nat) (hm : w.heap[mb]? = some (.map es c))
    (hf : Instr.findNow (.int .i64) (.int .i64 1) es.toList 0 = some none) (hmu : w.cell? ⟨tb, 33, none⟩ = some (.int .i32 0)) (hfr : w.frozen? ⟨tb, 33, none⟩ = false) :
    Calls Ybad.prog 7 #[.pointer (some ⟨tb, 0, none⟩), .int .i64 1, .agg (kcl low).toArray, .int .i64 hops, .agg #[.int .u64 x, .int .i64 y, .pointer none]] w fun e w' =>
      e = .returned (.tuple #[.slice none 0 0, .nilIface]) ∧ Lk w w' tb := by
  have hb : tb < w.heap.size := lt_of_cell hmu
  have hmb : mb < w.heap.size := (Array.getElem?_eq_some_iff.1 hm).1
  have hne : mb ≠ tb := by
    rintro rfl
    simp [World.cell?, hm] at hmu
  have K0 : Kp [] w ((w.alloc (.cells (kcl low).toArray 27)).alloc (.cells #[.int .u64 x, .int .i64 y, .pointer none] 43)) := ((Kp.refl _ _).alloc _).alloc _
  go_enter_defers Ybad.func7, Ybad.ntmps7
  go_wp2_with (first
    | (go_at_call 15; refine (lock_any tb _ ((K0.cell hb (by simp)).trans hmu) ((K0.frozen hb (by simp)).trans hfr)).mono ?_; rintro e w1 ⟨rfl, hw1⟩; refine Hid.out ?_))
  refine Lib.hid ?_
  have m1 : w1.cell? ⟨tb, 33, none⟩ = some (.int .i32 1) := by rw [hw1.eq]; exact World.cell?_setCell_same _ _ _ ((K0.cell hb (by simp)).trans hmu)
  have e1 : w1.frozen? ⟨tb, 33, none⟩ = false := by rw [hw1.eq, World.frozen?_setCell]; exact (K0.frozen hb (by simp)).trans hfr
  have ht1 : w1.cell? ⟨tb, 35, none⟩ = some (.map (some mb)) := by rw [hw1.eq]; exact cell_put ((K0.cell hb (by simp)).trans ht) (by simp)
  have hm1 : w1.heap[mb]? = some (.map es c) := by rw [hw1.eq, Below.heap_setCell _ _ _ _ hne]; exact (K0.block mb hmb (by simp)).trans hm
  have hl1 := look_links hm1 hf
  have L1 : ∀ w2, Kp [] w1 w2 → Lk w (w2.setCell ⟨tb, 33, none⟩ (.int .i32 0)) tb := fun w2 k2 => Lk.mk' (.int .i32 1) (.int .i32 0) hb K0 (by rw [← hw1.eq]; exact k2)
  clear hw1
  go_wp2_with (first
    | (go_at_call 17; refine (treeLink_absent tb mb _ ht1 hl1).mono ?_; rintro e w2 ⟨rfl, hb2⟩))
  exact door7 _ _ rfl rfl rfl ((hb2.cell (lt_of_cell m1)).trans m1) ((hb2.frozen (lt_of_cell m1)).trans e1) ⟨rfl, L1 _ (Kp.ofBelow hb2 [])⟩
end Go.Proofs.YbulkdaeyDoor
