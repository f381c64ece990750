import Derived.Test.YbulkdaeyDoorTakeAnn
/-
  TakeAnnounce refused: a hop count, and no neighbours frame before it.
-/
namespace Go.Proofs.YbulkdaeyDoor
open Go.RowKit Go.BigFrame Go.MuLone

set_option maxRecDepth 20000 in
set_option maxHeartbeats 1600000 in
theorem takeAnn_no (tb lk fb sb nb mb sn n : Nat) (bf : Int) (pl : Int → Option Int) (ns : List (Int × Int)) (er : Value) (w : World) (h : TA w tb lk fb sb nb mb (.pointer none) bf sn pl ns) (hn : ns.length = n) (hk : AnyHop ns) (he : w.cell? ⟨1, 0, none⟩ = some er) (h1 : tb ≠ 1) :
    Calls Ybad.prog 13 #[.pointer (some ⟨tb, 0, none⟩), .int .i64 7, .slice (some ⟨nb, 0, none⟩) n n, .agg #[.int .u64 0, .int .i64 0, .pointer none]] w fun e w' =>
      e = .returned (.tuple #[.slice none 0 0, .bool false, er]) ∧ w'.cell? ⟨fb, 0, none⟩ = some (.int .i64 0) ∧ w'.cell? ⟨tb, 51, none⟩ = some (.map none) ∧ Kp [tb, fb] w w' := by
  have a := h.ap
  have bt := a.t
  have small := h.small
  have K0 : Kp [] w (w.alloc (.cells #[.int .u64 0, .int .i64 0, .pointer none] 43)) := (Kp.refl _ w).alloc _
  have hlen : (n : Int) ≤ 1024 := by omega
  go_enter_defers Ybad.func13, Ybad.ntmps13
  go_wp2_with (first
    | (go_at_call 15; refine (lock_any tb _ ((K0.cell (p := ⟨tb, 33, none⟩) bt (by simp)).trans h.tt.mu) ((K0.frozen (p := ⟨tb, 33, none⟩) bt (by simp)).trans (h.thaw 33))).mono ?_; rintro e w1 ⟨rfl, hw1⟩; obtain ⟨T1, A1, k1, hs1, r1, ht1, hl1, tr1⟩ := h.locked hw1; have HS1 : Hid (w1.heap.size = w.heap.size + 1) := hs1; clear hw1 hs1)
    | (go_at_call 17; refine (treeLink7 tb mb lk _ ht1 hl1 tr1).mono ?_; rintro e w2 ⟨rfl, rfl⟩; refine Hid.out ?_))
  refine Lib.hid ?_
  clear ht1 hl1 tr1 K0
  have nbh := T1.nbh
  go_wp2_with (first
    | (go_at_call 27; refine (keeps_none lk _ nbh).mono ?_; rintro e w3 ⟨rfl, rfl⟩)
    | (go_at_call 28; refine (containsf_any nb n ns _ hn (by omega) T1.names true (by simp [hk])).mono ?_; rintro e w3 ⟨rfl, K3⟩))
  have kw : Kp [tb] w w3 := k1.trans (K3.mono (by simp))
  have hl1 : 1 < w.heap.size := lt_of_cell he
  have hl3 : 1 < w3.heap.size := Nat.lt_of_lt_of_le hl1 kw.size
  have e3 : w3.cell? ⟨1, 0, none⟩ = some er := (kw.cell (p := ⟨1, 0, none⟩) hl1 (by simpa using Ne.symm h1)).trans he
  have T3 := T1.kp K3 (by simp) (by simp) (by simp) (by simp) (by simp)
  have A3 := A1.kp K3 (by simp) (by simp) (by simp)
  refine wp_region_kp (by kernel_rfl) (by kernel_rfl) ?_
  go_big_quiet_want
  refine quiet_load_one 72 rfl rfl (er) Ybad.underlying72 rfl (fun w' k => (k.cell hl3 (by simp)).trans e3) ?_
  simp only [Act.put, List.setIfInBounds_toArray, List.set_cons_zero, List.set_cons_succ]
  go_big_quiet_on
  go_big_quiet_want
  go_big_quiet_op
  first | go_big_quiet_on | (refine ⟨_, fun _ _ => rfl, ?_⟩; go_big_quiet_on)
  go_big_quiet_want
  go_big_quiet_op
  first | go_big_quiet_on | (refine ⟨_, fun _ _ => rfl, ?_⟩; go_big_quiet_on)
  go_big_quiet_want
  go_big_quiet_op
  first | go_big_quiet_on | (refine ⟨_, fun _ _ => rfl, ?_⟩; go_big_quiet_on)
  refine wpQuiet_nil ?_
  intro w4 K4
  have T4 := T3.kp K4 (by simp) (by simp) (by simp) (by simp) (by simp)
  have A4 := A3.kp K4 (by simp) (by simp) (by simp)
  have k4 : Kp [tb, fb] w w4 := (kw.mono (by simp)).trans (K4.mono (by simp))
  clear T1 A1 T3 A3 K3 K4 kw k1 nbh r1 e3
  go_wp2_with fail
  refine door13 _ _ _ rfl rfl rfl rfl T4.mu (A4.base.2.2 33) ⟨rfl, ?_, ?_, k4.setCell (p := ⟨tb, 33, none⟩) (by simp) _⟩
  · rw [World.cell?_setCell_other _ _ _ _ (by simp)]; exact T4.calls
  · rw [World.cell?_setCell_other _ _ _ _ (by simp)]
    cases A4 with
    | off h1 => exact h1
    | on hne _ => exact (hne rfl).elim
end Go.Proofs.YbulkdaeyDoor
