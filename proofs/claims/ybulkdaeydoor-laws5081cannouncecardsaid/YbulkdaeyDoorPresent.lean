import Derived.Test.YbulkdaeyDoorAbsent
/-
  TakeProbe on a link that is joined: no tree frame yet, or no child.
-/
namespace Go.Proofs.YbulkdaeyDoor
open Go.RowKit Go.MuLone

/-- What TakeProbe looks at besides: the link's host, the package's variables. -/
structure PP (w : World) (l1 hb : Nat) (tr : Bool) (bu ev x y : Int) (er : Value) : Prop where
  tree : w.cell? ⟨l1, 1, none⟩ = some (.bool tr)
  host : w.cell? ⟨l1, 6, none⟩ = some (.pointer (some ⟨hb, 0, none⟩))
  t0 : w.cell? ⟨hb, 4, none⟩ = some (.int .u64 x)
  t1 : w.cell? ⟨hb, 5, none⟩ = some (.int .i64 y)
  t2 : w.cell? ⟨hb, 6, none⟩ = some (.pointer none)
  z : ∀ o, w.frozen? ⟨hb, o, none⟩ = false
  g0 : w.cell? ⟨2, 0, none⟩ = some (.int .i64 bu)
  g1 : w.cell? ⟨2, 1, none⟩ = some (.int .i64 ev)
  ge : w.cell? ⟨0, 0, none⟩ = some er

theorem PP.kp {w w' : World} {l1 hb : Nat} {tr : Bool} {bu ev x y : Int} {er : Value} {L : List Nat} (h : PP w l1 hb tr bu ev x y er) (k : Kp L w w') (h1 : l1 ∉ L) (h2 : hb ∉ L) (h3 : 2 ∉ L) (h4 : 0 ∉ L) : PP w' l1 hb tr bu ev x y er := by
  have b1 : l1 < w.heap.size := lt_of_cell h.tree
  have b2 : hb < w.heap.size := lt_of_cell h.t0
  have b3 : 2 < w.heap.size := lt_of_cell h.g0
  have b4 : 0 < w.heap.size := lt_of_cell h.ge
  exact ⟨(k.cell b1 h1).trans h.tree, (k.cell b1 h1).trans h.host, (k.cell b2 h2).trans h.t0, (k.cell b2 h2).trans h.t1, (k.cell b2 h2).trans h.t2, fun o => (k.frozen b2 h2).trans (h.z o), (k.cell b3 h3).trans h.g0, (k.cell b3 h3).trans h.g1, (k.cell b4 h4).trans h.ge⟩

/-- The frame of the tree's world. -/
structure Tr (w : World) (tb l1 l2 hb mb B0 : Nat) : Prop where
  links : w.cell? ⟨tb, 35, none⟩ = some (.map (some mb))
  look : ∃ es c i, w.heap[mb]? = some (.map es c) ∧ Instr.findNow (.int .i64) (.int .i64 1) es.toList 0 = some (some (i, .pointer (some ⟨l1, 0, none⟩)))
  n1 : tb ≠ l1
  n2 : tb ≠ l2
  n3 : l2 ≠ l1
  n4 : hb ≠ tb
  n5 : hb ≠ l1
  n6 : hb ≠ l2
  b0 : 2 < B0
  bt : B0 ≤ tb
  b1 : B0 ≤ l1
  b2 : B0 ≤ l2
  b3 : B0 ≤ hb

/-- Behind the two boxes and the lock. -/
theorem locked_all {w w0 w1 : World} {tb l1 l2 hb mb B0 : Nat} {sk : List UInt8} {pv : Value} {z1 c1 z2 c2 tr : Bool} {bu ev x y : Int} {er : Value} (hk : sk.length = 32) (F : Tr w tb l1 l2 hb mb B0) (T : TW w tb l1 l2 sk 0 pv z1 c1 z2 c2) (P : PP w l1 hb tr bu ev x y er)
    (K0 : Kp [] w w0) (h : Locked w0 w1 tb 1) : TW w1 tb l1 l2 sk 1 pv z1 c1 z2 c2 ∧ PP w1 l1 hb tr bu ev x y er ∧ w1.cell? ⟨tb, 35, none⟩ = some (.map (some mb)) ∧ (Instr.lookup 37 (.map (some mb)) (.int .i64 1) false).run Ybad.prog w1 = .ok (.pointer (some ⟨l1, 0, none⟩)) w1 ∧ Kp [tb] w w1 := by
  have hb : tb < w.heap.size := lt_of_cell T.fr
  have b0 := F.b0
  have bt := F.bt
  have k1 : Kp [tb] w w1 := by rw [h.eq]; exact (K0.mono (by simp)).setCell (by simp) _
  obtain ⟨es, c, i, hm, hf⟩ := F.look
  have hmb : mb < w.heap.size := (Array.getElem?_eq_some_iff.1 hm).1
  have hne : mb ≠ tb := by
    rintro rfl
    have := T.fr
    simp [World.cell?, hm] at this
  have hm1 : w1.heap[mb]? = some (.map es c) := (k1.block mb hmb (by simp [hne])).trans hm
  refine ⟨?_, P.kp k1 (by simp [Ne.symm F.n1]) (by simp [F.n4]) (by simp; omega) (by simp; omega), ?_, look_links hm1 hf, k1⟩
  · rw [h.eq]; exact (T.kp K0 (by simp) (by simp) (by simp)).setMu hk 1
  · rw [h.eq]; exact cell_put ((K0.cell hb (by simp)).trans F.links) (by simp)

set_option maxRecDepth 20000 in
set_option maxHeartbeats 1600000 in
theorem takeProbe_noTree (tb l1 l2 hb mb B0 : Nat) (sk low : List UInt8) (hops x y x' y' bu ev : Int) (pv er : Value) (z1 c1 z2 c2 : Bool) (w : World) (hk : sk.length = 32) (F : Tr w tb l1 l2 hb mb B0) (T : TW w tb l1 l2 sk 0 pv z1 c1 z2 c2) (P : PP w l1 hb false bu ev x' y' er) :
    Calls Ybad.prog 7 #[.pointer (some ⟨tb, 0, none⟩), .int .i64 1, .agg (kcl low).toArray, .int .i64 hops, .agg #[.int .u64 x, .int .i64 y, .pointer none]] w fun e w' =>
      e = .returned (.tuple #[.slice none 0 0, er]) ∧ TW w' tb l1 l2 sk 0 pv z1 c1 z2 c2 ∧ Below B0 w w' := by
  have K0 : Kp [] w ((w.alloc (.cells (kcl low).toArray 27)).alloc (.cells #[.int .u64 x, .int .i64 y, .pointer none] 43)) := ((Kp.refl _ _).alloc _).alloc _
  have hb : tb < w.heap.size := lt_of_cell T.fr
  have bt := F.bt
  go_enter_defers Ybad.func7, Ybad.ntmps7
  go_wp2_with (first
    | (go_at_call 15; refine (lock_any tb _ ((K0.cell hb (by simp)).trans T.mu) ((K0.frozen hb (by simp)).trans (T.ft 33))).mono ?_; rintro e w1 ⟨rfl, hw1⟩; obtain ⟨T1, P1, ht1, hl1, k1⟩ := locked_all hk F T P K0 hw1; clear hw1)
    | (go_at_call 17; refine (treeLink_none tb mb l1 er _ ht1 hl1 P1.tree P1.ge).mono ?_; rintro e w2 ⟨rfl, hb2⟩))
  have T2 := T1.bel hb2
  refine door7 _ _ rfl rfl rfl T2.mu (T2.ft 33) ⟨rfl, T2.setMu hk 0, ?_⟩
  exact (((k1.trans (Kp.ofBelow hb2 _)).setCell (by simp) _).toBelow (by omega) (by simp; omega))

set_option maxRecDepth 20000 in
set_option maxHeartbeats 1600000 in
theorem takeProbe_noChild (tb l1 l2 hb mb B0 : Nat) (sk low : List UInt8) (hops x y x' y' bu ev : Int) (pv er : Value) (z1 z2 c2 : Bool) (w : World) (hk : sk.length = 32) (F : Tr w tb l1 l2 hb mb B0) (T : TW w tb l1 l2 sk 0 pv z1 false z2 c2) (P : PP w l1 hb true bu ev x' y' er) :
    Calls Ybad.prog 7 #[.pointer (some ⟨tb, 0, none⟩), .int .i64 1, .agg (kcl low).toArray, .int .i64 hops, .agg #[.int .u64 x, .int .i64 y, .pointer none]] w fun e w' =>
      e = .returned (.tuple #[.slice none 0 0, .nilIface]) ∧ TW w' tb l1 l2 sk 0 pv z1 false z2 c2 ∧ Below B0 w w' := by
  have K0 : Kp [] w ((w.alloc (.cells (kcl low).toArray 27)).alloc (.cells #[.int .u64 x, .int .i64 y, .pointer none] 43)) := ((Kp.refl _ _).alloc _).alloc _
  have hb : tb < w.heap.size := lt_of_cell T.fr
  have bt := F.bt
  go_enter_defers Ybad.func7, Ybad.ntmps7
  go_wp2_with (first
    | (go_at_call 15; refine (lock_any tb _ ((K0.cell hb (by simp)).trans T.mu) ((K0.frozen hb (by simp)).trans (T.ft 33))).mono ?_; rintro e w1 ⟨rfl, hw1⟩; obtain ⟨T1, P1, ht1, hl1, k1⟩ := locked_all hk F T P K0 hw1; clear hw1)
    | (go_at_call 17; refine (treeLink_tree tb mb l1 _ ht1 hl1 P1.tree).mono ?_; rintro e w2 ⟨rfl, hb2⟩; have T2 := T1.bel hb2; have tc := T2.child1))
  refine door7 _ _ rfl rfl rfl T2.mu (T2.ft 33) ⟨rfl, T2.setMu hk 0, ?_⟩
  exact (((k1.trans (Kp.ofBelow hb2 _)).setCell (by simp) _).toBelow (by omega) (by simp; omega))
end Go.Proofs.YbulkdaeyDoor
