import Derived.Test.YbulkdaeyDoorZero
import Derived.Test.YbulkdaeyDoorMaps
/-
  seenIDs.place; heldMessages.answered; senderTrees.heard.
-/
namespace Go.Proofs.YbulkdaeyDoor
open Go.RowKit Go.BigFrame

theorem size97i (m : Int) : (Ybad.prog.info? 97).map (·.size) = some (idc m).length := size97 _ (idc_len m)
theorem zero40 (w : World) : (zeroValue 40).run Ybad.prog w = .ok (.int .u64 0) w := by kernel_rfl
theorem zero152 (w : World) : (zeroValue 152).run Ybad.prog w = .ok (.pointer none) w := by kernel_rfl
theorem zero156 (w : World) : (zeroValue 156).run Ybad.prog w = .ok (.pointer none) w := by kernel_rfl
theorem zero164 (w : World) : (zeroValue 164).run Ybad.prog w = .ok (.pointer none) w := by kernel_rfl

/-- The boxes of an identity and of the zero time. -/
theorem id_box (w : World) (m : Int) : Kp [] w ((w.alloc (.cells (idc m).toArray 97)).alloc (.cells #[.int .u64 0, .int .i64 0, .pointer none] 43)) ∧ ((w.alloc (.cells (idc m).toArray 97)).alloc (.cells #[.int .u64 0, .int .i64 0, .pointer none] 43)).rangeAt w.heap.size 0 (idc m) ∧
    ((w.alloc (.cells (idc m).toArray 97)).alloc (.cells #[.int .u64 0, .int .i64 0, .pointer none] 43)).rangeAt (w.heap.size + 1) 0 [.int .u64 0, .int .i64 0, .pointer none] ∧ ((w.alloc (.cells (idc m).toArray 97)).alloc (.cells #[.int .u64 0, .int .i64 0, .pointer none] 43)).heap.size = w.heap.size + 1 + 1 := by
  have h := range_new (w.alloc (.cells (idc m).toArray 97)) [.int .u64 0, .int .i64 0, .pointer none] 43
  rw [show (w.alloc (.cells (idc m).toArray 97)).heap.size = w.heap.size + 1 by simp] at h
  exact ⟨((Kp.refl _ w).alloc _).alloc _, World.rangeAt_alloc (range_new w (idc m) 97) _, h, by simp⟩

theorem eql_map (w : World) (t k e : TypeId) (h : Ybad.prog.underlying t = some (.map k e)) (b : Nat) : (binOp .eql t (.map (some b)) (.map none)).run Ybad.prog w = .ok (.bool false) w := by
  have h' : ∀ d : Nat, (Op.equalIn (d + 1) t (.map (some b)) (.map none)).run Ybad.prog w = .ok false w := fun d => by
    simp [Op.equalIn, run_underlying h]
  simp [binOp, Op.equal, Op.maxDepth, h' 9999]
theorem eql_map_nil (w : World) (t k e : TypeId) (h : Ybad.prog.underlying t = some (.map k e)) : (binOp .eql t (.map none) (.map none)).run Ybad.prog w = .ok (.bool true) w := by
  have h' : ∀ d : Nat, (Op.equalIn (d + 1) t (.map none) (.map none)).run Ybad.prog w = .ok true w := fun d => by
    simp [Op.equalIn, run_underlying h]
  simp [binOp, Op.equal, Op.maxDepth, h' 9999]

set_option maxRecDepth 20000 in
set_option maxHeartbeats 1600000 in
theorem place_any (tb sb n : Nat) (f : Int → Option Value) (m : Int) (w : World) (h0 : 0 ≤ m) (h1 : m < 16) (hM : MF w sb n f) (hc : w.cell? ⟨tb, 38, none⟩ = some (.map (some sb))) (hp : w.cell? ⟨tb, 39, none⟩ = some (.map none)) (ht : w.rangeAt tb 41 [.int .u64 0, .int .i64 0, .pointer none]) :
    Calls Ybad.prog 31 #[.pointer (some ⟨tb, 38, none⟩), .agg (idc m).toArray, .agg #[.int .u64 0, .int .i64 0, .pointer none]] w fun e w' => e = .returned (.tuple #[(f m).getD (.int .u64 0), .bool (f m).isSome]) ∧ Kp [] w w' := by
  have hb : tb < w.heap.size := lt_of_cell hc
  have hb' := hM.lt
  obtain ⟨K0, r0, r1, hs⟩ := id_box w m
  have qm := fun w => eql_map w 39 97 40 Ybad.underlying39 sb
  go_enter Ybad.func31, Ybad.ntmps31
  go_wp2_with fail
  generalize ((w.alloc (.cells (idc m).toArray 97)).alloc (.cells #[.int .u64 0, .int .i64 0, .pointer none] 43)) = W at *
  refine wp_region_kp (by kernel_rfl) (by kernel_rfl) ?_
  go_big_quiet_want
  go_big_quiet_op
  first | go_big_quiet_on | (refine ⟨_, fun _ _ => rfl, ?_⟩; go_big_quiet_on)
  go_big_quiet_want
  go_big_quiet_op
  first | go_big_quiet_on | (refine ⟨_, fun _ _ => rfl, ?_⟩; go_big_quiet_on)
  go_big_quiet_want
  go_big_quiet_op
  first | go_big_quiet_on | (refine ⟨_, fun _ _ => rfl, ?_⟩; go_big_quiet_on)
  go_big_quiet_want
  refine quiet_load_one 39 rfl rfl (.map (some sb)) Ybad.underlying39 rfl (fun w' k => ((K0.trans k).cell hb (by simp)).trans hc) ?_
  simp only [Act.put, List.setIfInBounds_toArray, List.set_cons_zero, List.set_cons_succ]
  go_big_quiet_on
  go_big_quiet_want
  go_big_quiet_op
  first | go_big_quiet_on | (refine ⟨_, fun _ _ => rfl, ?_⟩; go_big_quiet_on)
  go_big_quiet_want
  go_big_quiet_op
  first | go_big_quiet_on | (refine ⟨_, fun _ _ => rfl, ?_⟩; go_big_quiet_on)
  go_big_quiet_want
  refine quiet_load_mid 43 rfl rfl [.int .u64 0, .int .i64 0, .pointer none] Ybad.underlying43 rfl size43 (fun w' k => range_kp r1 k (by omega)) ?_
  simp only [Act.put, List.setIfInBounds_toArray, List.set_cons_zero, List.set_cons_succ]
  go_big_quiet_on
  go_big_quiet_want
  go_big_quiet_op
  first | go_big_quiet_on | (refine ⟨_, fun _ _ => rfl, ?_⟩; go_big_quiet_on)
  go_big_quiet_want
  go_big_quiet_op
  first | go_big_quiet_on | (refine ⟨_, fun _ _ => rfl, ?_⟩; go_big_quiet_on)
  go_big_quiet_want
  go_big_quiet_op
  first | go_big_quiet_on | (refine ⟨_, fun _ _ => rfl, ?_⟩; go_big_quiet_on)
  go_big_quiet_want
  refine quiet_load_mid 43 rfl rfl [.int .u64 0, .int .i64 0, .pointer none] Ybad.underlying43 rfl size43 (fun w' k => range_kp ht (K0.trans k) hb) ?_
  simp only [Act.put, List.setIfInBounds_toArray, List.set_cons_zero, List.set_cons_succ]
  go_big_quiet_on
  go_big_quiet_want
  refine quiet_call 38 _ _ rfl rfl (enter38 _) (fun w' k => (sub_zero' w').mono (fun e w'' h => ⟨h.1, k.trans h.2⟩)) ?_
  simp only [Act.put, List.setIfInBounds_toArray, List.set_cons_zero, List.set_cons_succ]
  go_big_quiet_on
  go_big_quiet_want
  go_big_quiet_op
  first | go_big_quiet_on | (refine ⟨_, fun _ _ => rfl, ?_⟩; go_big_quiet_on)
  go_big_quiet_want
  go_big_quiet_op
  first | go_big_quiet_on | (refine ⟨_, fun _ _ => rfl, ?_⟩; go_big_quiet_on)
  refine wpQuiet_nil ?_
  intro w2 K2
  have hs2 := K2.size
  go_wp2_with fail
  have K02 := K0.trans K2
  have q0 := range_kp r0 K2 (by omega)
  cases hf : f m with
  | none =>
    refine wp_region_kp (by kernel_rfl) (by kernel_rfl) ?_
    go_big_quiet_want
    go_big_quiet_op
    first | go_big_quiet_on | (refine ⟨_, fun _ _ => rfl, ?_⟩; go_big_quiet_on)
    go_big_quiet_want
    go_big_quiet_op
    first | go_big_quiet_on | (refine ⟨_, fun _ _ => rfl, ?_⟩; go_big_quiet_on)
    go_big_quiet_want
    go_big_quiet_op
    first | go_big_quiet_on | (refine ⟨_, fun _ _ => rfl, ?_⟩; go_big_quiet_on)
    go_big_quiet_want
    refine quiet_load_one 39 rfl rfl (.map (some sb)) Ybad.underlying39 rfl (fun w' k => ((K02.trans k).cell hb (by simp)).trans hc) ?_
    simp only [Act.put, List.setIfInBounds_toArray, List.set_cons_zero, List.set_cons_succ]
    go_big_quiet_on
    go_big_quiet_want
    refine quiet_load_mid 97 rfl rfl (idc m) Ybad.underlying97 rfl (size97i m) (fun w' k => range_kp q0 k (by omega)) ?_
    simp only [Act.put, List.setIfInBounds_toArray, List.set_cons_zero, List.set_cons_succ]
    go_big_quiet_on
    go_big_quiet_want
    refine quiet_lookup rfl rfl rfl _ (fun w' k => (hM.kp (K02.trans k) (by simp)).look_ok h0 h1 Ybad.underlying39 (zero40 w')) ?_
    simp only [Act.put, List.setIfInBounds_toArray, List.set_cons_zero, List.set_cons_succ]
    go_big_quiet_on
    go_big_quiet_want
    go_big_quiet_op
    first | go_big_quiet_on | (refine ⟨_, fun _ _ => rfl, ?_⟩; go_big_quiet_on)
    go_big_quiet_want
    go_big_quiet_op
    first | go_big_quiet_on | (refine ⟨_, fun _ _ => rfl, ?_⟩; go_big_quiet_on)
    go_big_quiet_want
    go_big_quiet_op
    first | go_big_quiet_on | (refine ⟨_, fun _ _ => rfl, ?_⟩; go_big_quiet_on)
    go_big_quiet_want
    go_big_quiet_op
    first | go_big_quiet_on | (refine ⟨_, fun _ _ => rfl, ?_⟩; go_big_quiet_on)
    go_big_quiet_want
    go_big_quiet_op
    first | go_big_quiet_on | (refine ⟨_, fun _ _ => rfl, ?_⟩; go_big_quiet_on)
    refine wpQuiet_nil ?_
    intro w3 K3
    have K03 := K02.trans K3
    have q3 := range_kp q0 K3 (by omega)
    have hs3 := K3.size
    simp only [hf, Option.isSome_none, Option.getD_none]
    go_wp2_with fail
    refine wp_region_kp (by kernel_rfl) (by kernel_rfl) ?_
    go_big_quiet_want
    go_big_quiet_op
    first | go_big_quiet_on | (refine ⟨_, fun _ _ => rfl, ?_⟩; go_big_quiet_on)
    go_big_quiet_want
    go_big_quiet_op
    first | go_big_quiet_on | (refine ⟨_, fun _ _ => rfl, ?_⟩; go_big_quiet_on)
    go_big_quiet_want
    go_big_quiet_op
    first | go_big_quiet_on | (refine ⟨_, fun _ _ => rfl, ?_⟩; go_big_quiet_on)
    go_big_quiet_want
    refine quiet_load_one 39 rfl rfl (.map none) Ybad.underlying39 rfl (fun w' k => ((K03.trans k).cell hb (by simp)).trans hp) ?_
    simp only [Act.put, List.setIfInBounds_toArray, List.set_cons_zero, List.set_cons_succ]
    go_big_quiet_on
    go_big_quiet_want
    refine quiet_load_mid 97 rfl rfl (idc m) Ybad.underlying97 rfl (size97i m) (fun w' k => range_kp q3 k (by omega)) ?_
    simp only [Act.put, List.setIfInBounds_toArray, List.set_cons_zero, List.set_cons_succ]
    go_big_quiet_on
    go_big_quiet_want
    refine quiet_lookup rfl rfl rfl _ (fun w' k => (look_nil97 w' m h0 h1 Ybad.underlying39 (zero40 w')).2) ?_
    simp only [Act.put, List.setIfInBounds_toArray, List.set_cons_zero, List.set_cons_succ]
    go_big_quiet_on
    go_big_quiet_want
    go_big_quiet_op
    first | go_big_quiet_on | (refine ⟨_, fun _ _ => rfl, ?_⟩; go_big_quiet_on)
    go_big_quiet_want
    go_big_quiet_op
    first | go_big_quiet_on | (refine ⟨_, fun _ _ => rfl, ?_⟩; go_big_quiet_on)
    go_big_quiet_want
    go_big_quiet_op
    first | go_big_quiet_on | (refine ⟨_, fun _ _ => rfl, ?_⟩; go_big_quiet_on)
    go_big_quiet_want
    go_big_quiet_op
    first | go_big_quiet_on | (refine ⟨_, fun _ _ => rfl, ?_⟩; go_big_quiet_on)
    go_big_quiet_want
    go_big_quiet_op
    first | go_big_quiet_on | (refine ⟨_, fun _ _ => rfl, ?_⟩; go_big_quiet_on)
    refine wpQuiet_nil ?_
    intro w4 K4
    go_wp2
    go_ret2
    exact ⟨by rw [hf]; rfl, K03.trans K4⟩
  | some v =>
    refine wp_region_kp (by kernel_rfl) (by kernel_rfl) ?_
    go_big_quiet_want
    go_big_quiet_op
    first | go_big_quiet_on | (refine ⟨_, fun _ _ => rfl, ?_⟩; go_big_quiet_on)
    go_big_quiet_want
    go_big_quiet_op
    first | go_big_quiet_on | (refine ⟨_, fun _ _ => rfl, ?_⟩; go_big_quiet_on)
    go_big_quiet_want
    go_big_quiet_op
    first | go_big_quiet_on | (refine ⟨_, fun _ _ => rfl, ?_⟩; go_big_quiet_on)
    go_big_quiet_want
    refine quiet_load_one 39 rfl rfl (.map (some sb)) Ybad.underlying39 rfl (fun w' k => ((K02.trans k).cell hb (by simp)).trans hc) ?_
    simp only [Act.put, List.setIfInBounds_toArray, List.set_cons_zero, List.set_cons_succ]
    go_big_quiet_on
    go_big_quiet_want
    refine quiet_load_mid 97 rfl rfl (idc m) Ybad.underlying97 rfl (size97i m) (fun w' k => range_kp q0 k (by omega)) ?_
    simp only [Act.put, List.setIfInBounds_toArray, List.set_cons_zero, List.set_cons_succ]
    go_big_quiet_on
    go_big_quiet_want
    refine quiet_lookup rfl rfl rfl _ (fun w' k => (hM.kp (K02.trans k) (by simp)).look_ok h0 h1 Ybad.underlying39 (zero40 w')) ?_
    simp only [Act.put, List.setIfInBounds_toArray, List.set_cons_zero, List.set_cons_succ]
    go_big_quiet_on
    go_big_quiet_want
    go_big_quiet_op
    first | go_big_quiet_on | (refine ⟨_, fun _ _ => rfl, ?_⟩; go_big_quiet_on)
    go_big_quiet_want
    go_big_quiet_op
    first | go_big_quiet_on | (refine ⟨_, fun _ _ => rfl, ?_⟩; go_big_quiet_on)
    go_big_quiet_want
    go_big_quiet_op
    first | go_big_quiet_on | (refine ⟨_, fun _ _ => rfl, ?_⟩; go_big_quiet_on)
    go_big_quiet_want
    go_big_quiet_op
    first | go_big_quiet_on | (refine ⟨_, fun _ _ => rfl, ?_⟩; go_big_quiet_on)
    go_big_quiet_want
    go_big_quiet_op
    first | go_big_quiet_on | (refine ⟨_, fun _ _ => rfl, ?_⟩; go_big_quiet_on)
    refine wpQuiet_nil ?_
    intro w3 K3
    simp only [hf, Option.isSome_some, Option.getD_some]
    go_wp2
    go_ret2
    exact ⟨by rw [hf]; rfl, K02.trans K3⟩

set_option maxRecDepth 20000 in
set_option maxHeartbeats 1600000 in
theorem answered_any (tb l : Nat) (m : Int) (w : World) (h0 : 0 ≤ m) (h1 : m < 16) (hc : w.cell? ⟨tb, 44, none⟩ = some (.map none)) :
    Calls Ybad.prog 30 #[.pointer (some ⟨tb, 44, none⟩), .agg (idc m).toArray, .pointer (some ⟨l, 0, none⟩)] w fun e w' => e = .returned (.tuple #[]) ∧ Kp [] w w' := by
  have hb : tb < w.heap.size := lt_of_cell hc
  have K0 : Kp [] w (w.alloc (.cells (idc m).toArray 97)) := (Kp.refl _ w).alloc _
  have r0 := range_new w (idc m) 97
  have hs : (w.alloc (.cells (idc m).toArray 97)).heap.size = w.heap.size + 1 := by simp
  go_enter Ybad.func30, Ybad.ntmps30
  go_wp2_with fail
  generalize (w.alloc (.cells (idc m).toArray 97)) = W at *
  refine wp_region_kp (by kernel_rfl) (by kernel_rfl) ?_
  go_big_quiet_want
  go_big_quiet_op
  first | go_big_quiet_on | (refine ⟨_, fun _ _ => rfl, ?_⟩; go_big_quiet_on)
  go_big_quiet_want
  go_big_quiet_op
  first | go_big_quiet_on | (refine ⟨_, fun _ _ => rfl, ?_⟩; go_big_quiet_on)
  go_big_quiet_want
  go_big_quiet_op
  first | go_big_quiet_on | (refine ⟨_, fun _ _ => rfl, ?_⟩; go_big_quiet_on)
  go_big_quiet_want
  refine quiet_load_one 46 rfl rfl (.map none) Ybad.underlying46 rfl (fun w' k => ((K0.trans k).cell hb (by simp)).trans hc) ?_
  simp only [Act.put, List.setIfInBounds_toArray, List.set_cons_zero, List.set_cons_succ]
  go_big_quiet_on
  go_big_quiet_want
  refine quiet_load_mid 97 rfl rfl (idc m) Ybad.underlying97 rfl (size97i m) (fun w' k => range_kp r0 k (by omega)) ?_
  simp only [Act.put, List.setIfInBounds_toArray, List.set_cons_zero, List.set_cons_succ]
  go_big_quiet_on
  go_big_quiet_want
  refine quiet_lookup rfl rfl rfl _ (fun w' k => (look_nil97 w' m h0 h1 Ybad.underlying46 (zero152 w')).1) ?_
  simp only [Act.put, List.setIfInBounds_toArray, List.set_cons_zero, List.set_cons_succ]
  go_big_quiet_on
  go_big_quiet_want
  go_big_quiet_op
  first | go_big_quiet_on | (refine ⟨_, fun _ _ => rfl, ?_⟩; go_big_quiet_on)
  refine wpQuiet_nil ?_
  intro w2 K2
  go_wp2
  go_end0
  exact ⟨rfl, K0.trans K2⟩

theorem range_pre {w : World} {b o : Nat} {a c : List Value} (h : w.rangeAt b o (a ++ c)) : w.rangeAt b o a := fun j v hv => h j v (by
  have hj : j < a.length := (List.getElem?_eq_some_iff.1 hv).1
  rw [List.getElem?_append_left hj]; exact hv)

set_option maxRecDepth 20000 in
set_option maxHeartbeats 1600000 in
theorem heard_any (tb l : Nat) (m hops : Int) (w : World) (hc : w.cell? ⟨tb, 62, none⟩ = some (.map none)) :
    Calls Ybad.prog 33 #[.pointer (some ⟨tb, 62, none⟩), .agg (idc m).toArray, .pointer (some ⟨l, 0, none⟩), .int .i64 hops] w fun e w' => e = .returned (.tuple #[.agg #[.pointer none, .pointer none], .bool false, .bool false]) ∧ Kp [] w w' := by
  have hb : tb < w.heap.size := lt_of_cell hc
  have K0 : Kp [] w ((w.alloc (.cells (idc m).toArray 97)).alloc (.cells #[.pointer none, .pointer none] 139)) := ((Kp.refl _ w).alloc _).alloc _
  have r0 := World.rangeAt_alloc (range_new w (idc m) 97) (.cells #[.pointer none, .pointer none] 139)
  have r1 := range_pre (a := kcl key1) (c := [.int .u64 m]) r0
  have hs : ((w.alloc (.cells (idc m).toArray 97)).alloc (.cells #[.pointer none, .pointer none] 139)).heap.size = w.heap.size + 1 + 1 := by simp
  have r2 := range_new (w.alloc (.cells (idc m).toArray 97)) [.pointer none, .pointer none] 139
  rw [show (w.alloc (.cells (idc m).toArray 97)).heap.size = w.heap.size + 1 by simp] at r2
  have pl : Plain ((w.alloc (.cells (idc m).toArray 97)).alloc (.cells #[.pointer none, .pointer none] 139)) (w.heap.size + 1) := by
    have := heap_alloc_new (w.alloc (.cells (idc m).toArray 97)) (.cells #[.pointer none, .pointer none] 139)
    exact ⟨_, _, by simpa using this⟩
  go_enter Ybad.func33, Ybad.ntmps33
  go_wp2_with fail
  generalize (w.alloc (.cells (idc m).toArray 97)).alloc (.cells #[.pointer none, .pointer none] 139) = W at *
  refine wp_region_kp (by kernel_rfl) (by kernel_rfl) ?_
  go_big_quiet_want
  go_big_quiet_op
  first | go_big_quiet_on | (refine ⟨_, fun _ _ => rfl, ?_⟩; go_big_quiet_on)
  go_big_quiet_want
  go_big_quiet_op
  first | go_big_quiet_on | (refine ⟨_, fun _ _ => rfl, ?_⟩; go_big_quiet_on)
  go_big_quiet_want
  go_big_quiet_op
  first | go_big_quiet_on | (refine ⟨_, fun _ _ => rfl, ?_⟩; go_big_quiet_on)
  go_big_quiet_want
  refine quiet_load_one 65 rfl rfl (.map none) Ybad.underlying65 rfl (fun w' k => ((K0.trans k).cell hb (by simp)).trans hc) ?_
  simp only [Act.put, List.setIfInBounds_toArray, List.set_cons_zero, List.set_cons_succ]
  go_big_quiet_on
  go_big_quiet_want
  go_big_quiet_op
  first | go_big_quiet_on | (refine ⟨_, fun _ _ => rfl, ?_⟩; go_big_quiet_on)
  go_big_quiet_want
  refine quiet_load_mid 27 rfl rfl (kcl key1) Ybad.underlying27 rfl (size_key key1_len) (fun w' k => range_kp r1 k (by omega)) ?_
  simp only [Act.put, List.setIfInBounds_toArray, List.set_cons_zero, List.set_cons_succ]
  go_big_quiet_on
  go_big_quiet_want
  refine quiet_lookup rfl rfl rfl _ (fun w' k => look_nil27 w' Ybad.underlying65 (zero164 w')) ?_
  simp only [Act.put, List.setIfInBounds_toArray, List.set_cons_zero, List.set_cons_succ]
  go_big_quiet_on
  go_big_quiet_want
  go_big_quiet_op
  first | go_big_quiet_on | (refine ⟨_, fun _ _ => rfl, ?_⟩; go_big_quiet_on)
  refine wpQuiet_nil ?_
  intro w2 K2
  have p2 := pl.kp K2 (by simp)
  have c0 : w2.cell? ⟨w.heap.size + 1, 0, none⟩ = some (.pointer none) := range_kp r2 K2 (by omega) 0 _ rfl
  have c1 : w2.cell? ⟨w.heap.size + 1, 1, none⟩ = some (.pointer none) := range_kp r2 K2 (by omega) 1 _ rfl
  have f0 := p2.thaw 0
  have f1 := p2.thaw 1
  have K02 := K0.trans K2
  clear r0 r1 r2 pl p2 K0 K2
  go_wp2_with fail
  refine bodyPost_ret (v := .tuple #[.agg #[.pointer none, .pointer none], .bool false, .bool false]) ?_ rfl ⟨rfl, (K02.setNew (p := ⟨w.heap.size + 1, 0, none⟩) (by simp) _).setNew (p := ⟨w.heap.size + 1, 1, none⟩) (by simp) _⟩
  have d0 : ((w2.setCell ⟨w.heap.size + 1, 0, none⟩ (.pointer none)).setCell ⟨w.heap.size + 1, 1, none⟩ (.pointer none)).cell? ⟨w.heap.size + 1, 0, none⟩ = some (.pointer none) := by
    rw [World.cell?_setCell_other _ _ _ _ (by simp)]; exact World.cell?_setCell_same _ _ _ c0
  have d1 : ((w2.setCell ⟨w.heap.size + 1, 0, none⟩ (.pointer none)).setCell ⟨w.heap.size + 1, 1, none⟩ (.pointer none)).cell? ⟨w.heap.size + 1, 1, none⟩ = some (.pointer none) := by
    refine World.cell?_setCell_same _ _ _ ((World.cell?_setCell_other _ _ _ _ (by simp)).trans c1)
  have hl : (loadVar 139 ⟨w.heap.size + 1, 0, none⟩).run Ybad.prog ((w2.setCell ⟨w.heap.size + 1, 0, none⟩ (.pointer none)).setCell ⟨w.heap.size + 1, 1, none⟩ (.pointer none)) = .ok (.agg #[.pointer none, .pointer none]) ((w2.setCell ⟨w.heap.size + 1, 0, none⟩ (.pointer none)).setCell ⟨w.heap.size + 1, 1, none⟩ (.pointer none)) := by
    generalize (w2.setCell ⟨w.heap.size + 1, 0, none⟩ (.pointer none)).setCell ⟨w.heap.size + 1, 1, none⟩ (.pointer none) = V at *
    simp [go_sem, d0, d1]
  simp [results, asAddr, hl]
end Go.Proofs.YbulkdaeyDoor
