import Derived.Test.YbulkdaeyDoorGrafts
/-
  Laws for a quiet walk; the zero time less the zero time.
-/
namespace Go.Proofs.YbulkdaeyDoor
open Go.RowKit

/-- A plain read: its run, in every world of the class. -/
theorem quiet_run {op : Oper} {a : Act} {C : World → Prop} {K : Act → Prop} (v : Value) (hr : ∀ w, C w → (execOp a.eval op).run Ybad.prog w = .ok (.value v) w) (h : K (a.put op.dst v)) : op.quiet Ybad.prog a C K :=
  ⟨v, fun w hw => by unfold Oper.quietAt; rw [hr w hw]; exact ⟨rfl, rfl⟩, h⟩
/-- A call. -/
theorem quiet_call {op : Oper} {a : Act} {C : World → Prop} {K : Act → Prop} (f : FuncId) (args : Array Value) (v : Value) {xs : Array Operand} {ts : Array TypeId} (ho : op.op = .call { callee := .value (.func f), args := xs, argTypes := ts }) (ha : xs.toList.map a.eval = args.toList)
    (hf : ∀ w, (callFunc f args).run Ybad.prog w = .ok (.enter f args) w) (hc : ∀ w, C w → Calls Ybad.prog f args w fun e w' => e = .returned v ∧ C w') (h : K (a.put op.dst v)) : op.quiet Ybad.prog a C K :=
  ⟨v, fun w hw => by
    have ha' : xs.map a.eval = args := by apply Array.ext'; simpa using ha
    unfold Oper.quietAt execOp
    simp [ho, go_sem, ha', hf w]
    exact hc w hw, h⟩
theorem enter8 (args : Array Value) (w : World) : (callFunc 8 args).run Ybad.prog w = .ok (.enter 8 args) w := by go_simp
theorem enter56 (args : Array Value) (w : World) : (callFunc 56 args).run Ybad.prog w = .ok (.enter 56 args) w := by go_simp
theorem enter38 (args : Array Value) (w : World) : (callFunc 38 args).run Ybad.prog w = .ok (.enter 38 args) w := by go_simp
theorem quiet_load_mid {op : Oper} {a : Act} {C : World → Prop} {K : Act → Prop} {x : Operand} (t : TypeId) (ho : op.op = .load t x) {b o : Nat} (hx : a.eval x = .pointer (some ⟨b, o, none⟩)) (cs : List Value) {d : TypeDesc} (hu : Ybad.prog.underlying t = some d) (hd : d.isRow = true) (hi : (Ybad.prog.info? t).map (·.size) = some cs.length)
    (hC : ∀ w, C w → w.rangeAt b o cs) (h : K (a.put op.dst (.agg cs.toArray))) : op.quiet Ybad.prog a C K := by
  refine quiet_run _ (fun w hw => ?_) h
  unfold execOp
  simp only [ho, hx, Sem.run_bind, run_loadAt_mid w b o t cs _ (hC w hw) hu hd hi, Result.andThen_ok, Sem.run_pure]

theorem run_loadVar_one (w : World) (t : TypeId) (p : Addr) (v : Value) {d : TypeDesc} (hu : Ybad.prog.underlying t = some d) (hd : d.isRow = false) (hc : w.cell? p = some v) : (loadVar t p).run Ybad.prog w = .ok v w := by
  have hagg : (isAgg t).run Ybad.prog w = .ok false w := by
    unfold isAgg
    rw [Sem.run_bind, run_underlying hu w]
    cases d <;> simp_all
  simp [loadVar, Sem.run_bind, hagg]
  rw [hc]
theorem run_loadAt_one (w : World) (t : TypeId) (p : Addr) (v : Value) {d : TypeDesc} (hu : Ybad.prog.underlying t = some d) (hd : d.isRow = false) (hc : w.cell? p = some v) : (Instr.loadAt t (.pointer (some p))).run Ybad.prog w = .ok v w := by
  simp only [Instr.loadAt, Instr.sureAddr, Sem.run_bind, Sem.run_pure, Result.andThen_ok, run_loadVar_one w t p v hu hd hc]
theorem quiet_load_one {op : Oper} {a : Act} {C : World → Prop} {K : Act → Prop} {x : Operand} (t : TypeId) (ho : op.op = .load t x) {p : Addr} (hx : a.eval x = .pointer (some p)) (v : Value) {d : TypeDesc} (hu : Ybad.prog.underlying t = some d) (hd : d.isRow = false)
    (hC : ∀ w, C w → w.cell? p = some v) (h : K (a.put op.dst v)) : op.quiet Ybad.prog a C K := by
  refine quiet_run _ (fun w hw => ?_) h
  unfold execOp
  simp only [ho, hx, Sem.run_bind, run_loadAt_one w t p v hu hd (hC w hw), Result.andThen_ok, Sem.run_pure]
theorem quiet_lookup {op : Oper} {a : Act} {C : World → Prop} {K : Act → Prop} {x k : Operand} {t : TypeId} {c : Bool} (ho : op.op = .lookup t x k c) {mv kv : Value} (hx : a.eval x = mv) (hk : a.eval k = kv) (v : Value)
    (hC : ∀ w, C w → (Instr.lookup t mv kv c).run Ybad.prog w = .ok v w) (h : K (a.put op.dst v)) : op.quiet Ybad.prog a C K := by
  refine quiet_run _ (fun w hw => ?_) h
  unfold execOp
  simp only [ho, hx, hk, Sem.run_bind, hC w hw, Result.andThen_ok, Sem.run_pure]
/-- In a plain region. -/
theorem wpList_lookup {ops : Array Oper} {rest : List Oper} {op : Oper} {a : Act} {w : World} {Q : Exit → Act → World → Prop} (hgd : op.guard = none) {x k : Operand} {t : TypeId} {c : Bool} (ho : op.op = .lookup t x k c) {mv kv : Value} (hx : a.eval x = mv) (hk : a.eval k = kv) (v : Value)
    (hC : (Instr.lookup t mv kv c).run Ybad.prog w = .ok v w) (h : wpList Ybad.prog ops Q rest (a.put op.dst v) w) : wpList Ybad.prog ops Q (op :: rest) a w :=
  wpList_plain hgd fun _ hK => by
    unfold Oper.wp execOp
    simp only [ho, hx, hk, Sem.run_bind, hC, Result.andThen_ok, Sem.run_pure]
    exact hK _ _ h

theorem TB.range {w : World} {b : Nat} {x y : Int} {l : Value} (h : TB w b x y l) : w.rangeAt b 0 [.int .u64 x, .int .i64 y, l] := fun j v hv => by
  match j with
  | 0 => simp at hv; subst hv; exact h.c0
  | 1 => simp at hv; subst hv; exact h.c1
  | 2 => simp at hv; subst hv; exact h.c2
  | _ + 3 => simp at hv
theorem size43 : (Ybad.prog.info? 43).map (·.size) = some 3 := by kernel_rfl
theorem size97 (m : Nat) (h : m = 33) : (Ybad.prog.info? 97).map (·.size) = some m := by subst h; kernel_rfl

theorem bits_a : bits .and .u64 0 1073741823 = 0 := by kernel_rfl
theorem bits_b : bits .and .u64 0 9223372036854775808 = 0 := by kernel_rfl
theorem bits_c : bits .andNot .u64 0 1073741823 = 0 := by kernel_rfl
theorem bits_d : bits .or .u64 0 0 = 0 := by kernel_rfl
theorem bits_e : bits .and .u64 0 0 = 0 := by kernel_rfl

set_option maxHeartbeats 400000 in
theorem nsec_zero (b : Nat) (w : World) (h0 : w.cell? ⟨b, 0, none⟩ = some (.int .u64 0)) :
    Calls Ybad.prog 23 #[.pointer (some ⟨b, 0, none⟩)] w fun e w' => e = .returned (.int .i32 0) ∧ w' = w := by
  have b1 := bits_a
  go_enter Ybad.func23, Ybad.ntmps23
  go_wp2
  go_ret
  exact ⟨rfl, rfl⟩

set_option maxHeartbeats 400000 in
theorem sec_zero (b : Nat) (w : World) (h0 : w.cell? ⟨b, 0, none⟩ = some (.int .u64 0)) (h1 : w.cell? ⟨b, 1, none⟩ = some (.int .i64 0)) :
    Calls Ybad.prog 41 #[.pointer (some ⟨b, 0, none⟩)] w fun e w' => e = .returned (.int .i64 0) ∧ w' = w := by
  have b1 := bits_b
  go_enter Ybad.func41, Ybad.ntmps41
  go_wp2
  all_goals
    go_ret
    exact ⟨rfl, rfl⟩

set_option maxHeartbeats 400000 in
theorem addSec_zero (b : Nat) (l : Value) (w : World) (h : TB w b 0 0 l) :
    Calls Ybad.prog 24 #[.pointer (some ⟨b, 0, none⟩), .int .i64 0] w fun e w' => e = .returned (.tuple #[]) ∧ TB w' b 0 0 l ∧ Kp [b] w w' := by
  obtain ⟨h0, h1, h2, f0, f1, f2⟩ := id h
  have H : Hid (TB w b 0 0 l) := h
  clear h
  have b1 := bits_b
  go_enter Ybad.func24, Ybad.ntmps24
  go_wp2_with fail
  go_end0
  exact ⟨rfl, H.out.set1 _, (Kp.refl _ _).setCell (by simp) _⟩

set_option maxHeartbeats 800000 in
theorem add_zero' (w : World) :
    Calls Ybad.prog 8 #[.agg #[.int .u64 0, .int .i64 0, .pointer none], .int .i64 0] w fun e w' => e = .returned (.agg #[.int .u64 0, .int .i64 0, .pointer none]) ∧ Kp [] w w' := by
  have b1 := bits_b
  have b2 := bits_c
  have b3 := bits_d
  go_enter Ybad.func8, Ybad.ntmps8
  go_wp2_with (go_at_call 23; refine (nsec_zero w.heap.size _ (by simp)).mono ?_; rintro e w' ⟨rfl, rfl⟩)
  refine (addSec_zero w.heap.size (.pointer none) _ (TB.two w _ _ _ _ _ _ _ _).1).mono ?_
  rintro e w1 ⟨rfl, g, hk⟩
  have r := (TB.two w 0 0 0 0 (.pointer none) (.pointer none) 43 43).2.kp hk (by simp)
  have hB : Kp [] w w1 := (((Kp.refl [] w).alloc _).alloc _).news hk (by simp)
  clear hk
  obtain ⟨g0, g1, g2, k0, k1, k2⟩ := id g
  obtain ⟨r0, r1, r2, m0, m1, m2⟩ := id r
  have G : Hid (TB w1 w.heap.size 0 0 (.pointer none)) := g
  have R : Hid (TB w1 (w.heap.size + 1) 0 0 (.pointer none)) := r
  clear g r
  have HB : Hid (Kp [] w w1) := hB
  clear hB
  go_wp2_with fail
  refine end_time (w.heap.size + 1) 0 0 4 rfl rfl rfl (((R.out.set0 _).set1 _).set2 _) ⟨rfl, ?_⟩
  exact ((HB.out.setNew (p := ⟨w.heap.size + 1, 0, none⟩) (by simp) _).setNew (p := ⟨w.heap.size + 1, 1, none⟩) (by simp) _).setNew (p := ⟨w.heap.size + 1, 2, none⟩) (by simp) _

set_option maxHeartbeats 800000 in
theorem equal_zero (w : World) :
    Calls Ybad.prog 56 #[.agg #[.int .u64 0, .int .i64 0, .pointer none], .agg #[.int .u64 0, .int .i64 0, .pointer none]] w fun e w' => e = .returned (.bool true) ∧ Kp [] w w' := by
  have b1 := bits_b
  have b2 := bits_e
  go_enter Ybad.func56, Ybad.ntmps56
  go_wp2_with (first
    | (go_at_call 41; refine (sec_zero _ _ (by simp) (by simp)).mono ?_; rintro e w' ⟨rfl, rfl⟩)
    | (go_at_call 23; refine (nsec_zero _ _ (by simp)).mono ?_; rintro e w' ⟨rfl, rfl⟩))
  go_ret
  exact ⟨rfl, ((Kp.refl _ _).alloc _).alloc _⟩

set_option maxHeartbeats 1600000 in
theorem sub_zero' (w : World) :
    Calls Ybad.prog 38 #[.agg #[.int .u64 0, .int .i64 0, .pointer none], .agg #[.int .u64 0, .int .i64 0, .pointer none]] w fun e w' => e = .returned (.int .i64 0) ∧ Kp [] w w' := by
  have b1 := bits_b
  have b2 := bits_e
  go_enter Ybad.func38, Ybad.ntmps38
  go_wp2_with (first
    | (go_at_call 41; refine (sec_zero _ _ (by simp) (by simp)).mono ?_; rintro e w' ⟨rfl, rfl⟩)
    | (go_at_call 23; refine (nsec_zero _ _ (by simp)).mono ?_; rintro e w' ⟨rfl, rfl⟩))
  obtain ⟨hA, hB⟩ := TB.two w 0 0 0 0 (.pointer none) (.pointer none) 43 43
  have K0 : Kp [] w ((w.alloc (.cells #[.int .u64 0, .int .i64 0, .pointer none] 43)).alloc (.cells #[.int .u64 0, .int .i64 0, .pointer none] 43)) := ((Kp.refl _ _).alloc _).alloc _
  generalize ((w.alloc (.cells #[.int .u64 0, .int .i64 0, .pointer none] 43)).alloc (.cells #[.int .u64 0, .int .i64 0, .pointer none] 43)) = W at *
  have rA : ∀ w', Kp [] W w' → w'.rangeAt w.heap.size 0 [.int .u64 0, .int .i64 0, .pointer none] := fun w' k => (hA.kp k (by simp)).range
  have rB : ∀ w', Kp [] W w' → w'.rangeAt (w.heap.size + 1) 0 [.int .u64 0, .int .i64 0, .pointer none] := fun w' k => (hB.kp k (by simp)).range
  refine wp_region_kp (by kernel_rfl) (by kernel_rfl) ?_
  go_big_quiet_want
  refine quiet_load_mid 43 rfl rfl [.int .u64 0, .int .i64 0, .pointer none] Ybad.underlying43 rfl size43 rB ?_
  simp only [Act.put, List.setIfInBounds_toArray, List.set_cons_zero, List.set_cons_succ]
  go_big_quiet_on
  go_big_quiet_want
  go_big_quiet_op
  go_big_quiet_on
  go_big_quiet_want
  refine quiet_call 8 _ _ rfl rfl (enter8 _) (fun w' k => (add_zero' w').mono (fun e w'' h => ⟨h.1, k.trans h.2⟩)) ?_
  simp only [Act.put, List.setIfInBounds_toArray, List.set_cons_zero, List.set_cons_succ]
  go_big_quiet_on
  go_big_quiet_want
  refine quiet_load_mid 43 rfl rfl [.int .u64 0, .int .i64 0, .pointer none] Ybad.underlying43 rfl size43 rA ?_
  simp only [Act.put, List.setIfInBounds_toArray, List.set_cons_zero, List.set_cons_succ]
  go_big_quiet_on
  go_big_quiet_want
  refine quiet_call 56 _ _ rfl rfl (enter56 _) (fun w' k => (equal_zero w').mono (fun e w'' h => ⟨h.1, k.trans h.2⟩)) ?_
  simp only [Act.put, List.setIfInBounds_toArray, List.set_cons_zero, List.set_cons_succ]
  go_big_quiet_on
  go_big_quiet_want
  go_big_quiet_op
  go_big_quiet_on
  refine wpQuiet_nil ?_
  intro w7 K7
  go_wp2
  go_ret
  exact ⟨rfl, K0.trans K7⟩
end Go.Proofs.YbulkdaeyDoor
