import Derived.Test.YbulkdaeyDoorAgain
/-
  Operations that make or turn memory, the world behind each a letter.
-/
namespace Go.Proofs.YbulkdaeyDoor
open Go.RowKit Go.BigFrame

/-- One cell turned. -/
structure Put1 (w w' : World) (b o : Nat) (v : Value) : Prop where
  kp : Kp [b] w w'
  same : w'.cell? ⟨b, o, none⟩ = some v
  other : ∀ o', o' ≠ o → w'.cell? ⟨b, o', none⟩ = w.cell? ⟨b, o', none⟩
  thaw : ∀ p, w'.frozen? p = w.frozen? p
  size : w'.heap.size = w.heap.size
/-- One block laid. -/
structure New1 (w w' : World) (ob : Obj) : Prop where
  kp : Kp [] w w'
  at' : w'.heap[w.heap.size]? = some ob
  size : w'.heap.size = w.heap.size + 1

theorem Put1.mk' {w : World} {b o : Nat} {u : Value} (v : Value) (hc : w.cell? ⟨b, o, none⟩ = some u) : Put1 w (w.setCell ⟨b, o, none⟩ v) b o v :=
  ⟨(Kp.refl _ _).setCell (by simp) _, World.cell?_setCell_same _ _ _ hc, fun o' ho => World.cell?_setCell_other _ _ _ _ (fun e => ho (by simpa using e.symm)), fun p => by simp, by simp [World.setCell]⟩
theorem New1.mk' (w : World) (ob : Obj) : New1 w (w.alloc ob) ob := ⟨(Kp.refl _ _).alloc _, heap_alloc_new w ob, by simp⟩

section
variable {ops : Array Oper} {rest : List Oper} {op : Oper} {a : Act} {w : World} {Q : Exit → Act → World → Prop}

theorem run_store1 (t : TypeId) (b o : Nat) (v u : Value) (h1 : v.oneCell' = true) (hi : (Ybad.prog.info? t).map (·.size) = some 1) (hc : w.cell? ⟨b, o, none⟩ = some u) (hf : w.frozen? ⟨b, o, none⟩ = false) :
    (Instr.storeAt t (.pointer (some ⟨b, o, none⟩)) v).run Ybad.prog w = .ok () (w.setCell ⟨b, o, none⟩ v) := by
  have hcs : v.cells = #[v] := by cases v <;> first | rfl | cases h1
  have := run_storeCells_cells (P := Ybad.prog) b o [v] 0 w (fun j hj => by simp at hj; subst hj; simp [hc]) (fun j hj => by simp at hj; subst hj; simpa using hf) (fun x hx => by simp at hx; subst hx; exact h1)
  cases hq : Ybad.prog.info? t with
  | none => simp [hq] at hi
  | some i =>
    have hs : i.size = 1 := by simpa [hq] using hi
    simp only [Nat.add_zero] at this
    simp [Instr.storeAt, Instr.sureAddr, storeVar, sizeOf, typeInfo, hq, hcs, hs, this, World.setCells]

theorem wpList_put1 (hgd : op.guard = none) (t : TypeId) {x y : Operand} (ho : op.op = .store t x y) {b o : Nat} (hx : a.eval x = .pointer (some ⟨b, o, none⟩)) (v : Value) (hy : a.eval y = v) (h1 : v.oneCell' = true) (hi : (Ybad.prog.info? t).map (·.size) = some 1) {u : Value} (hc : w.cell? ⟨b, o, none⟩ = some u) (hf : w.frozen? ⟨b, o, none⟩ = false)
    (h : ∀ w', Put1 w w' b o v → wpList Ybad.prog ops Q rest (a.put op.dst undef) w') : wpList Ybad.prog ops Q (op :: rest) a w :=
  wpList_plain hgd fun _ hK => by
    unfold Oper.wp execOp
    simp only [ho, hx, hy, Sem.run_bind, run_store1 t b o v u h1 hi hc hf, Result.andThen_ok, Sem.run_pure]
    exact hK _ _ (h _ (Put1.mk' v hc))

theorem wpList_newMap (hgd : op.guard = none) (t : TypeId) (ho : op.op = .makeMap t none) (h : ∀ w', New1 w w' (.map #[] 0) → wpList Ybad.prog ops Q rest (a.put op.dst (.map (some w.heap.size))) w') : wpList Ybad.prog ops Q (op :: rest) a w :=
  wpList_plain hgd fun _ hK => by
    unfold Oper.wp execOp
    simp only [ho, Option.map_none, Sem.run_bind, run_makeMap, Result.andThen_ok, Sem.run_pure]
    exact hK _ _ (h _ (New1.mk' w _))

theorem run_box (t : TypeId) (S : Array Value) (w : World) : (Instr.box t (.agg S)).run Ybad.prog w = .ok (.pointer (some ⟨w.heap.size, 0, none⟩)) (w.alloc (.cells S t)) := by simp [go_sem]
theorem wpList_boxed (hgd : op.guard = none) (t : TypeId) {x : Operand} (ho : op.op = .box t x) (S : Array Value) (hx : a.eval x = .agg S) (h : ∀ w', New1 w w' (.cells S t) → wpList Ybad.prog ops Q rest (a.put op.dst (.pointer (some ⟨w.heap.size, 0, none⟩))) w') : wpList Ybad.prog ops Q (op :: rest) a w :=
  wpList_plain hgd fun _ hK => by
    unfold Oper.wp execOp
    simp only [ho, hx, Sem.run_bind, run_box, Result.andThen_ok, Sem.run_pure]
    exact hK _ _ (h _ (New1.mk' w _))

theorem wpList_slice1 (hgd : op.guard = none) (t e : TypeId) {x : Operand} (ho : op.op = .buildSlice t 1 #[(0, x)]) (v : Value) (hx : a.eval x = v) (hr : ∀ w, (Instr.buildSlice t 1 #[(0, v)]).run Ybad.prog w = .ok (.slice (some ⟨w.heap.size, 0, none⟩) 1 1) (w.alloc (.cells #[v] e)))
    (h : ∀ w', New1 w w' (.cells #[v] e) → wpList Ybad.prog ops Q rest (a.put op.dst (.slice (some ⟨w.heap.size, 0, none⟩) 1 1)) w') : wpList Ybad.prog ops Q (op :: rest) a w :=
  wpList_plain hgd fun _ hK => by
    have hp : (#[(0, x)].map fun (i, x) => (i, a.eval x)) = #[(0, v)] := by rw [← hx]; simp only [List.map_toArray, List.map_cons, List.map_nil]
    unfold Oper.wp execOp
    simp only [ho, hp, Sem.run_bind, hr w, Result.andThen_ok, Sem.run_pure]
    exact hK _ _ (h _ (New1.mk' w _))
theorem slice56 (p : Option Addr) (w : World) : (Instr.buildSlice 56 1 #[(0, .pointer p)]).run Ybad.prog w = .ok (.slice (some ⟨w.heap.size, 0, none⟩) 1 1) (w.alloc (.cells #[.pointer p] 156)) := by simp [go_sem]
theorem slice157 (p : Option Addr) (w : World) : (Instr.buildSlice 157 1 #[(0, .pointer p)]).run Ybad.prog w = .ok (.slice (some ⟨w.heap.size, 0, none⟩) 1 1) (w.alloc (.cells #[.pointer p] 24)) := by simp [go_sem]

theorem wpList_upd (hgd : op.guard = none) {t : TypeId} {x k y : Operand} (ho : op.op = .mapUpdate t x k y) {b : Nat} {kv v : Value} (hx : a.eval x = .map (some b)) (hk : a.eval k = kv) (hy : a.eval y = v) (ob : Obj) (hr : (Instr.mapUpdate t (.map (some b)) kv v).run Ybad.prog w = .ok () (mset w b ob))
    (h : wpList Ybad.prog ops Q rest (a.put op.dst undef) (mset w b ob)) : wpList Ybad.prog ops Q (op :: rest) a w :=
  wpList_plain hgd fun _ hK => by
    unfold Oper.wp execOp
    simp only [ho, hx, hk, hy, Sem.run_bind, hr, Result.andThen_ok, Sem.run_pure]
    exact hK _ _ h
end

/-- In a region that draws its order: a load of one cell, under an S that gives it. -/
theorem yieldsIf_load_one {ops : Array Oper} {S : World → Prop} {op : Oper} {a : Act} (hw : Region.wanted op (yielded ops a.tmps) = true) (t : TypeId) {x : Operand} (ho : op.op = .load t x) {p : Addr} (hx : a.eval x = .pointer (some p)) (v : Value) {d : TypeDesc} (hu : Ybad.prog.underlying t = some d) (hd : d.isRow = false)
    (hS : ∀ w, S w → w.cell? p = some v) : YieldsIf Ybad.prog ops S op v a :=
  .inl ⟨hw, fun w hw' => by
    unfold execOp
    simp only [ho, hx, Sem.run_bind, run_loadAt_one w t p v hu hd (hS w hw'), Result.andThen_ok, Sem.run_pure]⟩
theorem wp_upd {op : Oper} {a : Act} {w : World} {K : Act → World → Prop} {Q : Exit → Act → World → Prop} {t : TypeId} {x k y : Operand} (ho : op.op = .mapUpdate t x k y) {b : Nat} {kv v : Value} (hx : a.eval x = .map (some b)) (hk : a.eval k = kv) (hy : a.eval y = v) {w' : World} (hr : (Instr.mapUpdate t (.map (some b)) kv v).run Ybad.prog w = .ok () w')
    (h : K (a.put op.dst undef) w') : op.wp Ybad.prog a w K Q := by
  unfold Oper.wp execOp
  simp only [ho, hx, hk, hy, Sem.run_bind, hr, Result.andThen_ok, Sem.run_pure]
  exact h
end Go.Proofs.YbulkdaeyDoor
