import Derived.Test.YbulkdaeyDoorLeaves
/-
  awaited.announce.
-/
namespace Go.Proofs.YbulkdaeyDoor
open Go.RowKit Go.BigFrame

/-- In a plain region: a load of one cell. -/
theorem wpList_load_one {ops : Array Oper} {rest : List Oper} {op : Oper} {a : Act} {w : World} {Q : Exit → Act → World → Prop} (hgd : op.guard = none) (t : TypeId) {x : Operand} (ho : op.op = .load t x) {p : Addr} (hx : a.eval x = .pointer (some p)) (v : Value) {d : TypeDesc} (hu : Ybad.prog.underlying t = some d) (hd : d.isRow = false)
    (hc : w.cell? p = some v) (h : wpList Ybad.prog ops Q rest (a.put op.dst v) w) : wpList Ybad.prog ops Q (op :: rest) a w :=
  wpList_plain hgd fun _ hK => by
    unfold Oper.wp execOp
    simp only [ho, hx, Sem.run_bind, run_loadAt_one w t p v hu hd hc, Result.andThen_ok, Sem.run_pure]
    exact hK _ _ h

/-- An awaited message's entry: its block, the one link of its 'from'. -/
def ENT (w : World) (E : List Nat) (lk : Nat) (v : Value) : Prop := ∃ e g c, v = .pointer (some ⟨e, 0, none⟩) ∧ e ∈ E ∧ g ∈ E ∧ w.cell? ⟨e, 33, none⟩ = some (.slice (some ⟨g, 0, none⟩) 1 c) ∧ w.cell? ⟨g, 0, none⟩ = some (.pointer (some ⟨lk, 0, none⟩))

theorem ENT.kp {w w' : World} {E E' L : List Nat} {lk : Nat} {v : Value} (h : ENT w E lk v) (k : Kp L w w') (hE : ∀ i ∈ E, i ∉ L) (hEE : ∀ i ∈ E, i ∈ E') : ENT w' E' lk v := by
  obtain ⟨e, g, c, h1, h2, h3, h4, h5⟩ := h
  exact ⟨e, g, c, h1, hEE e h2, hEE g h3, (k.cell (p := ⟨e, 33, none⟩) (lt_of_cell h4) (hE e h2)).trans h4, (k.cell (p := ⟨g, 0, none⟩) (lt_of_cell h5) (hE g h3)).trans h5⟩

/-- The maps and the queue of what is awaited, laid: the messages us, the map bm, the counts cm, the queue sv. -/
structure AWi (w : World) (tb lk B : Nat) (us : List Int) (bm cm : Nat) (sv : Value) (f : Int → Option Value) (M E : List Nat) : Prop where
  c51 : w.cell? ⟨tb, 51, none⟩ = some (.map (some bm))
  c52 : w.cell? ⟨tb, 52, none⟩ = some sv
  c54 : w.cell? ⟨tb, 54, none⟩ = some (.map (some cm))
  mb : bm ∈ M
  mc : cm ∈ M
  ms : ∀ k, sv.ownBlock = some k → k ∈ M
  map : MF w bm us.length f
  mem : ∀ m, (f m).isSome = true ↔ m ∈ us
  ent : ∀ m v, f m = some v → ENT w E lk v
  cnt : MC w cm lk (if us = [] then none else some (us.length : Int))
  own : ∃ xs, w.ownsRow B 156 1 sv us.length xs
  n1 : bm ≠ cm
  n2 : sv.ownBlock ≠ some bm
  n3 : sv.ownBlock ≠ some cm
  ltM : ∀ i ∈ M, B ≤ i ∧ i < w.heap.size
  ltE : ∀ i ∈ E, B ≤ i ∧ i < w.heap.size
  me : ∀ i ∈ E, i ∉ M
  thaw : ∀ o, w.frozen? ⟨tb, o, none⟩ = false
  tlt : tb < B
  base : B ≤ w.heap.size

theorem AWi.kp {w w' : World} {tb lk B : Nat} {us : List Int} {bm cm : Nat} {sv : Value} {f : Int → Option Value} {M E L : List Nat} (h : AWi w tb lk B us bm cm sv f M E) (k : Kp L w w') (ht : tb ∉ L) (hM : ∀ i ∈ M, i ∉ L) (hE : ∀ i ∈ E, i ∉ L) : AWi w' tb lk B us bm cm sv f M E := by
  have bt : tb < w.heap.size := lt_of_cell h.c51
  obtain ⟨xs, ho⟩ := h.own
  exact { h with
    c51 := (k.cell (p := ⟨tb, 51, none⟩) bt ht).trans h.c51
    c52 := (k.cell (p := ⟨tb, 52, none⟩) bt ht).trans h.c52
    c54 := (k.cell (p := ⟨tb, 54, none⟩) bt ht).trans h.c54
    map := h.map.kp k (hM _ h.mb)
    ent := fun m v hv => (h.ent m v hv).kp k hE (fun _ h => h)
    cnt := h.cnt.kp k (hM _ h.mc)
    own := ⟨xs, ownsRow_of_block ho (fun i hi => k.block i (ho.lt i hi).2 (hM i (h.ms i hi)))⟩
    ltM := fun i hi => ⟨(h.ltM i hi).1, Nat.lt_of_lt_of_le (h.ltM i hi).2 k.size⟩
    ltE := fun i hi => ⟨(h.ltE i hi).1, Nat.lt_of_lt_of_le (h.ltE i hi).2 k.size⟩
    thaw := fun o => (k.frozen (p := ⟨tb, o, none⟩) bt ht).trans (h.thaw o)
    base := Nat.le_trans h.base k.size }

/-- What is awaited. -/
inductive AW (w : World) (tb lk B : Nat) : List Int → List Nat → List Nat → Prop
  | off : w.cell? ⟨tb, 51, none⟩ = some (.map none) → w.cell? ⟨tb, 52, none⟩ = some (.slice none 0 0) → w.cell? ⟨tb, 54, none⟩ = some (.map none) → (∀ o, w.frozen? ⟨tb, o, none⟩ = false) → tb < B → B ≤ w.heap.size → AW w tb lk B [] [] []
  | on {us : List Int} {bm cm : Nat} {sv : Value} {f : Int → Option Value} {M E : List Nat} : us ≠ [] → AWi w tb lk B us bm cm sv f M E → AW w tb lk B us M E

theorem AW.kp {w w' : World} {tb lk B : Nat} {us : List Int} {M E L : List Nat} (h : AW w tb lk B us M E) (k : Kp L w w') (ht : tb ∉ L) (hM : ∀ i ∈ M, i ∉ L) (hE : ∀ i ∈ E, i ∉ L) : AW w' tb lk B us M E := by
  cases h with
  | off h1 h2 h3 h4 h5 h6 =>
    have bt : tb < w.heap.size := lt_of_cell h1
    exact .off ((k.cell (p := ⟨tb, 51, none⟩) bt ht).trans h1) ((k.cell (p := ⟨tb, 52, none⟩) bt ht).trans h2) ((k.cell (p := ⟨tb, 54, none⟩) bt ht).trans h3) (fun o => (k.frozen (p := ⟨tb, o, none⟩) bt ht).trans (h4 o)) h5 (Nat.le_trans h6 k.size)
  | on hne h => exact .on hne (h.kp k ht hM hE)

theorem neq_ent (w : World) (a : Addr) : (binOp .eql 156 (.pointer (some a)) (.pointer none)).run Ybad.prog w = .ok (.bool false) w := by
  have h' : ∀ d : Nat, (Op.equalIn (d + 1) 156 (.pointer (some a)) (.pointer none)).run Ybad.prog w = .ok false w := fun d => by
    simp [Op.equalIn, run_underlying Ybad.underlying156]
  simp [binOp, Op.equal, Op.maxDepth, h' 9999]

set_option maxRecDepth 20000 in
set_option maxHeartbeats 1600000 in
/-- A message awaited already, announced on the same link again. -/
theorem announce_again (tb lk B : Nat) (us : List Int) (M E : List Nat) (m hops : Int) (w : World) (h0 : 0 ≤ m) (h1 : m < 16) (h : AW w tb lk B us M E) (hm : m ∈ us) (hlen : us.length < 4096) :
    Calls Ybad.prog 32 #[.pointer (some ⟨tb, 51, none⟩), .pointer (some ⟨lk, 0, none⟩), .agg (idc m).toArray, .int .i64 hops, .agg #[.int .u64 0, .int .i64 0, .pointer none]] w fun e w' => e = .returned (.bool false) ∧ Kp [] w w' := by
  obtain ⟨K0, r0, r1, hs⟩ := id_box w m
  cases h with
  | off => simp at hm
  | @on _ bm cm sv f _ _ hne h =>
  have h' := h.kp K0 (by simp) (by simp) (by simp)
  have c54 := h'.c54
  clear h
  have hl := h'.cnt.look
  rw [if_neg hne, Option.getD_some] at hl
  have hge : ¬ 4096 ≤ (us.length : Int) := by omega
  generalize (us.length : Int) = ul at hl hge
  have HL : Hid ((Instr.lookup 57 (.map (some cm)) (.pointer (some ⟨lk, 0, none⟩)) false).run Ybad.prog ((w.alloc (.cells (idc m).toArray 97)).alloc (.cells #[.int .u64 0, .int .i64 0, .pointer none] 43)) = .ok (.int .i64 ul) ((w.alloc (.cells (idc m).toArray 97)).alloc (.cells #[.int .u64 0, .int .i64 0, .pointer none] 43))) := hl
  clear hl
  go_enter Ybad.func32, Ybad.ntmps32
  go_wp2_with (first
    | (refine wpList_load_one rfl 57 rfl rfl (.map (some cm)) Ybad.underlying57 rfl c54 ?_)
    | (refine wpList_lookup rfl rfl rfl rfl _ HL.out ?_))
  clear HL c54
  generalize ((w.alloc (.cells (idc m).toArray 97)).alloc (.cells #[.int .u64 0, .int .i64 0, .pointer none] 43)) = W at *
  have bt : tb < W.heap.size := lt_of_cell h'.c51
  obtain ⟨v, hv⟩ := Option.isSome_iff_exists.1 ((h'.mem m).2 hm)
  obtain ⟨e, g, c, rfl, _, _, e1, e2⟩ := h'.ent m v hv
  refine wp_region_kp (by kernel_rfl) (by kernel_rfl) ?_
  go_big_quiet_want
  go_big_quiet_op
  first | go_big_quiet_on | (refine ⟨_, fun _ _ => rfl, ?_⟩; go_big_quiet_on)
  go_big_quiet_want
  go_big_quiet_op
  first | go_big_quiet_on | (refine ⟨_, fun _ _ => rfl, ?_⟩; go_big_quiet_on)
  go_big_quiet_want
  go_big_quiet_op
  first | go_big_quiet_on | (refine ⟨_, fun _ _ => rfl, ?_⟩; go_big_quiet_on)
  go_big_quiet_want
  refine quiet_load_one 55 rfl rfl (.map (some bm)) Ybad.underlying55 rfl (fun w' k => (k.cell bt (by simp)).trans h'.c51) ?_
  simp only [Act.put, List.setIfInBounds_toArray, List.set_cons_zero, List.set_cons_succ]
  go_big_quiet_on
  go_big_quiet_want
  refine quiet_load_mid 97 rfl rfl (idc m) Ybad.underlying97 rfl (size97i m) (fun w' k => range_kp r0 k (by omega)) ?_
  simp only [Act.put, List.setIfInBounds_toArray, List.set_cons_zero, List.set_cons_succ]
  go_big_quiet_on
  go_big_quiet_want
  refine quiet_lookup rfl rfl rfl _ (fun w' k => (h'.map.kp k (by simp)).look h0 h1 Ybad.underlying55 (zero156 w')) ?_
  simp only [Act.put, List.setIfInBounds_toArray, List.set_cons_zero, List.set_cons_succ]
  go_big_quiet_on
  go_big_quiet_want
  go_big_quiet_op
  first | go_big_quiet_on | (refine ⟨_, fun _ _ => rfl, ?_⟩; go_big_quiet_on)
  refine wpQuiet_nil ?_
  intro w2 K2
  simp only [hv, Option.getD_some]
  have q1 := fun w => neq_ent w ⟨e, 0, none⟩
  have d1 := (K2.cell (p := ⟨e, 33, none⟩) (lt_of_cell e1) (by simp)).trans e1
  have d2 := (K2.cell (p := ⟨g, 0, none⟩) (lt_of_cell e2) (by simp)).trans e2
  clear e1 e2
  go_wp2_with (first
    | (go_at_call 44; refine (contains_one g c lk _ d2).mono ?_; rintro e w3 ⟨rfl, rfl⟩))
  go_ret
  exact ⟨rfl, K0.trans K2⟩

end Go.Proofs.YbulkdaeyDoor
