import Derived.Test.YbulkdaeyDoorLoop
/-
  TakeAnnounce.
-/
namespace Go.Proofs.YbulkdaeyDoor
open Go.RowKit Go.BigFrame Go.MuLone
set_option linter.unusedSimpArgs false

theorem look_links7 {w : World} {mb : Nat} {es : Array MapEntry} {c : Nat} (h : w.heap[mb]? = some (.map es c)) {a : Option (Nat × Value)}
    (hf : Instr.findNow (.int .i64) (.int .i64 7) es.toList 0 = some a) :
    (Instr.lookup 37 (.map (some mb)) (.int .i64 7) false).run Ybad.prog w = .ok ((a.map (·.2)).getD (.pointer none)) w := by
  have e1 := MapKept.run_checkKey (P := Ybad.prog) (w := w) und3 (k := .int .i64 7) (by simp [MapKept.IsKey]) es.isEmpty 9999
  have e2 := MapKept.run_findKey (P := Ybad.prog) (w := w) und3 hf
  have e3 := MapKept.run_getObj_map (P := Ybad.prog) h
  simp only [Nat.reduceAdd] at e1
  unfold Instr.lookup
  cases a with
  | none => simp [run_und und37, e1, e2, e3, go_sem]
  | some p => simp [run_und und37, e1, e2, e3, go_sem]

/-- The door: the deferred Unlock. -/
theorem door13 {R : Ending → World → Prop} {a : Act} {w : World} {tb : Nat} (u v x : Value) (hd : a.defers = [⟨.fn (.func 16) #[], #[.pointer (some ⟨tb, 33, none⟩)]⟩]) (h8 : a.tmps.getD 8 undef = u) (h9 : a.tmps.getD 9 undef = v) (h10 : a.tmps.getD 10 undef = x)
    (hc : w.cell? ⟨tb, 33, none⟩ = some (.int .i32 1)) (hz : w.frozen? ⟨tb, 33, none⟩ = false) (hR : R (.returned (.tuple #[u, v, x])) (w.setCell ⟨tb, 33, none⟩ (.int .i32 0))) : bodyPostD Ybad.prog Ybad.f13 R .ret a w := by
  obtain ⟨tmps, ds⟩ := a
  simp only at hd h8 h9 h10
  subst hd h8 h9 h10
  refine leaves_cons (f := 16) (args := #[.pointer (some ⟨tb, 33, none⟩)]) (by simp) (by simp [go_sem]) ?_
  refine (unlock_deferred Ybad.muLib ⟨tb, 33, none⟩ .returning _ hc hz).mono ?_
  rintro e u' w'' ⟨rfl, rfl, rfl⟩
  exact ⟨_, results_tmp3 rfl _ _ _, hR⟩

/-- What TakeAnnounce finds. -/
structure TA (w : World) (tb lk fb sb nb mb : Nat) (nbv : Value) (bf : Int) (sn : Nat) (pl : Int → Option Int) (ns : List (Int × Int)) : Prop where
  tt : TT w tb lk fb sb nb 0 nbv bf 0 sn pl ns
  ap : Ap tb lk fb sb nb w.heap.size
  links : w.cell? ⟨tb, 35, none⟩ = some (.map (some mb))
  look : ∃ es c i, w.heap[mb]? = some (.map es c) ∧ Instr.findNow (.int .i64) (.int .i64 7) es.toList 0 = some (some (i, .pointer (some ⟨lk, 0, none⟩)))
  tree : w.cell? ⟨lk, 1, none⟩ = some (.bool true)
  c51 : w.cell? ⟨tb, 51, none⟩ = some (.map none)
  c52 : w.cell? ⟨tb, 52, none⟩ = some (.slice none 0 0)
  c54 : w.cell? ⟨tb, 54, none⟩ = some (.map none)
  thaw : ∀ o, w.frozen? ⟨tb, o, none⟩ = false
  small : ns.length ≤ 1024
  msgs : ∀ p ∈ ns, 0 ≤ p.1 ∧ p.1 < 16
  mbt : mb ≠ tb

/-- Behind the box and the lock. -/
theorem TA.locked {w w1 : World} {tb lk fb sb nb mb sn : Nat} {nbv : Value} {bf : Int} {pl : Int → Option Int} {ns : List (Int × Int)} (h : TA w tb lk fb sb nb mb nbv bf sn pl ns) (hl : Locked (w.alloc (.cells #[.int .u64 0, .int .i64 0, .pointer none] 43)) w1 tb 1) :
    TT w1 tb lk fb sb nb 1 nbv bf 0 sn pl ns ∧ AW w1 tb lk (w.heap.size + 1) [] [] [] ∧ Kp [tb] w w1 ∧ w1.heap.size = w.heap.size + 1 ∧ w1.rangeAt w.heap.size 0 [.int .u64 0, .int .i64 0, .pointer none] ∧ w1.cell? ⟨tb, 35, none⟩ = some (.map (some mb)) ∧ (Instr.lookup 37 (.map (some mb)) (.int .i64 7) false).run Ybad.prog w1 = .ok (.pointer (some ⟨lk, 0, none⟩)) w1 ∧ w1.cell? ⟨lk, 1, none⟩ = some (.bool true) := by
  have a := h.ap
  have bt := a.t
  have K0 : Kp [] w (w.alloc (.cells #[.int .u64 0, .int .i64 0, .pointer none] 43)) := (Kp.refl _ w).alloc _
  have hs0 : (w.alloc (.cells #[.int .u64 0, .int .i64 0, .pointer none] 43)).heap.size = w.heap.size + 1 := by simp
  have r0 := range_new w [.int .u64 0, .int .i64 0, .pointer none] 43
  have t0 := h.tt.kp K0 (by simp) (by simp) (by simp) (by simp) (by simp)
  have P : Put1 (w.alloc (.cells #[.int .u64 0, .int .i64 0, .pointer none] 43)) w1 tb 33 (.int .i32 1) := by rw [hl.eq]; exact Put1.mk' _ t0.mu
  generalize w.alloc (.cells #[.int .u64 0, .int .i64 0, .pointer none] 43) = W at *
  have hs := P.size
  have k1 : Kp [tb] w w1 := (K0.mono (by simp)).trans P.kp
  have e : ∀ o, o ≠ 33 → w1.cell? ⟨tb, o, none⟩ = w.cell? ⟨tb, o, none⟩ := fun o ho => (P.other o ho).trans (K0.cell (p := ⟨tb, o, none⟩) bt (by simp))
  have e2 : ∀ o, w1.cell? ⟨lk, o, none⟩ = w.cell? ⟨lk, o, none⟩ := fun o => k1.cell (p := ⟨lk, o, none⟩) a.l (by simpa using Ne.symm a.tl)
  have ff : ∀ o, w1.frozen? ⟨tb, o, none⟩ = false := fun o => (P.thaw _).trans ((K0.frozen (p := ⟨tb, o, none⟩) bt (by simp)).trans (h.thaw o))
  have nt := h.tt
  obtain ⟨es, c, i, hm, hf⟩ := h.look
  refine ⟨⟨(e 32 (by omega)).trans nt.fr, P.same, (e 38 (by omega)).trans nt.cur, (e 39 (by omega)).trans nt.prev, fun j v hv => ?_, (e 44 (by omega)).trans nt.held, (e 62 (by omega)).trans nt.snd, nt.map.kp k1 (by simpa using Ne.symm a.ts), (e2 0).trans nt.hd, (e2 4).trans nt.nbh, (e2 5).trans nt.bef, (k1.cell (p := ⟨fb, 0, none⟩) a.f (by simpa using Ne.symm a.tf)).trans nt.calls, (k1.frozen (p := ⟨fb, 0, none⟩) a.f (by simpa using Ne.symm a.tf)).trans nt.cfz, nt.names.kpL k1 (by simpa using Ne.symm a.tn), Nat.lt_of_lt_of_le nt.nlt k1.size⟩,
    .off ((e 51 (by omega)).trans h.c51) ((e 52 (by omega)).trans h.c52) ((e 54 (by omega)).trans h.c54) ff (by omega) (by omega), k1, by omega, P.kp.range r0 (by omega) (by simp; omega), (e 35 (by omega)).trans h.links, look_links7 ((k1.block mb (Array.getElem?_eq_some_iff.1 hm).1 (by simpa using h.mbt)).trans hm) hf, (e2 1).trans h.tree⟩
  have hj : j < 3 := (List.getElem?_eq_some_iff.1 hv).1
  exact (e (41 + j) (by omega)).trans (nt.beg j v hv)

theorem Ap.up {tb lk fb sb nb B : Nat} (h : Ap tb lk fb sb nb B) : Ap tb lk fb sb nb (B + 1) :=
  { h with t := by have := h.t; omega, l := by have := h.l; omega, f := by have := h.f; omega, s := by have := h.s; omega, n := by have := h.n; omega }
theorem LP.start {w w1 w3 Wx : World} {tb lk fb sb nb sn : Nat} {nbv : Value} {bf : Int} {pl : Int → Option Int} {ns : List (Int × Int)} (T : TT w1 tb lk fb sb nb 1 nbv bf 0 sn pl ns) (A : AW w1 tb lk (w.heap.size + 1) [] [] []) (k : Kp [tb] w w1) (hs : w1.heap.size = w.heap.size + 1) (r : w1.rangeAt w.heap.size 0 [.int .u64 0, .int .i64 0, .pointer none])
    (K3 : Kp [] w1 w3) (N : New1 w3 Wx (.cells #[.slice none 0 0] 116)) (a : Ap tb lk fb sb nb w.heap.size) : LP w Wx tb lk fb sb nb w.heap.size w3.heap.size (w.heap.size + 1) nbv bf sn pl ns [] [] (.slice none 0 0) [] [] := by
  have K := K3.trans N.kp
  have s3 := K3.size
  have := a.t
  have := a.f
  exact ⟨by simpa using T.kp K (by simp) (by simp) (by simp) (by simp) (by simp), A.kp K (by simp) (by simp) (by simp), by simpa using BXA.new w3 N (by omega), range_kp r K (by omega), by omega, .inl ⟨rfl, rfl⟩, (k.mono (by simp)).trans (K.mono (by simp)), by omega, by omega, by omega, by omega⟩

theorem kp_setC (b : Nat) : ∀ (vs : List Value) (o : Nat) (w : World), Kp [b] w (w.setCells b o vs)
  | [], _, w => Kp.refl _ w
  | v :: vs, o, w => ((Kp.refl [b] w).setCell (p := ⟨b, o, none⟩) (by simp) v).trans (kp_setC b vs (o + 1) _)
theorem size_setC (b : Nat) : ∀ (vs : List Value) (o : Nat) (w : World), (w.setCells b o vs).heap.size = w.heap.size
  | [], _, _ => rfl
  | v :: vs, o, w => (size_setC b vs (o + 1) _).trans (by simp [World.setCell])
theorem enter30 (args : Array Value) (w : World) : (callFunc 30 args).run Ybad.prog w = .ok (.enter 30 args) w := by go_simp
theorem enter31 (args : Array Value) (w : World) : (callFunc 31 args).run Ybad.prog w = .ok (.enter 31 args) w := by go_simp
theorem LP.own_lt {w0 w : World} {tb lk fb sb nb bx ob B sn : Nat} {nbv : Value} {bf : Int} {pl : Int → Option Int} {ns : List (Int × Int)} {us : List Int} {l : List (Int × List Int)} {sv : Value} {M E : List Nat} (h : LP w0 w tb lk fb sb nb bx ob B nbv bf sn pl ns us l sv M E) : ∀ i ∈ (ob :: sv.ownBlock.toList), i < w.heap.size := fun i hi => by
  rcases List.mem_cons.1 hi with rfl | hi
  · exact h.bxa.obl
  · obtain ⟨xs, ho, _⟩ := h.bxa
    cases hs : sv.ownBlock with
    | none => simp [hs] at hi
    | some k => simp [hs] at hi; subst hi; exact (ho.own.lt _ hs).2
/-- Behind the Unlock. -/
theorem LP.finish {w0 w w' : World} {tb lk fb sb nb bx ob B sn : Nat} {nbv : Value} {bf : Int} {pl : Int → Option Int} {ns : List (Int × Int)} {us : List Int} {l : List (Int × List Int)} {sv : Value} {M E : List Nat} (h : LP w0 w tb lk fb sb nb bx ob B nbv bf sn pl ns us l sv M E) (a : Ap tb lk fb sb nb B) (P : Put1 w w' tb 33 (.int .i32 0)) :
    ∃ sv' M E, Ending.returned (.tuple #[sv, .bool (us.length != 0), .nilIface]) = .returned (.tuple #[sv', .bool (us.length != 0), .nilIface]) ∧ Sent w' sv' l ∧ TT w' tb lk fb sb nb 0 nbv bf (l.length : Int) sn pl ns ∧ AW w' tb lk B us M E ∧ Kp [tb, fb] w0 w' := by
  have hb := h.aw.base
  have hlt := h.aw.lt
  have k := P.kp
  have bt : tb < w.heap.size := lt_of_cell h.tt.fr
  have nt := h.tt
  have e : ∀ o, o ≠ 33 → w'.cell? ⟨tb, o, none⟩ = w.cell? ⟨tb, o, none⟩ := P.other
  have bl : lk < w.heap.size := lt_of_cell nt.hd
  have bf' : fb < w.heap.size := lt_of_cell nt.calls
  have e2 : ∀ o, w'.cell? ⟨lk, o, none⟩ = w.cell? ⟨lk, o, none⟩ := fun o => k.cell (p := ⟨lk, o, none⟩) bl (by simpa using Ne.symm a.tl)
  refine ⟨sv, M, E, rfl, ?_, ⟨(e 32 (by omega)).trans nt.fr, P.same, (e 38 (by omega)).trans nt.cur, (e 39 (by omega)).trans nt.prev, fun j v hv => ?_, (e 44 (by omega)).trans nt.held, (e 62 (by omega)).trans nt.snd, nt.map.kp k (by simpa using Ne.symm a.ts), (e2 0).trans nt.hd, (e2 4).trans nt.nbh, (e2 5).trans nt.bef, (k.cell (p := ⟨fb, 0, none⟩) bf' (by simpa using Ne.symm a.tf)).trans nt.calls, (k.frozen (p := ⟨fb, 0, none⟩) bf' (by simpa using Ne.symm a.tf)).trans nt.cfz, nt.names.kpL k (by simpa using Ne.symm a.tn), Nat.lt_of_lt_of_le nt.nlt k.size⟩, ?_, h.kp.through k (fun i hi => .inl (by simp at hi; simp [hi]))⟩
  · have X := h.bxa.kp k (A' := M ++ E) (fun i hi hB => by simp at hi; subst hi; have := a.t; omega) (fun i hi => .inl hi)
    rcases h.shape with ⟨h1, h2⟩ | ⟨gg, c, h1⟩
    · exact .inl ⟨h1, h2⟩
    · subst h1
      exact .inr X.sent
  · have hj : j < 3 := (List.getElem?_eq_some_iff.1 hv).1
    exact (e (41 + j) (by omega)).trans (nt.beg j v hv)
  · have hA := h.aw
    cases hA with
    | off h1 h2 h3 h4 h5 h6 => exact .off ((e 51 (by omega)).trans h1) ((e 52 (by omega)).trans h2) ((e 54 (by omega)).trans h3) (fun o => (P.thaw _).trans (h4 o)) h5 (by have := P.size; omega)
    | on hne hA =>
      have hM : ∀ i ∈ M ++ E, i ∉ [tb] := fun i hi hm => by simp at hm; subst hm; have := (hlt i hi).1; omega
      obtain ⟨xs, ho⟩ := hA.own
      exact .on hne { hA with
        c51 := (e 51 (by omega)).trans hA.c51
        c52 := (e 52 (by omega)).trans hA.c52
        c54 := (e 54 (by omega)).trans hA.c54
        map := hA.map.kp k (hM _ (List.mem_append_left _ hA.mb))
        ent := fun m v hv => (hA.ent m v hv).kp k (fun i hi => hM i (List.mem_append_right _ hi)) (fun _ h => h)
        cnt := hA.cnt.kp k (hM _ (List.mem_append_left _ hA.mc))
        own := ⟨xs, ownsRow_of_block ho (fun i hi => k.block i (ho.lt i hi).2 (hM i (List.mem_append_left _ (hA.ms i hi))))⟩
        ltM := fun i hi => ⟨(hA.ltM i hi).1, Nat.lt_of_lt_of_le (hA.ltM i hi).2 k.size⟩
        ltE := fun i hi => ⟨(hA.ltE i hi).1, Nat.lt_of_lt_of_le (hA.ltE i hi).2 k.size⟩
        thaw := fun o => (P.thaw _).trans (hA.thaw o)
        base := Nat.le_trans hA.base k.size }
def z99 : Array Value := (List.replicate 32 (Value.int .u8 0) ++ [Value.int .u64 0, Value.int .i64 0]).toArray
theorem alloc99 (w : World) : (Instr.alloc 99 true (.tuple #[])).run Ybad.prog w = .ok (.pointer (some ⟨w.heap.size, 0, none⟩)) (w.alloc (.cells z99 99)) := by
  rw [show z99 = #[.int .u8 0, .int .u8 0, .int .u8 0, .int .u8 0, .int .u8 0, .int .u8 0, .int .u8 0, .int .u8 0, .int .u8 0, .int .u8 0, .int .u8 0, .int .u8 0, .int .u8 0, .int .u8 0, .int .u8 0, .int .u8 0, .int .u8 0, .int .u8 0, .int .u8 0, .int .u8 0, .int .u8 0, .int .u8 0, .int .u8 0, .int .u8 0, .int .u8 0, .int .u8 0, .int .u8 0, .int .u8 0, .int .u8 0, .int .u8 0, .int .u8 0, .int .u8 0, .int .u64 0, .int .i64 0] from rfl]
  simp [go_sem]
theorem wpList_var {ops : Array Oper} {rest : List Oper} {op : Oper} {a : Act} {w : World} {Q : Exit → Act → World → Prop} (hgd : op.guard = none) (t : TypeId) (ho : op.op = .alloc t) (S : Array Value) (hr : ∀ w, (Instr.alloc t true (.tuple #[])).run Ybad.prog w = .ok (.pointer (some ⟨w.heap.size, 0, none⟩)) (w.alloc (.cells S t)))
    (h : ∀ w', New1 w w' (.cells S t) → wpList Ybad.prog ops Q rest (a.put op.dst (.pointer (some ⟨w.heap.size, 0, none⟩))) w') : wpList Ybad.prog ops Q (op :: rest) a w :=
  wpList_plain hgd fun _ hK => by
    unfold Oper.wp execOp
    simp only [ho, Sem.run_bind, hr w, Result.andThen_ok, Sem.run_pure]
    exact hK _ _ (h _ (New1.mk' w _))
theorem wpList_putRow {ops : Array Oper} {rest : List Oper} {op : Oper} {a : Act} {w : World} {Q : Exit → Act → World → Prop} (hgd : op.guard = none) (t : TypeId) {x y : Operand} (ho : op.op = .store t x y) {b o : Nat} (cs : List Value) (hx : a.eval x = .pointer (some ⟨b, o, none⟩)) (hy : a.eval y = .agg cs.toArray)
    (ht : w.there b o cs.length) (hi : (Ybad.prog.info? t).map (·.size) = some cs.length) (h1 : ∀ v ∈ cs, v.oneCell' = true) (h : ∀ w', Kp [b] w w' → w'.rangeAt b o cs → w'.heap.size = w.heap.size → wpList Ybad.prog ops Q rest (a.put op.dst undef) w') : wpList Ybad.prog ops Q (op :: rest) a w := by
  refine wpList_store_mid hgd t x y ho b o cs.toArray hx hy (by simpa using ht) (by simpa using hi) (all_oneCell_toArray h1) ?_
  have k := kp_setC b cs o w
  have hs := size_setC b cs o w
  simpa using h _ (by simpa using k) (by simpa using World.rangeAt_setCells_same _ _ _ _ ht) (by simpa using hs)
theorem alloc139 (w : World) : (Instr.alloc 139 true (.tuple #[])).run Ybad.prog w = .ok (.pointer (some ⟨w.heap.size, 0, none⟩)) (w.alloc (.cells #[.pointer none, .pointer none] 139)) := by simp [go_sem]
theorem size139 : (Ybad.prog.info? 139).map (·.size) = some 2 := by kernel_rfl
theorem there139 {w w' : World} (N : New1 w w' (.cells #[.pointer none, .pointer none] 139)) : w'.there w.heap.size 0 2 := by
  intro j hj
  refine ⟨?_, Plain.thaw ⟨_, _, N.at'⟩ _⟩
  simp [World.cell?, N.at']
  omega
theorem there.kp0 {w w' : World} {b n : Nat} (h : w.there b 0 n) (k : Kp [] w w') (hb : b < w.heap.size) : w'.there b 0 n := fun j hj => by
  rw [k.cell (p := ⟨b, 0 + j, none⟩) hb (by simp), k.frozen (p := ⟨b, 0 + j, none⟩) hb (by simp)]
  exact h j hj
theorem wp_var {op : Oper} {a : Act} {w : World} {K : Act → World → Prop} {Q : Exit → Act → World → Prop} (t : TypeId) {S : Array Value} (ho : op.op = .alloc t) (hr : ∀ w, (Instr.alloc t true (.tuple #[])).run Ybad.prog w = .ok (.pointer (some ⟨w.heap.size, 0, none⟩)) (w.alloc (.cells S t)))
    (h : ∀ w', New1 w w' (.cells S t) → K (a.put op.dst (.pointer (some ⟨w.heap.size, 0, none⟩))) w') : op.wp Ybad.prog a w K Q := by
  unfold Oper.wp execOp
  simp only [ho, Sem.run_bind, hr w, Result.andThen_ok, Sem.run_pure]
  exact h _ (New1.mk' w _)
theorem wp_putRow {op : Oper} {a : Act} {w : World} {K : Act → World → Prop} {Q : Exit → Act → World → Prop} (t : TypeId) {x y : Operand} {b o : Nat} (cs : List Value) (ho : op.op = .store t x y) (hx : a.eval x = .pointer (some ⟨b, o, none⟩)) (hy : a.eval y = .agg cs.toArray)
    (ht : w.there b o cs.length) (hi : (Ybad.prog.info? t).map (·.size) = some cs.length) (h1 : ∀ v ∈ cs, v.oneCell' = true) (h : ∀ w', Kp [b] w w' → K (a.put op.dst undef) w') : op.wp Ybad.prog a w K Q := by
  refine wp_store_mid t x y ho b o cs.toArray hx hy (by simpa using ht) (by simpa using hi) (all_oneCell_toArray h1) ?_
  simpa using h _ (by simpa using kp_setC b cs o w)
theorem z99_size : z99.size = 34 := by rfl
theorem there99 {w w' : World} (N : New1 w w' (.cells z99 99)) (m h : Int) : w'.there w.heap.size 0 (nmc m h).length := by
  rw [nmc_len]
  intro j hj
  refine ⟨?_, Plain.thaw ⟨_, _, N.at'⟩ _⟩
  simp [World.cell?, N.at', z99_size]
  omega
theorem nmc_one (m h : Int) : ∀ v ∈ nmc m h, v.oneCell' = true := by
  intro v hv
  simp only [nmc, idc, List.mem_append, List.mem_singleton] at hv
  rcases hv with (hv | rfl) | rfl
  · exact kcl_one key1 v hv
  · rfl
  · rfl

set_option maxRecDepth 20000 in
set_option maxHeartbeats 6400000 in
theorem takeAnn (tb lk fb sb nb mb sn n : Nat) (keeps : Bool) (nbv : Value) (bf : Int) (pl : Int → Option Int) (ns : List (Int × Int)) (w : World) (h : TA w tb lk fb sb nb mb nbv bf sn pl ns) (hn : ns.length = n)
    (hk : (keeps = true ∧ ∃ a, nbv = .pointer (some a)) ∨ (keeps = false ∧ nbv = .pointer none ∧ ¬ AnyHop ns)) :
    Calls Ybad.prog 13 #[.pointer (some ⟨tb, 0, none⟩), .int .i64 7, .slice (some ⟨nb, 0, none⟩) n n, .agg #[.int .u64 0, .int .i64 0, .pointer none]] w fun e w' =>
      ∃ sv M E, e = .returned (.tuple #[sv, .bool ((ns.foldl (stepA pl bf keeps) ([], [])).1.length != 0), .nilIface]) ∧ Sent w' sv (ns.foldl (stepA pl bf keeps) ([], [])).2 ∧ TT w' tb lk fb sb nb 0 nbv bf ((ns.foldl (stepA pl bf keeps) ([], [])).2.length : Int) sn pl ns ∧
        AW w' tb lk (w.heap.size + 1) (ns.foldl (stepA pl bf keeps) ([], [])).1 M E ∧ Kp [tb, fb] w w' := by
  have a := h.ap
  have bt := a.t
  have small := h.small
  have msgs : Hid (∀ p ∈ ns, 0 ≤ p.1 ∧ p.1 < 16) := h.msgs
  have K0 : Kp [] w (w.alloc (.cells #[.int .u64 0, .int .i64 0, .pointer none] 43)) := (Kp.refl _ w).alloc _
  have hlen : (n : Int) ≤ 1024 := by omega
  go_enter_defers Ybad.func13, Ybad.ntmps13
  go_wp2_with (first
    | (go_at_call 15; refine (lock_any tb _ ((K0.cell (p := ⟨tb, 33, none⟩) bt (by simp)).trans h.tt.mu) ((K0.frozen (p := ⟨tb, 33, none⟩) bt (by simp)).trans (h.thaw 33))).mono ?_; rintro e w1 ⟨rfl, hw1⟩; obtain ⟨T1, A1, k1, hs1, r1, ht1, hl1, tr1⟩ := h.locked hw1; have HS1 : Hid (w1.heap.size = w.heap.size + 1) := hs1; clear hw1 hs1)
    | (go_at_call 17; refine (treeLink7 tb mb lk _ ht1 hl1 tr1).mono ?_; rintro e w2 ⟨rfl, rfl⟩; refine Hid.out ?_))
  refine Lib.hid ?_
  clear ht1 hl1 tr1 K0
  have nbh := T1.nbh
  rcases hk with ⟨rfl, na, rfl⟩ | ⟨rfl, rfl, hno⟩
  case inl =>
    go_wp2_with (first
      | (go_at_call 27; refine (keeps_some lk na _ nbh).mono ?_; rintro e w3 ⟨rfl, rfl⟩))
    have K3 : Kp [] w3 w3 := Kp.refl _ _
    have N := New1.mk' w3 (.cells #[.slice none 0 0] 116)
    have hs3 := K3.size
    have L0 := LP.start T1 A1 k1 HS1.out r1 K3 N a
    generalize w3.alloc (.cells #[.slice none 0 0] 116) = Wx at *
    obtain ⟨ob, hob⟩ : ∃ ob, ob = w3.heap.size := ⟨_, rfl⟩
    rw [← hob]
    rw [← hob] at L0
    clear T1 A1 r1 K3 N nbh hs3 hob HS1 k1
    have aB : Ap tb lk fb sb nb (w.heap.size + 1) := a.up
    clear a bt h
    go_loopw [48, 9] (fun i wk wr => ∃ (k : Nat) (us : List Int) (l : List (Int × List Int)) (sv : Value) (M E : List Nat), k ≤ n ∧ i = .int .i64 k ∧ wk = .bool (us.length != 0) ∧ us.length ≤ k ∧ l.length ≤ k ∧ Hid ((ns.take k).foldl (stepA pl bf true) ([], []) = (us, l)) ∧ LP w wr tb lk fb sb nb w.heap.size ob (w.heap.size + 1) (.pointer (some na)) bf sn pl ns us l sv M E) (fun i _ _ => n - (intOf i).toNat)
    case atStart => exact ⟨0, [], [], _, _, _, by omega, rfl, rfl, by simp, by simp, rfl, L0⟩
    case round =>
      clear L0
      obtain ⟨k, us, l, sv, M, E, hk, rfl, rfl, hus, hll, hfold, L⟩ := hrel
      have hlb := L.bxa.obl
      by_cases hlt : k < n
      · have hr := L.tt.names k (by omega)
        have hmem : ns[k] ∈ ns := List.getElem_mem _
        obtain ⟨m0, m1⟩ := msgs.out _ hmem
        have hstep : Hid ((ns.take (k + 1)).foldl (stepA pl bf true) ([], []) = stepA pl bf true (us, l) ns[k]) := by
          show _ = _
          rw [List.take_succ_eq_append_getElem (by omega), List.foldl_append, hfold.out]
          rfl
        clear hmem hfold
        generalize ns[k] = nm at *
        obtain ⟨m, hop⟩ := nm
        have hlt' : (k : Int) < n := by omega
        go_wp2_with (first
          | (refine wpList_load_mid rfl 99 _ rfl _ _ rfl (nmc m hop) _ hr Ybad.underlying99 rfl (size99i _ _) ?_)
          | (refine wpList_var rfl 99 rfl z99 alloc99 ?_; intro w4 N4)
          | (refine wpList_putRow rfl 99 rfl (b := wr.heap.size) (o := 0) (nmc m hop) rfl rfl (there99 N4 m hop) (size99i _ _) (nmc_one _ _) ?_; intro w5 K5 V5 s5; refine Hid.out ?_))
        refine Lib.hid ?_
        have K45 : Kp [] wr w5 := N4.kp.news K5 (by simp)
        have s4 := N4.size
        have L5 := L.kp0 K45
        have hvb : wr.heap.size < w5.heap.size := by omega
        obtain ⟨vb, hvbe⟩ : ∃ vb, vb = wr.heap.size := ⟨_, rfl⟩
        have fresh : ∀ i, i < wr.heap.size → i ≠ vb := fun i hi => by omega
        have AF : ∀ i ∈ M ++ E, i ≠ vb := fun i hi => fresh i (L.aw.lt i hi).2
        have OF : ∀ i ∈ (ob :: sv.ownBlock.toList), i ≠ vb := fun i hi => fresh i (L.own_lt i hi)
        have vB : w.heap.size + 1 ≤ vb := by have := L.aw.base.1; omega
        rw [← hvbe] at V5 hvb
        rw [← hvbe]
        clear N4 K5 K45 s4 s5 hr L hlb fresh hvbe
        go_wp2_with fail
        refine wp_region_kp (by kernel_rfl) (by kernel_rfl) ?_
        go_big_quiet_want
        go_big_quiet_op
        first | go_big_quiet_on | (refine ⟨_, fun _ _ => rfl, ?_⟩; go_big_quiet_on)
        go_big_quiet_want
        go_big_quiet_op
        first | go_big_quiet_on | (refine ⟨_, fun _ _ => rfl, ?_⟩; go_big_quiet_on)
        go_big_quiet_want
        go_big_quiet_op
        first | go_big_quiet_on | (refine ⟨_, fun _ _ => rfl, ?_⟩; go_big_quiet_on)
        go_big_quiet_want
        go_big_quiet_op
        first | go_big_quiet_on | (refine ⟨_, fun _ _ => rfl, ?_⟩; go_big_quiet_on)
        go_big_quiet_want
        refine quiet_load_mid 97 rfl rfl (idc m) Ybad.underlying97 rfl (size97i m) (fun w' k => range_kp (range_pre V5) k hvb) ?_
        simp only [Act.put, List.setIfInBounds_toArray, List.set_cons_zero, List.set_cons_succ]
        go_big_quiet_on
        go_big_quiet_want
        go_big_quiet_op
        first | go_big_quiet_on | (refine ⟨_, fun _ _ => rfl, ?_⟩; go_big_quiet_on)
        go_big_quiet_want
        refine quiet_call 30 _ _ rfl rfl (enter30 _) (fun w' k => (answered_any tb lk m w' m0 m1 (L5.kp0 k).tt.held).mono (fun e w'' h => ⟨h.1, k.trans h.2⟩)) ?_
        simp only [Act.put, List.setIfInBounds_toArray, List.set_cons_zero, List.set_cons_succ]
        go_big_quiet_on
        refine wpQuiet_nil ?_
        intro w6 K6
        have L6 := L5.kp0 K6
        have V6 := range_kp V5 K6 hvb
        have hvb6 : vb < w6.heap.size := Nat.lt_of_lt_of_le hvb K6.size
        have bxl : w.heap.size < w6.heap.size := by have := L6.aw.base.1; omega
        clear L5 V5 hvb K6
        go_wp2_with fail
        refine wp_region_kp (by kernel_rfl) (by kernel_rfl) ?_
        go_big_quiet_want
        go_big_quiet_op
        first | go_big_quiet_on | (refine ⟨_, fun _ _ => rfl, ?_⟩; go_big_quiet_on)
        go_big_quiet_want
        go_big_quiet_op
        first | go_big_quiet_on | (refine ⟨_, fun _ _ => rfl, ?_⟩; go_big_quiet_on)
        go_big_quiet_want
        go_big_quiet_op
        first | go_big_quiet_on | (refine ⟨_, fun _ _ => rfl, ?_⟩; go_big_quiet_on)
        go_big_quiet_want
        go_big_quiet_op
        first | go_big_quiet_on | (refine ⟨_, fun _ _ => rfl, ?_⟩; go_big_quiet_on)
        go_big_quiet_want
        refine quiet_load_mid 97 rfl rfl (idc m) Ybad.underlying97 rfl (size97i m) (fun w' k => range_kp (range_pre V6) k hvb6) ?_
        simp only [Act.put, List.setIfInBounds_toArray, List.set_cons_zero, List.set_cons_succ]
        go_big_quiet_on
        go_big_quiet_want
        refine quiet_load_mid 43 rfl rfl [.int .u64 0, .int .i64 0, .pointer none] Ybad.underlying43 rfl size43 (fun w' k => range_kp L6.tm k bxl) ?_
        simp only [Act.put, List.setIfInBounds_toArray, List.set_cons_zero, List.set_cons_succ]
        go_big_quiet_on
        go_big_quiet_want
        refine quiet_call 31 _ _ rfl rfl (enter31 _) (fun w' k => (place_any tb sb sn _ m w' m0 m1 (L6.kp0 k).tt.map (L6.kp0 k).tt.cur (L6.kp0 k).tt.prev (L6.kp0 k).tt.beg).mono (fun e w'' h => ⟨h.1, k.trans h.2⟩)) ?_
        simp only [Act.put, List.setIfInBounds_toArray, List.set_cons_zero, List.set_cons_succ]
        go_big_quiet_on
        go_big_quiet_want
        go_big_quiet_op
        first | go_big_quiet_on | (refine ⟨_, fun _ _ => rfl, ?_⟩; go_big_quiet_on)
        go_big_quiet_want
        go_big_quiet_op
        first | go_big_quiet_on | (refine ⟨_, fun _ _ => rfl, ?_⟩; go_big_quiet_on)
        go_big_quiet_want
        go_big_quiet_op
        first | go_big_quiet_on | (refine ⟨_, fun _ _ => rfl, ?_⟩; go_big_quiet_on)
        go_big_quiet_want
        go_big_quiet_op
        first | go_big_quiet_on | (refine ⟨_, fun _ _ => rfl, ?_⟩; go_big_quiet_on)
        go_big_quiet_want
        go_big_quiet_op
        first | go_big_quiet_on | (refine ⟨_, fun _ _ => rfl, ?_⟩; go_big_quiet_on)
        refine wpQuiet_nil ?_
        intro w7 K7
        have L7 := L6.kp0 K7
        have V7 := range_kp V6 K7 hvb6
        have hvb7 : vb < w7.heap.size := Nat.lt_of_lt_of_le hvb6 K7.size
        have bxl7 : w.heap.size < w7.heap.size := by have := L7.aw.base.1; omega
        clear L6 V6 hvb6 K7 bxl
        have hst := hstep.out
        unfold stepA at hst
        simp only at hst
        cases hpl : pl m with
        | none =>
          rw [hpl] at hst
          simp only [Option.map_none, Option.getD_none, Option.isSome_none]
          go_wp2_with fail
          have D7 := L7.kp0 ((Kp.refl [] w7).drew)
          have VD : (w7.drew).rangeAt vb 0 (nmc m hop) := V7
          by_cases hmu : m ∈ us
          · rw [if_pos hmu] at hst
            refine wp_region_noPanic ?_
            refine wp_region_held_drew (S := fun w' => w'.rangeAt vb 0 (nmc m hop) ∧ w'.rangeAt w.heap.size 0 [.int .u64 0, .int .i64 0, .pointer none]) (by kernel_rfl) (⟨VD, D7.tm⟩) (fun hHeld => ?_)
            apply wpAnyH_take (i := 0) (v := .pointer (some ⟨tb, 0, none⟩))
            · simp only [List.getElem?_toArray, List.getElem?_cons_succ, List.getElem?_cons_zero] <;> rfl
            · kernel_rfl
            · kernel_rfl
            · kernel_rfl
            · exact fun _ _ _ h => h
            · exact Or.inl ⟨by rfl, fun _ _ => by go_simp⟩
            · exact hHeld
            simp only [Act.put, List.setIfInBounds_toArray, List.set_cons_zero, List.set_cons_succ]
            apply wpAnyH_take (i := 1) (v := .pointer (some ⟨tb, 0, none⟩))
            · simp only [List.getElem?_toArray, List.getElem?_cons_succ, List.getElem?_cons_zero] <;> rfl
            · kernel_rfl
            · kernel_rfl
            · kernel_rfl
            · exact fun _ _ _ h => h
            · exact Or.inl ⟨by rfl, fun _ _ => by go_simp⟩
            · exact hHeld
            simp only [Act.put, List.setIfInBounds_toArray, List.set_cons_zero, List.set_cons_succ]
            apply wpAnyH_take (i := 2) (v := .pointer (some ⟨tb, 51, none⟩))
            · simp only [List.getElem?_toArray, List.getElem?_cons_succ, List.getElem?_cons_zero] <;> rfl
            · kernel_rfl
            · kernel_rfl
            · kernel_rfl
            · exact fun _ _ _ h => h
            · exact Or.inl ⟨by rfl, fun _ _ => by go_simp⟩
            · exact hHeld
            simp only [Act.put, List.setIfInBounds_toArray, List.set_cons_zero, List.set_cons_succ]
            apply wpAnyH_take (i := 3) (v := .pointer (some ⟨lk, 0, none⟩))
            · simp only [List.getElem?_toArray, List.getElem?_cons_succ, List.getElem?_cons_zero] <;> rfl
            · kernel_rfl
            · kernel_rfl
            · kernel_rfl
            · exact fun _ _ _ h => h
            · exact Or.inl ⟨by rfl, fun _ _ => by go_simp⟩
            · exact hHeld
            simp only [Act.put, List.setIfInBounds_toArray, List.set_cons_zero, List.set_cons_succ]
            apply wpAnyH_take (i := 4) (v := .pointer (some ⟨vb, 0, none⟩))
            · simp only [List.getElem?_toArray, List.getElem?_cons_succ, List.getElem?_cons_zero] <;> rfl
            · kernel_rfl
            · kernel_rfl
            · kernel_rfl
            · exact fun _ _ _ h => h
            · exact Or.inl ⟨by rfl, fun _ _ => by go_simp⟩
            · exact hHeld
            simp only [Act.put, List.setIfInBounds_toArray, List.set_cons_zero, List.set_cons_succ]
            apply wpAnyH_take (i := 5) (v := .agg (idc m).toArray)
            · simp only [List.getElem?_toArray, List.getElem?_cons_succ, List.getElem?_cons_zero] <;> rfl
            · kernel_rfl
            · kernel_rfl
            · kernel_rfl
            · exact fun _ _ _ h => h
            · exact yieldsIf_load_mid (by rfl) 97 _ rfl _ _ rfl (idc m) _ (fun _ h => range_pre h.1) Ybad.underlying97 rfl (size97i m)
            · exact hHeld
            simp only [Act.put, List.setIfInBounds_toArray, List.set_cons_zero, List.set_cons_succ]
            apply wpAnyH_take (i := 6) (v := .pointer (some ⟨vb, 33, none⟩))
            · simp only [List.getElem?_toArray, List.getElem?_cons_succ, List.getElem?_cons_zero] <;> rfl
            · kernel_rfl
            · kernel_rfl
            · kernel_rfl
            · exact fun _ _ _ h => h
            · exact Or.inl ⟨by rfl, fun _ _ => by go_simp⟩
            · exact hHeld
            simp only [Act.put, List.setIfInBounds_toArray, List.set_cons_zero, List.set_cons_succ]
            apply wpAnyH_take (i := 7) (v := .int .i64 hop)
            · simp only [List.getElem?_toArray, List.getElem?_cons_succ, List.getElem?_cons_zero] <;> rfl
            · kernel_rfl
            · kernel_rfl
            · kernel_rfl
            · exact fun _ _ _ h => h
            · exact yieldsIf_load_one (by rfl) 3 rfl rfl _ Ybad.underlying3 rfl (fun _ h => by have := h.1 33 _ (nmc_hops m hop); rwa [Nat.zero_add] at this)
            · exact hHeld
            simp only [Act.put, List.setIfInBounds_toArray, List.set_cons_zero, List.set_cons_succ]
            apply wpAnyH_take (i := 8) (v := .agg ([.int .u64 0, .int .i64 0, .pointer none]).toArray)
            · simp only [List.getElem?_toArray, List.getElem?_cons_succ, List.getElem?_cons_zero] <;> rfl
            · kernel_rfl
            · kernel_rfl
            · kernel_rfl
            · exact fun _ _ _ h => h
            · exact yieldsIf_load_mid (by rfl) 43 _ rfl _ _ rfl ([.int .u64 0, .int .i64 0, .pointer none]) _ (fun _ h => h.2) Ybad.underlying43 rfl (size43)
            · exact hHeld
            simp only [Act.put, List.setIfInBounds_toArray, List.set_cons_zero, List.set_cons_succ]
            apply wpAnyH_ready (rs := [9]) (by kernel_rfl) (by simp)
            apply AllReadyH.cons
            · simp only [List.getElem?_toArray, List.getElem?_cons_succ, List.getElem?_cons_zero] <;> rfl
            rotate_left
            · exact AllReadyH.nil
            intro K hK
            rw [if_pos (by rfl)]
            go_simp
            refine (announce_again tb lk _ us M E m hop _ m0 m1 D7.aw hmu (by omega)).mono ?_
            rintro e w8 ⟨rfl, K8⟩
            refine hK.out _ _ ⟨range_kp VD K8 hvb7, range_kp D7.tm K8 bxl7⟩ (fun hHeld => ?_)
            clear hK K
            try simp only [Act.put, List.setIfInBounds_toArray, List.set_cons_zero, List.set_cons_succ]
            refine wpAnyH_done (by kernel_rfl) ?_ _
            refine NoPanic.normal ?_
            have L8 := D7.kp0 K8
            clear hHeld D7 L7 VD V7 K8 hstep
            have HST : Hid ((ns.take (k + 1)).foldl (stepA pl bf true) ([], []) = (us, l)) := hst
            clear hst
            go_wp2_with fail
            go_roundw
            case rel => exact ⟨k + 1, us, l, sv, M, E, by omega, by go_num, rfl, by omega, by omega, HST, L8⟩
            case measure => simp [intOf]; omega
          · rw [if_neg hmu] at hst
            refine wp_region_noPanic ?_
            refine wp_region_held_drew (S := fun w' => w'.rangeAt vb 0 (nmc m hop) ∧ w'.rangeAt w.heap.size 0 [.int .u64 0, .int .i64 0, .pointer none]) (by kernel_rfl) (⟨VD, D7.tm⟩) (fun hHeld => ?_)
            apply wpAnyH_take (i := 0) (v := .pointer (some ⟨tb, 0, none⟩))
            · simp only [List.getElem?_toArray, List.getElem?_cons_succ, List.getElem?_cons_zero] <;> rfl
            · kernel_rfl
            · kernel_rfl
            · kernel_rfl
            · exact fun _ _ _ h => h
            · exact Or.inl ⟨by rfl, fun _ _ => by go_simp⟩
            · exact hHeld
            simp only [Act.put, List.setIfInBounds_toArray, List.set_cons_zero, List.set_cons_succ]
            apply wpAnyH_take (i := 1) (v := .pointer (some ⟨tb, 0, none⟩))
            · simp only [List.getElem?_toArray, List.getElem?_cons_succ, List.getElem?_cons_zero] <;> rfl
            · kernel_rfl
            · kernel_rfl
            · kernel_rfl
            · exact fun _ _ _ h => h
            · exact Or.inl ⟨by rfl, fun _ _ => by go_simp⟩
            · exact hHeld
            simp only [Act.put, List.setIfInBounds_toArray, List.set_cons_zero, List.set_cons_succ]
            apply wpAnyH_take (i := 2) (v := .pointer (some ⟨tb, 51, none⟩))
            · simp only [List.getElem?_toArray, List.getElem?_cons_succ, List.getElem?_cons_zero] <;> rfl
            · kernel_rfl
            · kernel_rfl
            · kernel_rfl
            · exact fun _ _ _ h => h
            · exact Or.inl ⟨by rfl, fun _ _ => by go_simp⟩
            · exact hHeld
            simp only [Act.put, List.setIfInBounds_toArray, List.set_cons_zero, List.set_cons_succ]
            apply wpAnyH_take (i := 3) (v := .pointer (some ⟨lk, 0, none⟩))
            · simp only [List.getElem?_toArray, List.getElem?_cons_succ, List.getElem?_cons_zero] <;> rfl
            · kernel_rfl
            · kernel_rfl
            · kernel_rfl
            · exact fun _ _ _ h => h
            · exact Or.inl ⟨by rfl, fun _ _ => by go_simp⟩
            · exact hHeld
            simp only [Act.put, List.setIfInBounds_toArray, List.set_cons_zero, List.set_cons_succ]
            apply wpAnyH_take (i := 4) (v := .pointer (some ⟨vb, 0, none⟩))
            · simp only [List.getElem?_toArray, List.getElem?_cons_succ, List.getElem?_cons_zero] <;> rfl
            · kernel_rfl
            · kernel_rfl
            · kernel_rfl
            · exact fun _ _ _ h => h
            · exact Or.inl ⟨by rfl, fun _ _ => by go_simp⟩
            · exact hHeld
            simp only [Act.put, List.setIfInBounds_toArray, List.set_cons_zero, List.set_cons_succ]
            apply wpAnyH_take (i := 5) (v := .agg (idc m).toArray)
            · simp only [List.getElem?_toArray, List.getElem?_cons_succ, List.getElem?_cons_zero] <;> rfl
            · kernel_rfl
            · kernel_rfl
            · kernel_rfl
            · exact fun _ _ _ h => h
            · exact yieldsIf_load_mid (by rfl) 97 _ rfl _ _ rfl (idc m) _ (fun _ h => range_pre h.1) Ybad.underlying97 rfl (size97i m)
            · exact hHeld
            simp only [Act.put, List.setIfInBounds_toArray, List.set_cons_zero, List.set_cons_succ]
            apply wpAnyH_take (i := 6) (v := .pointer (some ⟨vb, 33, none⟩))
            · simp only [List.getElem?_toArray, List.getElem?_cons_succ, List.getElem?_cons_zero] <;> rfl
            · kernel_rfl
            · kernel_rfl
            · kernel_rfl
            · exact fun _ _ _ h => h
            · exact Or.inl ⟨by rfl, fun _ _ => by go_simp⟩
            · exact hHeld
            simp only [Act.put, List.setIfInBounds_toArray, List.set_cons_zero, List.set_cons_succ]
            apply wpAnyH_take (i := 7) (v := .int .i64 hop)
            · simp only [List.getElem?_toArray, List.getElem?_cons_succ, List.getElem?_cons_zero] <;> rfl
            · kernel_rfl
            · kernel_rfl
            · kernel_rfl
            · exact fun _ _ _ h => h
            · exact yieldsIf_load_one (by rfl) 3 rfl rfl _ Ybad.underlying3 rfl (fun _ h => by have := h.1 33 _ (nmc_hops m hop); rwa [Nat.zero_add] at this)
            · exact hHeld
            simp only [Act.put, List.setIfInBounds_toArray, List.set_cons_zero, List.set_cons_succ]
            apply wpAnyH_take (i := 8) (v := .agg ([.int .u64 0, .int .i64 0, .pointer none]).toArray)
            · simp only [List.getElem?_toArray, List.getElem?_cons_succ, List.getElem?_cons_zero] <;> rfl
            · kernel_rfl
            · kernel_rfl
            · kernel_rfl
            · exact fun _ _ _ h => h
            · exact yieldsIf_load_mid (by rfl) 43 _ rfl _ _ rfl ([.int .u64 0, .int .i64 0, .pointer none]) _ (fun _ h => h.2) Ybad.underlying43 rfl (size43)
            · exact hHeld
            simp only [Act.put, List.setIfInBounds_toArray, List.set_cons_zero, List.set_cons_succ]
            apply wpAnyH_ready (rs := [9]) (by kernel_rfl) (by simp)
            apply AllReadyH.cons
            · simp only [List.getElem?_toArray, List.getElem?_cons_succ, List.getElem?_cons_zero] <;> rfl
            rotate_left
            · exact AllReadyH.nil
            intro K hK
            rw [if_pos (by rfl)]
            go_simp
            refine (announce_new tb lk _ us M E m hop _ m0 m1 D7.aw hmu (by omega)).mono ?_
            rintro e w8 ⟨rfl, M', E', A8, K8, hM8, hE8, ho8⟩
            have L8 := D7.grown aB A8 K8 hM8 hE8 ho8
            have vn : vb ∉ tb :: M := fun hm => by
              rcases List.mem_cons.1 hm with e | e
              · have := aB.t; omega
              · exact AF vb (List.mem_append_left _ e) rfl
            have HST : Hid ((ns.take (k + 1)).foldl (stepA pl bf true) ([], []) = (us ++ [m], l)) := hst
            refine hK.out _ _ ⟨K8.range VD hvb7 vn, L8.tm⟩ (fun hHeld => ?_)
            clear hK K
            try simp only [Act.put, List.setIfInBounds_toArray, List.set_cons_zero, List.set_cons_succ]
            refine wpAnyH_done (by kernel_rfl) ?_ _
            refine NoPanic.normal ?_
            clear hHeld D7 L7 VD V7 K8 hstep A8 hM8 hE8 ho8 hst
            by_cases hu : us.length = 0
            · have hd : (us.length == 0) = true := by simp [hu]
              go_wp2_with fail
              go_roundw
              case rel => exact ⟨k + 1, us ++ [m], l, sv, M', E', by omega, by go_num, by simp, by simp; omega, by omega, HST, L8⟩
              case measure => simp [intOf]; omega
            · have hd : (us.length == 0) = false := by simp [hu]
              have hd2 : (us.length != 0) = true := by simp [hu]
              go_wp2_with fail
              go_roundw
              case rel => exact ⟨k + 1, us ++ [m], l, sv, M', E', by omega, by go_num, by simp [hu], by simp; omega, by omega, HST, L8⟩
              case measure => simp [intOf]; omega
        | some q =>
          rw [hpl] at hst
          simp only at hst
          simp only [Option.map_some, Option.getD_some, Option.isSome_some]
          have c5 := L7.tt.bef
          have nbh := L7.tt.nbh
          by_cases hq : q < bf
          · rw [if_pos hq] at hst
            go_wp2_with (first
              | (go_at_call 27; refine (keeps_some lk na _ nbh).mono ?_; rintro e w8 ⟨rfl, rfl⟩))
            have D7 := L7.kp0 ((Kp.refl [] w8).drew)
            have VD : (w8.drew).rangeAt vb 0 (nmc m hop) := V7
            refine wp_region_noPanic ?_
            refine wp_region_held_drew (S := fun w' => w'.rangeAt vb 0 (nmc m hop) ∧ w'.cell? ⟨tb, 32, none⟩ = some (.iface 89 (.pointer (some ⟨fb, 0, none⟩)))) (by kernel_rfl) (⟨VD, D7.tt.fr⟩) (fun hHeld => ?_)
            apply wpAnyH_take (i := 0) (v := .pointer (some ⟨lk, 0, none⟩))
            · simp only [List.getElem?_toArray, List.getElem?_cons_succ, List.getElem?_cons_zero] <;> rfl
            · kernel_rfl
            · kernel_rfl
            · kernel_rfl
            · exact fun _ _ _ h => h
            · exact Or.inl ⟨by rfl, fun _ _ => by go_simp⟩
            · exact hHeld
            simp only [Act.put, List.setIfInBounds_toArray, List.set_cons_zero, List.set_cons_succ]
            apply wpAnyH_take (i := 1) (v := .pointer (some ⟨tb, 0, none⟩))
            · simp only [List.getElem?_toArray, List.getElem?_cons_succ, List.getElem?_cons_zero] <;> rfl
            · kernel_rfl
            · kernel_rfl
            · kernel_rfl
            · exact fun _ _ _ h => h
            · exact Or.inl ⟨by rfl, fun _ _ => by go_simp⟩
            · exact hHeld
            simp only [Act.put, List.setIfInBounds_toArray, List.set_cons_zero, List.set_cons_succ]
            apply wpAnyH_take (i := 2) (v := .pointer (some ⟨tb, 0, none⟩))
            · simp only [List.getElem?_toArray, List.getElem?_cons_succ, List.getElem?_cons_zero] <;> rfl
            · kernel_rfl
            · kernel_rfl
            · kernel_rfl
            · exact fun _ _ _ h => h
            · exact Or.inl ⟨by rfl, fun _ _ => by go_simp⟩
            · exact hHeld
            simp only [Act.put, List.setIfInBounds_toArray, List.set_cons_zero, List.set_cons_succ]
            apply wpAnyH_take (i := 3) (v := .pointer (some ⟨tb, 32, none⟩))
            · simp only [List.getElem?_toArray, List.getElem?_cons_succ, List.getElem?_cons_zero] <;> rfl
            · kernel_rfl
            · kernel_rfl
            · kernel_rfl
            · exact fun _ _ _ h => h
            · exact Or.inl ⟨by rfl, fun _ _ => by go_simp⟩
            · exact hHeld
            simp only [Act.put, List.setIfInBounds_toArray, List.set_cons_zero, List.set_cons_succ]
            apply wpAnyH_take (i := 4) (v := .iface 89 (.pointer (some ⟨fb, 0, none⟩)))
            · simp only [List.getElem?_toArray, List.getElem?_cons_succ, List.getElem?_cons_zero] <;> rfl
            · kernel_rfl
            · kernel_rfl
            · kernel_rfl
            · exact fun _ _ _ h => h
            · exact yieldsIf_load_one (by rfl) 29 rfl rfl _ Ybad.underlying29 rfl (fun _ h => h.2)
            · exact hHeld
            simp only [Act.put, List.setIfInBounds_toArray, List.set_cons_zero, List.set_cons_succ]
            apply wpAnyH_take (i := 5) (v := .pointer (some ⟨vb, 0, none⟩))
            · simp only [List.getElem?_toArray, List.getElem?_cons_succ, List.getElem?_cons_zero] <;> rfl
            · kernel_rfl
            · kernel_rfl
            · kernel_rfl
            · exact fun _ _ _ h => h
            · exact Or.inl ⟨by rfl, fun _ _ => by go_simp⟩
            · exact hHeld
            simp only [Act.put, List.setIfInBounds_toArray, List.set_cons_zero, List.set_cons_succ]
            apply wpAnyH_take (i := 6) (v := .agg (idc m).toArray)
            · simp only [List.getElem?_toArray, List.getElem?_cons_succ, List.getElem?_cons_zero] <;> rfl
            · kernel_rfl
            · kernel_rfl
            · kernel_rfl
            · exact fun _ _ _ h => h
            · exact yieldsIf_load_mid (by rfl) 97 _ rfl _ _ rfl (idc m) _ (fun _ h => range_pre h.1) Ybad.underlying97 rfl (size97i m)
            · exact hHeld
            simp only [Act.put, List.setIfInBounds_toArray, List.set_cons_zero, List.set_cons_succ]
            apply wpAnyH_ready (rs := [7]) (by kernel_rfl) (by simp)
            apply AllReadyH.cons
            · simp only [List.getElem?_toArray, List.getElem?_cons_succ, List.getElem?_cons_zero] <;> rfl
            rotate_left
            · exact AllReadyH.nil
            intro K hK
            rw [if_pos (by rfl)]
            go_simp
            refine (hopAnnounceM fb m (l.length : Int) _ m0 m1 D7.tt.calls D7.tt.cfz (by omega) (by omega)).mono ?_
            rintro e w9 ⟨g9, cap9, rfl, F9⟩
            have vf : vb ∉ [fb] := by have := aB.f; simp; omega
            have V9 := F9.kp.range VD hvb7 vf
            have T9 := D7.tt.called F9 aB.tf aB.lf aB.sf aB.nf
            refine hK.out _ _ ⟨V9, T9.fr⟩ (fun hHeld => ?_)
            clear hK K
            try simp only [Act.put, List.setIfInBounds_toArray, List.set_cons_zero, List.set_cons_succ]
            apply wpAnyH_ready (rs := [8]) (by kernel_rfl) (by simp)
            apply AllReadyH.cons
            · simp only [List.getElem?_toArray, List.getElem?_cons_succ, List.getElem?_cons_zero] <;> rfl
            rotate_left
            · exact AllReadyH.nil
            intro K hK
            rw [if_pos (by rfl)]
            go_simp
            refine (D7.send aB F9 (by omega) (bs := [2, m, 255]) (by rfl)).mono ?_
            rintro e ww ⟨rfl, sv2, LW, KW⟩
            have vo : vb ∉ fb :: ob :: sv.ownBlock.toList := fun hm => by
              rcases List.mem_cons.1 hm with e | e
              · have := aB.f; omega
              · exact OF vb e rfl
            have VW := KW.range VD hvb7 vo
            have hvw : vb < ww.heap.size := Nat.lt_of_lt_of_le hvb7 KW.size
            refine hK.out _ _ ⟨VW, LW.tt.fr⟩ (fun hHeld => ?_)
            clear hK K
            try simp only [Act.put, List.setIfInBounds_toArray, List.set_cons_zero, List.set_cons_succ]
            refine wpAnyH_done (by kernel_rfl) ?_ _
            refine NoPanic.normal ?_
            clear hHeld V9 T9 F9 D7 VD L7 V7 hvb7 bxl7 KW vf vo c5 nbh
            have HST : Hid ((ns.take (k + 1)).foldl (stepA pl bf true) ([], []) = (us, l ++ [(7, frameA true m)])) := hst
            obtain ⟨l', hl'⟩ : ∃ l', l' = l ++ [(7, frameA true m)] := ⟨_, rfl⟩
            have hll' : l'.length ≤ k + 1 := by rw [hl']; simp; omega
            rw [← hl'] at HST
            replace LW := hl' ▸ LW
            clear hst hl' hstep
            go_wp2_with fail
            refine wp_region_noPanic ?_
            refine wp_region_held_drew (S := fun w' => w'.rangeAt vb 0 (nmc m hop)) (by kernel_rfl) (show (ww.drew).rangeAt vb 0 (nmc m hop) from VW) (fun hHeld => ?_)
            apply wpAnyH_take (i := 0) (v := .pointer (some ⟨tb, 0, none⟩))
            · simp only [List.getElem?_toArray, List.getElem?_cons_succ, List.getElem?_cons_zero] <;> rfl
            · kernel_rfl
            · kernel_rfl
            · kernel_rfl
            · exact fun _ _ _ h => h
            · exact Or.inl ⟨by rfl, fun _ _ => by go_simp⟩
            · exact hHeld
            simp only [Act.put, List.setIfInBounds_toArray, List.set_cons_zero, List.set_cons_succ]
            apply wpAnyH_take (i := 1) (v := .pointer (some ⟨tb, 0, none⟩))
            · simp only [List.getElem?_toArray, List.getElem?_cons_succ, List.getElem?_cons_zero] <;> rfl
            · kernel_rfl
            · kernel_rfl
            · kernel_rfl
            · exact fun _ _ _ h => h
            · exact Or.inl ⟨by rfl, fun _ _ => by go_simp⟩
            · exact hHeld
            simp only [Act.put, List.setIfInBounds_toArray, List.set_cons_zero, List.set_cons_succ]
            apply wpAnyH_take (i := 2) (v := .pointer (some ⟨tb, 62, none⟩))
            · simp only [List.getElem?_toArray, List.getElem?_cons_succ, List.getElem?_cons_zero] <;> rfl
            · kernel_rfl
            · kernel_rfl
            · kernel_rfl
            · exact fun _ _ _ h => h
            · exact Or.inl ⟨by rfl, fun _ _ => by go_simp⟩
            · exact hHeld
            simp only [Act.put, List.setIfInBounds_toArray, List.set_cons_zero, List.set_cons_succ]
            apply wpAnyH_take (i := 3) (v := .pointer (some ⟨vb, 0, none⟩))
            · simp only [List.getElem?_toArray, List.getElem?_cons_succ, List.getElem?_cons_zero] <;> rfl
            · kernel_rfl
            · kernel_rfl
            · kernel_rfl
            · exact fun _ _ _ h => h
            · exact Or.inl ⟨by rfl, fun _ _ => by go_simp⟩
            · exact hHeld
            simp only [Act.put, List.setIfInBounds_toArray, List.set_cons_zero, List.set_cons_succ]
            apply wpAnyH_take (i := 4) (v := .agg (idc m).toArray)
            · simp only [List.getElem?_toArray, List.getElem?_cons_succ, List.getElem?_cons_zero] <;> rfl
            · kernel_rfl
            · kernel_rfl
            · kernel_rfl
            · exact fun _ _ _ h => h
            · exact yieldsIf_load_mid (by rfl) 97 _ rfl _ _ rfl (idc m) _ (fun _ h => range_pre h) Ybad.underlying97 rfl (size97i m)
            · exact hHeld
            simp only [Act.put, List.setIfInBounds_toArray, List.set_cons_zero, List.set_cons_succ]
            apply wpAnyH_take (i := 5) (v := .pointer (some ⟨lk, 0, none⟩))
            · simp only [List.getElem?_toArray, List.getElem?_cons_succ, List.getElem?_cons_zero] <;> rfl
            · kernel_rfl
            · kernel_rfl
            · kernel_rfl
            · exact fun _ _ _ h => h
            · exact Or.inl ⟨by rfl, fun _ _ => by go_simp⟩
            · exact hHeld
            simp only [Act.put, List.setIfInBounds_toArray, List.set_cons_zero, List.set_cons_succ]
            apply wpAnyH_take (i := 6) (v := .pointer (some ⟨vb, 33, none⟩))
            · simp only [List.getElem?_toArray, List.getElem?_cons_succ, List.getElem?_cons_zero] <;> rfl
            · kernel_rfl
            · kernel_rfl
            · kernel_rfl
            · exact fun _ _ _ h => h
            · exact Or.inl ⟨by rfl, fun _ _ => by go_simp⟩
            · exact hHeld
            simp only [Act.put, List.setIfInBounds_toArray, List.set_cons_zero, List.set_cons_succ]
            apply wpAnyH_take (i := 7) (v := .int .i64 hop)
            · simp only [List.getElem?_toArray, List.getElem?_cons_succ, List.getElem?_cons_zero] <;> rfl
            · kernel_rfl
            · kernel_rfl
            · kernel_rfl
            · exact fun _ _ _ h => h
            · exact yieldsIf_load_one (by rfl) 3 rfl rfl _ Ybad.underlying3 rfl (fun _ h => by have := h 33 _ (nmc_hops m hop); rwa [Nat.zero_add] at this)
            · exact hHeld
            simp only [Act.put, List.setIfInBounds_toArray, List.set_cons_zero, List.set_cons_succ]
            have KD : Kp [] ww ww.drew := (Kp.refl [] ww).drew
            apply wpAnyH_ready (rs := [8, 13]) (by kernel_rfl) (by simp)
            apply AllReadyH.cons
            · simp only [List.getElem?_toArray, List.getElem?_cons_succ, List.getElem?_cons_zero] <;> rfl
            · intro K hK
              rw [if_pos (by rfl)]
              go_simp
              refine (heard_any tb lk m hop _ (LW.kp0 KD).tt.snd).mono ?_
              rintro e w8 ⟨rfl, K8⟩
              have K08 := KD.trans K8
              refine hK.out _ _ (range_kp VW K08 hvw) (fun hHeld => ?_)
              clear hK K
              try simp only [Act.put, List.setIfInBounds_toArray, List.set_cons_zero, List.set_cons_succ]
              apply wpAnyH_take (i := 9) (v := .tuple #[.agg #[.pointer none, .pointer none], .bool false, .bool false])
              · simp only [List.getElem?_toArray, List.getElem?_cons_succ, List.getElem?_cons_zero] <;> rfl
              · kernel_rfl
              · kernel_rfl
              · kernel_rfl
              · exact fun _ _ _ h => h
              · exact Or.inl ⟨by rfl, fun _ _ => by go_simp⟩
              · exact hHeld
              simp only [Act.put, List.setIfInBounds_toArray, List.set_cons_zero, List.set_cons_succ]
              apply wpAnyH_take (i := 10) (v := .agg #[.pointer none, .pointer none])
              · simp only [List.getElem?_toArray, List.getElem?_cons_succ, List.getElem?_cons_zero] <;> rfl
              · kernel_rfl
              · kernel_rfl
              · kernel_rfl
              · exact fun _ _ _ h => h
              · exact Or.inl ⟨by rfl, fun _ _ => by go_simp⟩
              · exact hHeld
              simp only [Act.put, List.setIfInBounds_toArray, List.set_cons_zero, List.set_cons_succ]
              apply wpAnyH_take (i := 11) (v := .bool false)
              · simp only [List.getElem?_toArray, List.getElem?_cons_succ, List.getElem?_cons_zero] <;> rfl
              · kernel_rfl
              · kernel_rfl
              · kernel_rfl
              · exact fun _ _ _ h => h
              · exact Or.inl ⟨by rfl, fun _ _ => by go_simp⟩
              · exact hHeld
              simp only [Act.put, List.setIfInBounds_toArray, List.set_cons_zero, List.set_cons_succ]
              apply wpAnyH_take (i := 12) (v := .bool false)
              · simp only [List.getElem?_toArray, List.getElem?_cons_succ, List.getElem?_cons_zero] <;> rfl
              · kernel_rfl
              · kernel_rfl
              · kernel_rfl
              · exact fun _ _ _ h => h
              · exact Or.inl ⟨by rfl, fun _ _ => by go_simp⟩
              · exact hHeld
              simp only [Act.put, List.setIfInBounds_toArray, List.set_cons_zero, List.set_cons_succ]
              apply wpAnyH_ready (rs := [13]) (by kernel_rfl) (by simp)
              apply AllReadyH.cons
              · simp only [List.getElem?_toArray, List.getElem?_cons_succ, List.getElem?_cons_zero] <;> rfl
              rotate_left
              · exact AllReadyH.nil
              intro K hK
              rw [if_pos (by rfl)]
              apply wp_var 139
              · rfl
              · exact alloc139
              intro w9 N9
              have K09 := K08.trans N9.kp
              refine hK.out _ _ (range_kp VW K09 hvw) (fun hHeld => ?_)
              clear hK K
              try simp only [Act.put, List.setIfInBounds_toArray, List.set_cons_zero, List.set_cons_succ]
              have TH := there139 N9
              have s8 := K08.size
              obtain ⟨bv9, hbv⟩ : ∃ b, b = w8.heap.size := ⟨_, rfl⟩
              rw [← hbv] at TH
              rw [← hbv]
              apply wpAnyH_ready (rs := [14]) (by kernel_rfl) (by simp)
              apply AllReadyH.cons
              · simp only [List.getElem?_toArray, List.getElem?_cons_succ, List.getElem?_cons_zero] <;> rfl
              rotate_left
              · exact AllReadyH.nil
              intro K hK
              rw [if_pos (by rfl)]
              apply wp_putRow (b := bv9) (o := 0) 139 [.pointer none, .pointer none]
              · rfl
              · rfl
              · rfl
              · exact TH
              · exact size139
              · simp [Value.oneCell']
              intro wz KZ
              have KE : Kp [] ww wz := K09.news KZ (by simp; omega)
              refine hK.out _ _ (range_kp VW KE hvw) (fun hHeld => ?_)
              clear hK K
              try simp only [Act.put, List.setIfInBounds_toArray, List.set_cons_zero, List.set_cons_succ]
              apply wpAnyH_take (i := 15) (v := .bool false)
              · simp only [List.getElem?_toArray, List.getElem?_cons_succ, List.getElem?_cons_zero] <;> rfl
              · kernel_rfl
              · kernel_rfl
              · kernel_rfl
              · exact fun _ _ _ h => h
              · exact Or.inl ⟨by rfl, fun _ _ => by go_simp⟩
              · exact hHeld
              simp only [Act.put, List.setIfInBounds_toArray, List.set_cons_zero, List.set_cons_succ]
              apply wpAnyH_take (i := 16) (v := .bool false)
              · simp only [List.getElem?_toArray, List.getElem?_cons_succ, List.getElem?_cons_zero] <;> rfl
              · kernel_rfl
              · kernel_rfl
              · kernel_rfl
              · exact fun _ _ _ h => h
              · exact Or.inl ⟨by rfl, fun _ _ => by go_simp⟩
              · exact hHeld
              simp only [Act.put, List.setIfInBounds_toArray, List.set_cons_zero, List.set_cons_succ]
              refine wpAnyH_done (by kernel_rfl) ?_ _
              refine NoPanic.normal ?_
              have LZ := LW.kp0 KE
              clear hHeld KE KZ
              go_wp2_with fail
              go_roundw
              case rel => exact ⟨k + 1, us, l', sv2, M, E, by omega, by go_num, rfl, by omega, hll', HST, LZ⟩
              case measure => simp [intOf]; omega
            · apply AllReadyH.cons
              · simp only [List.getElem?_toArray, List.getElem?_cons_succ, List.getElem?_cons_zero] <;> rfl
              rotate_left
              · exact AllReadyH.nil
              intro K hK
              rw [if_pos (by rfl)]
              apply wp_var 139
              · rfl
              · exact alloc139
              intro w8 N8
              have K08 := KD.trans N8.kp
              refine hK.out _ _ (range_kp VW K08 hvw) (fun hHeld => ?_)
              clear hK K
              try simp only [Act.put, List.setIfInBounds_toArray, List.set_cons_zero, List.set_cons_succ]
              have TH8 := there139 N8
              have hs8 := N8.size
              have hs8' : (ww.drew).heap.size = ww.heap.size := rfl
              rw [hs8'] at TH8 hs8
              rw [hs8']
              apply wpAnyH_ready (rs := [8]) (by kernel_rfl) (by simp)
              apply AllReadyH.cons
              · simp only [List.getElem?_toArray, List.getElem?_cons_succ, List.getElem?_cons_zero] <;> rfl
              rotate_left
              · exact AllReadyH.nil
              intro K hK
              rw [if_pos (by rfl)]
              go_simp
              refine (heard_any tb lk m hop _ (LW.kp0 K08).tt.snd).mono ?_
              rintro e w9 ⟨rfl, K9⟩
              have K09 := K08.trans K9
              refine hK.out _ _ (range_kp VW K09 hvw) (fun hHeld => ?_)
              clear hK K
              try simp only [Act.put, List.setIfInBounds_toArray, List.set_cons_zero, List.set_cons_succ]
              have TH := there.kp0 TH8 K9 (by omega)
              apply wpAnyH_take (i := 9) (v := .tuple #[.agg #[.pointer none, .pointer none], .bool false, .bool false])
              · simp only [List.getElem?_toArray, List.getElem?_cons_succ, List.getElem?_cons_zero] <;> rfl
              · kernel_rfl
              · kernel_rfl
              · kernel_rfl
              · exact fun _ _ _ h => h
              · exact Or.inl ⟨by rfl, fun _ _ => by go_simp⟩
              · exact hHeld
              simp only [Act.put, List.setIfInBounds_toArray, List.set_cons_zero, List.set_cons_succ]
              apply wpAnyH_take (i := 10) (v := .agg #[.pointer none, .pointer none])
              · simp only [List.getElem?_toArray, List.getElem?_cons_succ, List.getElem?_cons_zero] <;> rfl
              · kernel_rfl
              · kernel_rfl
              · kernel_rfl
              · exact fun _ _ _ h => h
              · exact Or.inl ⟨by rfl, fun _ _ => by go_simp⟩
              · exact hHeld
              simp only [Act.put, List.setIfInBounds_toArray, List.set_cons_zero, List.set_cons_succ]
              apply wpAnyH_take (i := 11) (v := .bool false)
              · simp only [List.getElem?_toArray, List.getElem?_cons_succ, List.getElem?_cons_zero] <;> rfl
              · kernel_rfl
              · kernel_rfl
              · kernel_rfl
              · exact fun _ _ _ h => h
              · exact Or.inl ⟨by rfl, fun _ _ => by go_simp⟩
              · exact hHeld
              simp only [Act.put, List.setIfInBounds_toArray, List.set_cons_zero, List.set_cons_succ]
              apply wpAnyH_take (i := 12) (v := .bool false)
              · simp only [List.getElem?_toArray, List.getElem?_cons_succ, List.getElem?_cons_zero] <;> rfl
              · kernel_rfl
              · kernel_rfl
              · kernel_rfl
              · exact fun _ _ _ h => h
              · exact Or.inl ⟨by rfl, fun _ _ => by go_simp⟩
              · exact hHeld
              simp only [Act.put, List.setIfInBounds_toArray, List.set_cons_zero, List.set_cons_succ]
              apply wpAnyH_ready (rs := [14]) (by kernel_rfl) (by simp)
              apply AllReadyH.cons
              · simp only [List.getElem?_toArray, List.getElem?_cons_succ, List.getElem?_cons_zero] <;> rfl
              rotate_left
              · exact AllReadyH.nil
              intro K hK
              rw [if_pos (by rfl)]
              apply wp_putRow (b := ww.heap.size) (o := 0) 139 [.pointer none, .pointer none]
              · rfl
              · rfl
              · rfl
              · exact TH
              · exact size139
              · simp [Value.oneCell']
              intro wz KZ
              have KE : Kp [] ww wz := K09.news KZ (by simp)
              refine hK.out _ _ (range_kp VW KE hvw) (fun hHeld => ?_)
              clear hK K
              try simp only [Act.put, List.setIfInBounds_toArray, List.set_cons_zero, List.set_cons_succ]
              apply wpAnyH_take (i := 15) (v := .bool false)
              · simp only [List.getElem?_toArray, List.getElem?_cons_succ, List.getElem?_cons_zero] <;> rfl
              · kernel_rfl
              · kernel_rfl
              · kernel_rfl
              · exact fun _ _ _ h => h
              · exact Or.inl ⟨by rfl, fun _ _ => by go_simp⟩
              · exact hHeld
              simp only [Act.put, List.setIfInBounds_toArray, List.set_cons_zero, List.set_cons_succ]
              apply wpAnyH_take (i := 16) (v := .bool false)
              · simp only [List.getElem?_toArray, List.getElem?_cons_succ, List.getElem?_cons_zero] <;> rfl
              · kernel_rfl
              · kernel_rfl
              · kernel_rfl
              · exact fun _ _ _ h => h
              · exact Or.inl ⟨by rfl, fun _ _ => by go_simp⟩
              · exact hHeld
              simp only [Act.put, List.setIfInBounds_toArray, List.set_cons_zero, List.set_cons_succ]
              refine wpAnyH_done (by kernel_rfl) ?_ _
              refine NoPanic.normal ?_
              have LZ := LW.kp0 KE
              clear hHeld KE KZ
              go_wp2_with fail
              go_roundw
              case rel => exact ⟨k + 1, us, l', sv2, M, E, by omega, by go_num, rfl, by omega, hll', HST, LZ⟩
              case measure => simp [intOf]; omega
          · rw [if_neg hq] at hst
            have HST : Hid ((ns.take (k + 1)).foldl (stepA pl bf true) ([], []) = (us, l)) := hst
            obtain ⟨l', hl'⟩ : ∃ l', l' = l := ⟨_, rfl⟩
            have hll' : l'.length ≤ k + 1 := by rw [hl']; omega
            rw [← hl'] at HST
            have LW : LP w w7 tb lk fb sb nb w.heap.size ob (w.heap.size + 1) (.pointer (some na)) bf sn pl ns us l' sv M E := hl' ▸ L7
            have VW := V7
            have hvw := hvb7
            generalize w7 = ww at *
            clear hst hl' hstep L7 V7 hvb7 bxl7
            obtain ⟨sv2, hsv2⟩ : ∃ sv2, sv2 = sv := ⟨_, rfl⟩
            rw [← hsv2] at LW
            go_wp2_with fail
            refine wp_region_noPanic ?_
            refine wp_region_held_drew (S := fun w' => w'.rangeAt vb 0 (nmc m hop)) (by kernel_rfl) (show (ww.drew).rangeAt vb 0 (nmc m hop) from VW) (fun hHeld => ?_)
            apply wpAnyH_take (i := 0) (v := .pointer (some ⟨tb, 0, none⟩))
            · simp only [List.getElem?_toArray, List.getElem?_cons_succ, List.getElem?_cons_zero] <;> rfl
            · kernel_rfl
            · kernel_rfl
            · kernel_rfl
            · exact fun _ _ _ h => h
            · exact Or.inl ⟨by rfl, fun _ _ => by go_simp⟩
            · exact hHeld
            simp only [Act.put, List.setIfInBounds_toArray, List.set_cons_zero, List.set_cons_succ]
            apply wpAnyH_take (i := 1) (v := .pointer (some ⟨tb, 0, none⟩))
            · simp only [List.getElem?_toArray, List.getElem?_cons_succ, List.getElem?_cons_zero] <;> rfl
            · kernel_rfl
            · kernel_rfl
            · kernel_rfl
            · exact fun _ _ _ h => h
            · exact Or.inl ⟨by rfl, fun _ _ => by go_simp⟩
            · exact hHeld
            simp only [Act.put, List.setIfInBounds_toArray, List.set_cons_zero, List.set_cons_succ]
            apply wpAnyH_take (i := 2) (v := .pointer (some ⟨tb, 62, none⟩))
            · simp only [List.getElem?_toArray, List.getElem?_cons_succ, List.getElem?_cons_zero] <;> rfl
            · kernel_rfl
            · kernel_rfl
            · kernel_rfl
            · exact fun _ _ _ h => h
            · exact Or.inl ⟨by rfl, fun _ _ => by go_simp⟩
            · exact hHeld
            simp only [Act.put, List.setIfInBounds_toArray, List.set_cons_zero, List.set_cons_succ]
            apply wpAnyH_take (i := 3) (v := .pointer (some ⟨vb, 0, none⟩))
            · simp only [List.getElem?_toArray, List.getElem?_cons_succ, List.getElem?_cons_zero] <;> rfl
            · kernel_rfl
            · kernel_rfl
            · kernel_rfl
            · exact fun _ _ _ h => h
            · exact Or.inl ⟨by rfl, fun _ _ => by go_simp⟩
            · exact hHeld
            simp only [Act.put, List.setIfInBounds_toArray, List.set_cons_zero, List.set_cons_succ]
            apply wpAnyH_take (i := 4) (v := .agg (idc m).toArray)
            · simp only [List.getElem?_toArray, List.getElem?_cons_succ, List.getElem?_cons_zero] <;> rfl
            · kernel_rfl
            · kernel_rfl
            · kernel_rfl
            · exact fun _ _ _ h => h
            · exact yieldsIf_load_mid (by rfl) 97 _ rfl _ _ rfl (idc m) _ (fun _ h => range_pre h) Ybad.underlying97 rfl (size97i m)
            · exact hHeld
            simp only [Act.put, List.setIfInBounds_toArray, List.set_cons_zero, List.set_cons_succ]
            apply wpAnyH_take (i := 5) (v := .pointer (some ⟨lk, 0, none⟩))
            · simp only [List.getElem?_toArray, List.getElem?_cons_succ, List.getElem?_cons_zero] <;> rfl
            · kernel_rfl
            · kernel_rfl
            · kernel_rfl
            · exact fun _ _ _ h => h
            · exact Or.inl ⟨by rfl, fun _ _ => by go_simp⟩
            · exact hHeld
            simp only [Act.put, List.setIfInBounds_toArray, List.set_cons_zero, List.set_cons_succ]
            apply wpAnyH_take (i := 6) (v := .pointer (some ⟨vb, 33, none⟩))
            · simp only [List.getElem?_toArray, List.getElem?_cons_succ, List.getElem?_cons_zero] <;> rfl
            · kernel_rfl
            · kernel_rfl
            · kernel_rfl
            · exact fun _ _ _ h => h
            · exact Or.inl ⟨by rfl, fun _ _ => by go_simp⟩
            · exact hHeld
            simp only [Act.put, List.setIfInBounds_toArray, List.set_cons_zero, List.set_cons_succ]
            apply wpAnyH_take (i := 7) (v := .int .i64 hop)
            · simp only [List.getElem?_toArray, List.getElem?_cons_succ, List.getElem?_cons_zero] <;> rfl
            · kernel_rfl
            · kernel_rfl
            · kernel_rfl
            · exact fun _ _ _ h => h
            · exact yieldsIf_load_one (by rfl) 3 rfl rfl _ Ybad.underlying3 rfl (fun _ h => by have := h 33 _ (nmc_hops m hop); rwa [Nat.zero_add] at this)
            · exact hHeld
            simp only [Act.put, List.setIfInBounds_toArray, List.set_cons_zero, List.set_cons_succ]
            have KD : Kp [] ww ww.drew := (Kp.refl [] ww).drew
            apply wpAnyH_ready (rs := [8, 13]) (by kernel_rfl) (by simp)
            apply AllReadyH.cons
            · simp only [List.getElem?_toArray, List.getElem?_cons_succ, List.getElem?_cons_zero] <;> rfl
            · intro K hK
              rw [if_pos (by rfl)]
              go_simp
              refine (heard_any tb lk m hop _ (LW.kp0 KD).tt.snd).mono ?_
              rintro e w8 ⟨rfl, K8⟩
              have K08 := KD.trans K8
              refine hK.out _ _ (range_kp VW K08 hvw) (fun hHeld => ?_)
              clear hK K
              try simp only [Act.put, List.setIfInBounds_toArray, List.set_cons_zero, List.set_cons_succ]
              apply wpAnyH_take (i := 9) (v := .tuple #[.agg #[.pointer none, .pointer none], .bool false, .bool false])
              · simp only [List.getElem?_toArray, List.getElem?_cons_succ, List.getElem?_cons_zero] <;> rfl
              · kernel_rfl
              · kernel_rfl
              · kernel_rfl
              · exact fun _ _ _ h => h
              · exact Or.inl ⟨by rfl, fun _ _ => by go_simp⟩
              · exact hHeld
              simp only [Act.put, List.setIfInBounds_toArray, List.set_cons_zero, List.set_cons_succ]
              apply wpAnyH_take (i := 10) (v := .agg #[.pointer none, .pointer none])
              · simp only [List.getElem?_toArray, List.getElem?_cons_succ, List.getElem?_cons_zero] <;> rfl
              · kernel_rfl
              · kernel_rfl
              · kernel_rfl
              · exact fun _ _ _ h => h
              · exact Or.inl ⟨by rfl, fun _ _ => by go_simp⟩
              · exact hHeld
              simp only [Act.put, List.setIfInBounds_toArray, List.set_cons_zero, List.set_cons_succ]
              apply wpAnyH_take (i := 11) (v := .bool false)
              · simp only [List.getElem?_toArray, List.getElem?_cons_succ, List.getElem?_cons_zero] <;> rfl
              · kernel_rfl
              · kernel_rfl
              · kernel_rfl
              · exact fun _ _ _ h => h
              · exact Or.inl ⟨by rfl, fun _ _ => by go_simp⟩
              · exact hHeld
              simp only [Act.put, List.setIfInBounds_toArray, List.set_cons_zero, List.set_cons_succ]
              apply wpAnyH_take (i := 12) (v := .bool false)
              · simp only [List.getElem?_toArray, List.getElem?_cons_succ, List.getElem?_cons_zero] <;> rfl
              · kernel_rfl
              · kernel_rfl
              · kernel_rfl
              · exact fun _ _ _ h => h
              · exact Or.inl ⟨by rfl, fun _ _ => by go_simp⟩
              · exact hHeld
              simp only [Act.put, List.setIfInBounds_toArray, List.set_cons_zero, List.set_cons_succ]
              apply wpAnyH_ready (rs := [13]) (by kernel_rfl) (by simp)
              apply AllReadyH.cons
              · simp only [List.getElem?_toArray, List.getElem?_cons_succ, List.getElem?_cons_zero] <;> rfl
              rotate_left
              · exact AllReadyH.nil
              intro K hK
              rw [if_pos (by rfl)]
              apply wp_var 139
              · rfl
              · exact alloc139
              intro w9 N9
              have K09 := K08.trans N9.kp
              refine hK.out _ _ (range_kp VW K09 hvw) (fun hHeld => ?_)
              clear hK K
              try simp only [Act.put, List.setIfInBounds_toArray, List.set_cons_zero, List.set_cons_succ]
              have TH := there139 N9
              have s8 := K08.size
              obtain ⟨bv9, hbv⟩ : ∃ b, b = w8.heap.size := ⟨_, rfl⟩
              rw [← hbv] at TH
              rw [← hbv]
              apply wpAnyH_ready (rs := [14]) (by kernel_rfl) (by simp)
              apply AllReadyH.cons
              · simp only [List.getElem?_toArray, List.getElem?_cons_succ, List.getElem?_cons_zero] <;> rfl
              rotate_left
              · exact AllReadyH.nil
              intro K hK
              rw [if_pos (by rfl)]
              apply wp_putRow (b := bv9) (o := 0) 139 [.pointer none, .pointer none]
              · rfl
              · rfl
              · rfl
              · exact TH
              · exact size139
              · simp [Value.oneCell']
              intro wz KZ
              have KE : Kp [] ww wz := K09.news KZ (by simp; omega)
              refine hK.out _ _ (range_kp VW KE hvw) (fun hHeld => ?_)
              clear hK K
              try simp only [Act.put, List.setIfInBounds_toArray, List.set_cons_zero, List.set_cons_succ]
              apply wpAnyH_take (i := 15) (v := .bool false)
              · simp only [List.getElem?_toArray, List.getElem?_cons_succ, List.getElem?_cons_zero] <;> rfl
              · kernel_rfl
              · kernel_rfl
              · kernel_rfl
              · exact fun _ _ _ h => h
              · exact Or.inl ⟨by rfl, fun _ _ => by go_simp⟩
              · exact hHeld
              simp only [Act.put, List.setIfInBounds_toArray, List.set_cons_zero, List.set_cons_succ]
              apply wpAnyH_take (i := 16) (v := .bool false)
              · simp only [List.getElem?_toArray, List.getElem?_cons_succ, List.getElem?_cons_zero] <;> rfl
              · kernel_rfl
              · kernel_rfl
              · kernel_rfl
              · exact fun _ _ _ h => h
              · exact Or.inl ⟨by rfl, fun _ _ => by go_simp⟩
              · exact hHeld
              simp only [Act.put, List.setIfInBounds_toArray, List.set_cons_zero, List.set_cons_succ]
              refine wpAnyH_done (by kernel_rfl) ?_ _
              refine NoPanic.normal ?_
              have LZ := LW.kp0 KE
              clear hHeld KE KZ
              go_wp2_with fail
              go_roundw
              case rel => exact ⟨k + 1, us, l', sv2, M, E, by omega, by go_num, rfl, by omega, hll', HST, LZ⟩
              case measure => simp [intOf]; omega
            · apply AllReadyH.cons
              · simp only [List.getElem?_toArray, List.getElem?_cons_succ, List.getElem?_cons_zero] <;> rfl
              rotate_left
              · exact AllReadyH.nil
              intro K hK
              rw [if_pos (by rfl)]
              apply wp_var 139
              · rfl
              · exact alloc139
              intro w8 N8
              have K08 := KD.trans N8.kp
              refine hK.out _ _ (range_kp VW K08 hvw) (fun hHeld => ?_)
              clear hK K
              try simp only [Act.put, List.setIfInBounds_toArray, List.set_cons_zero, List.set_cons_succ]
              have TH8 := there139 N8
              have hs8 := N8.size
              have hs8' : (ww.drew).heap.size = ww.heap.size := rfl
              rw [hs8'] at TH8 hs8
              rw [hs8']
              apply wpAnyH_ready (rs := [8]) (by kernel_rfl) (by simp)
              apply AllReadyH.cons
              · simp only [List.getElem?_toArray, List.getElem?_cons_succ, List.getElem?_cons_zero] <;> rfl
              rotate_left
              · exact AllReadyH.nil
              intro K hK
              rw [if_pos (by rfl)]
              go_simp
              refine (heard_any tb lk m hop _ (LW.kp0 K08).tt.snd).mono ?_
              rintro e w9 ⟨rfl, K9⟩
              have K09 := K08.trans K9
              refine hK.out _ _ (range_kp VW K09 hvw) (fun hHeld => ?_)
              clear hK K
              try simp only [Act.put, List.setIfInBounds_toArray, List.set_cons_zero, List.set_cons_succ]
              have TH := there.kp0 TH8 K9 (by omega)
              apply wpAnyH_take (i := 9) (v := .tuple #[.agg #[.pointer none, .pointer none], .bool false, .bool false])
              · simp only [List.getElem?_toArray, List.getElem?_cons_succ, List.getElem?_cons_zero] <;> rfl
              · kernel_rfl
              · kernel_rfl
              · kernel_rfl
              · exact fun _ _ _ h => h
              · exact Or.inl ⟨by rfl, fun _ _ => by go_simp⟩
              · exact hHeld
              simp only [Act.put, List.setIfInBounds_toArray, List.set_cons_zero, List.set_cons_succ]
              apply wpAnyH_take (i := 10) (v := .agg #[.pointer none, .pointer none])
              · simp only [List.getElem?_toArray, List.getElem?_cons_succ, List.getElem?_cons_zero] <;> rfl
              · kernel_rfl
              · kernel_rfl
              · kernel_rfl
              · exact fun _ _ _ h => h
              · exact Or.inl ⟨by rfl, fun _ _ => by go_simp⟩
              · exact hHeld
              simp only [Act.put, List.setIfInBounds_toArray, List.set_cons_zero, List.set_cons_succ]
              apply wpAnyH_take (i := 11) (v := .bool false)
              · simp only [List.getElem?_toArray, List.getElem?_cons_succ, List.getElem?_cons_zero] <;> rfl
              · kernel_rfl
              · kernel_rfl
              · kernel_rfl
              · exact fun _ _ _ h => h
              · exact Or.inl ⟨by rfl, fun _ _ => by go_simp⟩
              · exact hHeld
              simp only [Act.put, List.setIfInBounds_toArray, List.set_cons_zero, List.set_cons_succ]
              apply wpAnyH_take (i := 12) (v := .bool false)
              · simp only [List.getElem?_toArray, List.getElem?_cons_succ, List.getElem?_cons_zero] <;> rfl
              · kernel_rfl
              · kernel_rfl
              · kernel_rfl
              · exact fun _ _ _ h => h
              · exact Or.inl ⟨by rfl, fun _ _ => by go_simp⟩
              · exact hHeld
              simp only [Act.put, List.setIfInBounds_toArray, List.set_cons_zero, List.set_cons_succ]
              apply wpAnyH_ready (rs := [14]) (by kernel_rfl) (by simp)
              apply AllReadyH.cons
              · simp only [List.getElem?_toArray, List.getElem?_cons_succ, List.getElem?_cons_zero] <;> rfl
              rotate_left
              · exact AllReadyH.nil
              intro K hK
              rw [if_pos (by rfl)]
              apply wp_putRow (b := ww.heap.size) (o := 0) 139 [.pointer none, .pointer none]
              · rfl
              · rfl
              · rfl
              · exact TH
              · exact size139
              · simp [Value.oneCell']
              intro wz KZ
              have KE : Kp [] ww wz := K09.news KZ (by simp)
              refine hK.out _ _ (range_kp VW KE hvw) (fun hHeld => ?_)
              clear hK K
              try simp only [Act.put, List.setIfInBounds_toArray, List.set_cons_zero, List.set_cons_succ]
              apply wpAnyH_take (i := 15) (v := .bool false)
              · simp only [List.getElem?_toArray, List.getElem?_cons_succ, List.getElem?_cons_zero] <;> rfl
              · kernel_rfl
              · kernel_rfl
              · kernel_rfl
              · exact fun _ _ _ h => h
              · exact Or.inl ⟨by rfl, fun _ _ => by go_simp⟩
              · exact hHeld
              simp only [Act.put, List.setIfInBounds_toArray, List.set_cons_zero, List.set_cons_succ]
              apply wpAnyH_take (i := 16) (v := .bool false)
              · simp only [List.getElem?_toArray, List.getElem?_cons_succ, List.getElem?_cons_zero] <;> rfl
              · kernel_rfl
              · kernel_rfl
              · kernel_rfl
              · exact fun _ _ _ h => h
              · exact Or.inl ⟨by rfl, fun _ _ => by go_simp⟩
              · exact hHeld
              simp only [Act.put, List.setIfInBounds_toArray, List.set_cons_zero, List.set_cons_succ]
              refine wpAnyH_done (by kernel_rfl) ?_ _
              refine NoPanic.normal ?_
              have LZ := LW.kp0 KE
              clear hHeld KE KZ
              go_wp2_with fail
              go_roundw
              case rel => exact ⟨k + 1, us, l', sv2, M, E, by omega, by go_num, rfl, by omega, hll', HST, LZ⟩
              case measure => simp [intOf]; omega
      · have hkn : k = n := by omega
        have c0 := L.bxa.cell
        have hf : Hid (ns.foldl (stepA pl bf true) ([], []) = (us, l)) := by
          have := hfold.out
          rw [hkn, ← hn, List.take_length] at this
          exact this
        clear hfold hkn
        go_wp2_with fail
        refine door13 _ _ _ rfl rfl rfl rfl L.tt.mu (L.aw.base.2.2 33) ?_
        have P := Put1.mk' (.int .i32 0) L.tt.mu
        generalize wr.setCell ⟨tb, 33, none⟩ (.int .i32 0) = wz at *
        obtain ⟨f1, f2⟩ : (ns.foldl (stepA pl bf true) ([], [])).1 = us ∧ (ns.foldl (stepA pl bf true) ([], [])).2 = l := by rw [hf.out]; exact ⟨rfl, rfl⟩
        rw [f1, f2]
        exact L.finish aB P
  case inr =>
    go_wp2_with (first
      | (go_at_call 27; refine (keeps_none lk _ nbh).mono ?_; rintro e w3 ⟨rfl, rfl⟩)
      | (go_at_call 28; refine (containsf_any nb n ns _ hn (by omega) T1.names false (by simp [hno])).mono ?_; rintro e w3 ⟨rfl, K3⟩))
    have N := New1.mk' w3 (.cells #[.slice none 0 0] 116)
    have hs3 := K3.size
    have L0 := LP.start T1 A1 k1 HS1.out r1 K3 N a
    generalize w3.alloc (.cells #[.slice none 0 0] 116) = Wx at *
    obtain ⟨ob, hob⟩ : ∃ ob, ob = w3.heap.size := ⟨_, rfl⟩
    rw [← hob]
    rw [← hob] at L0
    clear T1 A1 r1 K3 N nbh hs3 hob HS1 k1
    have aB : Ap tb lk fb sb nb (w.heap.size + 1) := a.up
    clear a bt h
    go_loopw [48, 9] (fun i wk wr => ∃ (k : Nat) (us : List Int) (l : List (Int × List Int)) (sv : Value) (M E : List Nat), k ≤ n ∧ i = .int .i64 k ∧ wk = .bool (us.length != 0) ∧ us.length ≤ k ∧ l.length ≤ k ∧ Hid ((ns.take k).foldl (stepA pl bf false) ([], []) = (us, l)) ∧ LP w wr tb lk fb sb nb w.heap.size ob (w.heap.size + 1) (.pointer none) bf sn pl ns us l sv M E) (fun i _ _ => n - (intOf i).toNat)
    case atStart => exact ⟨0, [], [], _, _, _, by omega, rfl, rfl, by simp, by simp, rfl, L0⟩
    case round =>
      clear L0
      obtain ⟨k, us, l, sv, M, E, hk, rfl, rfl, hus, hll, hfold, L⟩ := hrel
      have hlb := L.bxa.obl
      by_cases hlt : k < n
      · have hr := L.tt.names k (by omega)
        have hmem : ns[k] ∈ ns := List.getElem_mem _
        obtain ⟨m0, m1⟩ := msgs.out _ hmem
        have hstep : Hid ((ns.take (k + 1)).foldl (stepA pl bf false) ([], []) = stepA pl bf false (us, l) ns[k]) := by
          show _ = _
          rw [List.take_succ_eq_append_getElem (by omega), List.foldl_append, hfold.out]
          rfl
        clear hmem hfold
        generalize ns[k] = nm at *
        obtain ⟨m, hop⟩ := nm
        have hlt' : (k : Int) < n := by omega
        go_wp2_with (first
          | (refine wpList_load_mid rfl 99 _ rfl _ _ rfl (nmc m hop) _ hr Ybad.underlying99 rfl (size99i _ _) ?_)
          | (refine wpList_var rfl 99 rfl z99 alloc99 ?_; intro w4 N4)
          | (refine wpList_putRow rfl 99 rfl (b := wr.heap.size) (o := 0) (nmc m hop) rfl rfl (there99 N4 m hop) (size99i _ _) (nmc_one _ _) ?_; intro w5 K5 V5 s5; refine Hid.out ?_))
        refine Lib.hid ?_
        have K45 : Kp [] wr w5 := N4.kp.news K5 (by simp)
        have s4 := N4.size
        have L5 := L.kp0 K45
        have hvb : wr.heap.size < w5.heap.size := by omega
        obtain ⟨vb, hvbe⟩ : ∃ vb, vb = wr.heap.size := ⟨_, rfl⟩
        have fresh : ∀ i, i < wr.heap.size → i ≠ vb := fun i hi => by omega
        have AF : ∀ i ∈ M ++ E, i ≠ vb := fun i hi => fresh i (L.aw.lt i hi).2
        have OF : ∀ i ∈ (ob :: sv.ownBlock.toList), i ≠ vb := fun i hi => fresh i (L.own_lt i hi)
        have vB : w.heap.size + 1 ≤ vb := by have := L.aw.base.1; omega
        rw [← hvbe] at V5 hvb
        rw [← hvbe]
        clear N4 K5 K45 s4 s5 hr L hlb fresh hvbe
        go_wp2_with fail
        refine wp_region_kp (by kernel_rfl) (by kernel_rfl) ?_
        go_big_quiet_want
        go_big_quiet_op
        first | go_big_quiet_on | (refine ⟨_, fun _ _ => rfl, ?_⟩; go_big_quiet_on)
        go_big_quiet_want
        go_big_quiet_op
        first | go_big_quiet_on | (refine ⟨_, fun _ _ => rfl, ?_⟩; go_big_quiet_on)
        go_big_quiet_want
        go_big_quiet_op
        first | go_big_quiet_on | (refine ⟨_, fun _ _ => rfl, ?_⟩; go_big_quiet_on)
        go_big_quiet_want
        go_big_quiet_op
        first | go_big_quiet_on | (refine ⟨_, fun _ _ => rfl, ?_⟩; go_big_quiet_on)
        go_big_quiet_want
        refine quiet_load_mid 97 rfl rfl (idc m) Ybad.underlying97 rfl (size97i m) (fun w' k => range_kp (range_pre V5) k hvb) ?_
        simp only [Act.put, List.setIfInBounds_toArray, List.set_cons_zero, List.set_cons_succ]
        go_big_quiet_on
        go_big_quiet_want
        go_big_quiet_op
        first | go_big_quiet_on | (refine ⟨_, fun _ _ => rfl, ?_⟩; go_big_quiet_on)
        go_big_quiet_want
        refine quiet_call 30 _ _ rfl rfl (enter30 _) (fun w' k => (answered_any tb lk m w' m0 m1 (L5.kp0 k).tt.held).mono (fun e w'' h => ⟨h.1, k.trans h.2⟩)) ?_
        simp only [Act.put, List.setIfInBounds_toArray, List.set_cons_zero, List.set_cons_succ]
        go_big_quiet_on
        refine wpQuiet_nil ?_
        intro w6 K6
        have L6 := L5.kp0 K6
        have V6 := range_kp V5 K6 hvb
        have hvb6 : vb < w6.heap.size := Nat.lt_of_lt_of_le hvb K6.size
        have bxl : w.heap.size < w6.heap.size := by have := L6.aw.base.1; omega
        clear L5 V5 hvb K6
        go_wp2_with fail
        refine wp_region_kp (by kernel_rfl) (by kernel_rfl) ?_
        go_big_quiet_want
        go_big_quiet_op
        first | go_big_quiet_on | (refine ⟨_, fun _ _ => rfl, ?_⟩; go_big_quiet_on)
        go_big_quiet_want
        go_big_quiet_op
        first | go_big_quiet_on | (refine ⟨_, fun _ _ => rfl, ?_⟩; go_big_quiet_on)
        go_big_quiet_want
        go_big_quiet_op
        first | go_big_quiet_on | (refine ⟨_, fun _ _ => rfl, ?_⟩; go_big_quiet_on)
        go_big_quiet_want
        go_big_quiet_op
        first | go_big_quiet_on | (refine ⟨_, fun _ _ => rfl, ?_⟩; go_big_quiet_on)
        go_big_quiet_want
        refine quiet_load_mid 97 rfl rfl (idc m) Ybad.underlying97 rfl (size97i m) (fun w' k => range_kp (range_pre V6) k hvb6) ?_
        simp only [Act.put, List.setIfInBounds_toArray, List.set_cons_zero, List.set_cons_succ]
        go_big_quiet_on
        go_big_quiet_want
        refine quiet_load_mid 43 rfl rfl [.int .u64 0, .int .i64 0, .pointer none] Ybad.underlying43 rfl size43 (fun w' k => range_kp L6.tm k bxl) ?_
        simp only [Act.put, List.setIfInBounds_toArray, List.set_cons_zero, List.set_cons_succ]
        go_big_quiet_on
        go_big_quiet_want
        refine quiet_call 31 _ _ rfl rfl (enter31 _) (fun w' k => (place_any tb sb sn _ m w' m0 m1 (L6.kp0 k).tt.map (L6.kp0 k).tt.cur (L6.kp0 k).tt.prev (L6.kp0 k).tt.beg).mono (fun e w'' h => ⟨h.1, k.trans h.2⟩)) ?_
        simp only [Act.put, List.setIfInBounds_toArray, List.set_cons_zero, List.set_cons_succ]
        go_big_quiet_on
        go_big_quiet_want
        go_big_quiet_op
        first | go_big_quiet_on | (refine ⟨_, fun _ _ => rfl, ?_⟩; go_big_quiet_on)
        go_big_quiet_want
        go_big_quiet_op
        first | go_big_quiet_on | (refine ⟨_, fun _ _ => rfl, ?_⟩; go_big_quiet_on)
        go_big_quiet_want
        go_big_quiet_op
        first | go_big_quiet_on | (refine ⟨_, fun _ _ => rfl, ?_⟩; go_big_quiet_on)
        go_big_quiet_want
        go_big_quiet_op
        first | go_big_quiet_on | (refine ⟨_, fun _ _ => rfl, ?_⟩; go_big_quiet_on)
        go_big_quiet_want
        go_big_quiet_op
        first | go_big_quiet_on | (refine ⟨_, fun _ _ => rfl, ?_⟩; go_big_quiet_on)
        refine wpQuiet_nil ?_
        intro w7 K7
        have L7 := L6.kp0 K7
        have V7 := range_kp V6 K7 hvb6
        have hvb7 : vb < w7.heap.size := Nat.lt_of_lt_of_le hvb6 K7.size
        have bxl7 : w.heap.size < w7.heap.size := by have := L7.aw.base.1; omega
        clear L6 V6 hvb6 K7 bxl
        have hst := hstep.out
        unfold stepA at hst
        simp only at hst
        cases hpl : pl m with
        | none =>
          rw [hpl] at hst
          simp only [Option.map_none, Option.getD_none, Option.isSome_none]
          go_wp2_with fail
          have D7 := L7.kp0 ((Kp.refl [] w7).drew)
          have VD : (w7.drew).rangeAt vb 0 (nmc m hop) := V7
          by_cases hmu : m ∈ us
          · rw [if_pos hmu] at hst
            refine wp_region_noPanic ?_
            refine wp_region_held_drew (S := fun w' => w'.rangeAt vb 0 (nmc m hop) ∧ w'.rangeAt w.heap.size 0 [.int .u64 0, .int .i64 0, .pointer none]) (by kernel_rfl) (⟨VD, D7.tm⟩) (fun hHeld => ?_)
            apply wpAnyH_take (i := 0) (v := .pointer (some ⟨tb, 0, none⟩))
            · simp only [List.getElem?_toArray, List.getElem?_cons_succ, List.getElem?_cons_zero] <;> rfl
            · kernel_rfl
            · kernel_rfl
            · kernel_rfl
            · exact fun _ _ _ h => h
            · exact Or.inl ⟨by rfl, fun _ _ => by go_simp⟩
            · exact hHeld
            simp only [Act.put, List.setIfInBounds_toArray, List.set_cons_zero, List.set_cons_succ]
            apply wpAnyH_take (i := 1) (v := .pointer (some ⟨tb, 0, none⟩))
            · simp only [List.getElem?_toArray, List.getElem?_cons_succ, List.getElem?_cons_zero] <;> rfl
            · kernel_rfl
            · kernel_rfl
            · kernel_rfl
            · exact fun _ _ _ h => h
            · exact Or.inl ⟨by rfl, fun _ _ => by go_simp⟩
            · exact hHeld
            simp only [Act.put, List.setIfInBounds_toArray, List.set_cons_zero, List.set_cons_succ]
            apply wpAnyH_take (i := 2) (v := .pointer (some ⟨tb, 51, none⟩))
            · simp only [List.getElem?_toArray, List.getElem?_cons_succ, List.getElem?_cons_zero] <;> rfl
            · kernel_rfl
            · kernel_rfl
            · kernel_rfl
            · exact fun _ _ _ h => h
            · exact Or.inl ⟨by rfl, fun _ _ => by go_simp⟩
            · exact hHeld
            simp only [Act.put, List.setIfInBounds_toArray, List.set_cons_zero, List.set_cons_succ]
            apply wpAnyH_take (i := 3) (v := .pointer (some ⟨lk, 0, none⟩))
            · simp only [List.getElem?_toArray, List.getElem?_cons_succ, List.getElem?_cons_zero] <;> rfl
            · kernel_rfl
            · kernel_rfl
            · kernel_rfl
            · exact fun _ _ _ h => h
            · exact Or.inl ⟨by rfl, fun _ _ => by go_simp⟩
            · exact hHeld
            simp only [Act.put, List.setIfInBounds_toArray, List.set_cons_zero, List.set_cons_succ]
            apply wpAnyH_take (i := 4) (v := .pointer (some ⟨vb, 0, none⟩))
            · simp only [List.getElem?_toArray, List.getElem?_cons_succ, List.getElem?_cons_zero] <;> rfl
            · kernel_rfl
            · kernel_rfl
            · kernel_rfl
            · exact fun _ _ _ h => h
            · exact Or.inl ⟨by rfl, fun _ _ => by go_simp⟩
            · exact hHeld
            simp only [Act.put, List.setIfInBounds_toArray, List.set_cons_zero, List.set_cons_succ]
            apply wpAnyH_take (i := 5) (v := .agg (idc m).toArray)
            · simp only [List.getElem?_toArray, List.getElem?_cons_succ, List.getElem?_cons_zero] <;> rfl
            · kernel_rfl
            · kernel_rfl
            · kernel_rfl
            · exact fun _ _ _ h => h
            · exact yieldsIf_load_mid (by rfl) 97 _ rfl _ _ rfl (idc m) _ (fun _ h => range_pre h.1) Ybad.underlying97 rfl (size97i m)
            · exact hHeld
            simp only [Act.put, List.setIfInBounds_toArray, List.set_cons_zero, List.set_cons_succ]
            apply wpAnyH_take (i := 6) (v := .pointer (some ⟨vb, 33, none⟩))
            · simp only [List.getElem?_toArray, List.getElem?_cons_succ, List.getElem?_cons_zero] <;> rfl
            · kernel_rfl
            · kernel_rfl
            · kernel_rfl
            · exact fun _ _ _ h => h
            · exact Or.inl ⟨by rfl, fun _ _ => by go_simp⟩
            · exact hHeld
            simp only [Act.put, List.setIfInBounds_toArray, List.set_cons_zero, List.set_cons_succ]
            apply wpAnyH_take (i := 7) (v := .int .i64 hop)
            · simp only [List.getElem?_toArray, List.getElem?_cons_succ, List.getElem?_cons_zero] <;> rfl
            · kernel_rfl
            · kernel_rfl
            · kernel_rfl
            · exact fun _ _ _ h => h
            · exact yieldsIf_load_one (by rfl) 3 rfl rfl _ Ybad.underlying3 rfl (fun _ h => by have := h.1 33 _ (nmc_hops m hop); rwa [Nat.zero_add] at this)
            · exact hHeld
            simp only [Act.put, List.setIfInBounds_toArray, List.set_cons_zero, List.set_cons_succ]
            apply wpAnyH_take (i := 8) (v := .agg ([.int .u64 0, .int .i64 0, .pointer none]).toArray)
            · simp only [List.getElem?_toArray, List.getElem?_cons_succ, List.getElem?_cons_zero] <;> rfl
            · kernel_rfl
            · kernel_rfl
            · kernel_rfl
            · exact fun _ _ _ h => h
            · exact yieldsIf_load_mid (by rfl) 43 _ rfl _ _ rfl ([.int .u64 0, .int .i64 0, .pointer none]) _ (fun _ h => h.2) Ybad.underlying43 rfl (size43)
            · exact hHeld
            simp only [Act.put, List.setIfInBounds_toArray, List.set_cons_zero, List.set_cons_succ]
            apply wpAnyH_ready (rs := [9]) (by kernel_rfl) (by simp)
            apply AllReadyH.cons
            · simp only [List.getElem?_toArray, List.getElem?_cons_succ, List.getElem?_cons_zero] <;> rfl
            rotate_left
            · exact AllReadyH.nil
            intro K hK
            rw [if_pos (by rfl)]
            go_simp
            refine (announce_again tb lk _ us M E m hop _ m0 m1 D7.aw hmu (by omega)).mono ?_
            rintro e w8 ⟨rfl, K8⟩
            refine hK.out _ _ ⟨range_kp VD K8 hvb7, range_kp D7.tm K8 bxl7⟩ (fun hHeld => ?_)
            clear hK K
            try simp only [Act.put, List.setIfInBounds_toArray, List.set_cons_zero, List.set_cons_succ]
            refine wpAnyH_done (by kernel_rfl) ?_ _
            refine NoPanic.normal ?_
            have L8 := D7.kp0 K8
            clear hHeld D7 L7 VD V7 K8 hstep
            have HST : Hid ((ns.take (k + 1)).foldl (stepA pl bf false) ([], []) = (us, l)) := hst
            clear hst
            go_wp2_with fail
            go_roundw
            case rel => exact ⟨k + 1, us, l, sv, M, E, by omega, by go_num, rfl, by omega, by omega, HST, L8⟩
            case measure => simp [intOf]; omega
          · rw [if_neg hmu] at hst
            refine wp_region_noPanic ?_
            refine wp_region_held_drew (S := fun w' => w'.rangeAt vb 0 (nmc m hop) ∧ w'.rangeAt w.heap.size 0 [.int .u64 0, .int .i64 0, .pointer none]) (by kernel_rfl) (⟨VD, D7.tm⟩) (fun hHeld => ?_)
            apply wpAnyH_take (i := 0) (v := .pointer (some ⟨tb, 0, none⟩))
            · simp only [List.getElem?_toArray, List.getElem?_cons_succ, List.getElem?_cons_zero] <;> rfl
            · kernel_rfl
            · kernel_rfl
            · kernel_rfl
            · exact fun _ _ _ h => h
            · exact Or.inl ⟨by rfl, fun _ _ => by go_simp⟩
            · exact hHeld
            simp only [Act.put, List.setIfInBounds_toArray, List.set_cons_zero, List.set_cons_succ]
            apply wpAnyH_take (i := 1) (v := .pointer (some ⟨tb, 0, none⟩))
            · simp only [List.getElem?_toArray, List.getElem?_cons_succ, List.getElem?_cons_zero] <;> rfl
            · kernel_rfl
            · kernel_rfl
            · kernel_rfl
            · exact fun _ _ _ h => h
            · exact Or.inl ⟨by rfl, fun _ _ => by go_simp⟩
            · exact hHeld
            simp only [Act.put, List.setIfInBounds_toArray, List.set_cons_zero, List.set_cons_succ]
            apply wpAnyH_take (i := 2) (v := .pointer (some ⟨tb, 51, none⟩))
            · simp only [List.getElem?_toArray, List.getElem?_cons_succ, List.getElem?_cons_zero] <;> rfl
            · kernel_rfl
            · kernel_rfl
            · kernel_rfl
            · exact fun _ _ _ h => h
            · exact Or.inl ⟨by rfl, fun _ _ => by go_simp⟩
            · exact hHeld
            simp only [Act.put, List.setIfInBounds_toArray, List.set_cons_zero, List.set_cons_succ]
            apply wpAnyH_take (i := 3) (v := .pointer (some ⟨lk, 0, none⟩))
            · simp only [List.getElem?_toArray, List.getElem?_cons_succ, List.getElem?_cons_zero] <;> rfl
            · kernel_rfl
            · kernel_rfl
            · kernel_rfl
            · exact fun _ _ _ h => h
            · exact Or.inl ⟨by rfl, fun _ _ => by go_simp⟩
            · exact hHeld
            simp only [Act.put, List.setIfInBounds_toArray, List.set_cons_zero, List.set_cons_succ]
            apply wpAnyH_take (i := 4) (v := .pointer (some ⟨vb, 0, none⟩))
            · simp only [List.getElem?_toArray, List.getElem?_cons_succ, List.getElem?_cons_zero] <;> rfl
            · kernel_rfl
            · kernel_rfl
            · kernel_rfl
            · exact fun _ _ _ h => h
            · exact Or.inl ⟨by rfl, fun _ _ => by go_simp⟩
            · exact hHeld
            simp only [Act.put, List.setIfInBounds_toArray, List.set_cons_zero, List.set_cons_succ]
            apply wpAnyH_take (i := 5) (v := .agg (idc m).toArray)
            · simp only [List.getElem?_toArray, List.getElem?_cons_succ, List.getElem?_cons_zero] <;> rfl
            · kernel_rfl
            · kernel_rfl
            · kernel_rfl
            · exact fun _ _ _ h => h
            · exact yieldsIf_load_mid (by rfl) 97 _ rfl _ _ rfl (idc m) _ (fun _ h => range_pre h.1) Ybad.underlying97 rfl (size97i m)
            · exact hHeld
            simp only [Act.put, List.setIfInBounds_toArray, List.set_cons_zero, List.set_cons_succ]
            apply wpAnyH_take (i := 6) (v := .pointer (some ⟨vb, 33, none⟩))
            · simp only [List.getElem?_toArray, List.getElem?_cons_succ, List.getElem?_cons_zero] <;> rfl
            · kernel_rfl
            · kernel_rfl
            · kernel_rfl
            · exact fun _ _ _ h => h
            · exact Or.inl ⟨by rfl, fun _ _ => by go_simp⟩
            · exact hHeld
            simp only [Act.put, List.setIfInBounds_toArray, List.set_cons_zero, List.set_cons_succ]
            apply wpAnyH_take (i := 7) (v := .int .i64 hop)
            · simp only [List.getElem?_toArray, List.getElem?_cons_succ, List.getElem?_cons_zero] <;> rfl
            · kernel_rfl
            · kernel_rfl
            · kernel_rfl
            · exact fun _ _ _ h => h
            · exact yieldsIf_load_one (by rfl) 3 rfl rfl _ Ybad.underlying3 rfl (fun _ h => by have := h.1 33 _ (nmc_hops m hop); rwa [Nat.zero_add] at this)
            · exact hHeld
            simp only [Act.put, List.setIfInBounds_toArray, List.set_cons_zero, List.set_cons_succ]
            apply wpAnyH_take (i := 8) (v := .agg ([.int .u64 0, .int .i64 0, .pointer none]).toArray)
            · simp only [List.getElem?_toArray, List.getElem?_cons_succ, List.getElem?_cons_zero] <;> rfl
            · kernel_rfl
            · kernel_rfl
            · kernel_rfl
            · exact fun _ _ _ h => h
            · exact yieldsIf_load_mid (by rfl) 43 _ rfl _ _ rfl ([.int .u64 0, .int .i64 0, .pointer none]) _ (fun _ h => h.2) Ybad.underlying43 rfl (size43)
            · exact hHeld
            simp only [Act.put, List.setIfInBounds_toArray, List.set_cons_zero, List.set_cons_succ]
            apply wpAnyH_ready (rs := [9]) (by kernel_rfl) (by simp)
            apply AllReadyH.cons
            · simp only [List.getElem?_toArray, List.getElem?_cons_succ, List.getElem?_cons_zero] <;> rfl
            rotate_left
            · exact AllReadyH.nil
            intro K hK
            rw [if_pos (by rfl)]
            go_simp
            refine (announce_new tb lk _ us M E m hop _ m0 m1 D7.aw hmu (by omega)).mono ?_
            rintro e w8 ⟨rfl, M', E', A8, K8, hM8, hE8, ho8⟩
            have L8 := D7.grown aB A8 K8 hM8 hE8 ho8
            have vn : vb ∉ tb :: M := fun hm => by
              rcases List.mem_cons.1 hm with e | e
              · have := aB.t; omega
              · exact AF vb (List.mem_append_left _ e) rfl
            have HST : Hid ((ns.take (k + 1)).foldl (stepA pl bf false) ([], []) = (us ++ [m], l)) := hst
            refine hK.out _ _ ⟨K8.range VD hvb7 vn, L8.tm⟩ (fun hHeld => ?_)
            clear hK K
            try simp only [Act.put, List.setIfInBounds_toArray, List.set_cons_zero, List.set_cons_succ]
            refine wpAnyH_done (by kernel_rfl) ?_ _
            refine NoPanic.normal ?_
            clear hHeld D7 L7 VD V7 K8 hstep A8 hM8 hE8 ho8 hst
            by_cases hu : us.length = 0
            · have hd : (us.length == 0) = true := by simp [hu]
              go_wp2_with fail
              go_roundw
              case rel => exact ⟨k + 1, us ++ [m], l, sv, M', E', by omega, by go_num, by simp, by simp; omega, by omega, HST, L8⟩
              case measure => simp [intOf]; omega
            · have hd : (us.length == 0) = false := by simp [hu]
              have hd2 : (us.length != 0) = true := by simp [hu]
              go_wp2_with fail
              go_roundw
              case rel => exact ⟨k + 1, us ++ [m], l, sv, M', E', by omega, by go_num, by simp [hu], by simp; omega, by omega, HST, L8⟩
              case measure => simp [intOf]; omega
        | some q =>
          rw [hpl] at hst
          simp only at hst
          simp only [Option.map_some, Option.getD_some, Option.isSome_some]
          have c5 := L7.tt.bef
          have nbh := L7.tt.nbh
          by_cases hq : q < bf
          · rw [if_pos hq] at hst
            go_wp2_with (first
              | (go_at_call 27; refine (keeps_none lk _ nbh).mono ?_; rintro e w8 ⟨rfl, rfl⟩))
            have D7 := L7.kp0 ((Kp.refl [] w8).drew)
            have VD : (w8.drew).rangeAt vb 0 (nmc m hop) := V7
            refine wp_region_noPanic ?_
            refine wp_region_held_drew (S := fun w' => w'.rangeAt vb 0 (nmc m hop) ∧ w'.cell? ⟨tb, 32, none⟩ = some (.iface 89 (.pointer (some ⟨fb, 0, none⟩)))) (by kernel_rfl) (⟨VD, D7.tt.fr⟩) (fun hHeld => ?_)
            apply wpAnyH_take (i := 0) (v := .pointer (some ⟨lk, 0, none⟩))
            · simp only [List.getElem?_toArray, List.getElem?_cons_succ, List.getElem?_cons_zero] <;> rfl
            · kernel_rfl
            · kernel_rfl
            · kernel_rfl
            · exact fun _ _ _ h => h
            · exact Or.inl ⟨by rfl, fun _ _ => by go_simp⟩
            · exact hHeld
            simp only [Act.put, List.setIfInBounds_toArray, List.set_cons_zero, List.set_cons_succ]
            apply wpAnyH_take (i := 1) (v := .pointer (some ⟨tb, 0, none⟩))
            · simp only [List.getElem?_toArray, List.getElem?_cons_succ, List.getElem?_cons_zero] <;> rfl
            · kernel_rfl
            · kernel_rfl
            · kernel_rfl
            · exact fun _ _ _ h => h
            · exact Or.inl ⟨by rfl, fun _ _ => by go_simp⟩
            · exact hHeld
            simp only [Act.put, List.setIfInBounds_toArray, List.set_cons_zero, List.set_cons_succ]
            apply wpAnyH_take (i := 2) (v := .pointer (some ⟨tb, 0, none⟩))
            · simp only [List.getElem?_toArray, List.getElem?_cons_succ, List.getElem?_cons_zero] <;> rfl
            · kernel_rfl
            · kernel_rfl
            · kernel_rfl
            · exact fun _ _ _ h => h
            · exact Or.inl ⟨by rfl, fun _ _ => by go_simp⟩
            · exact hHeld
            simp only [Act.put, List.setIfInBounds_toArray, List.set_cons_zero, List.set_cons_succ]
            apply wpAnyH_take (i := 3) (v := .pointer (some ⟨tb, 32, none⟩))
            · simp only [List.getElem?_toArray, List.getElem?_cons_succ, List.getElem?_cons_zero] <;> rfl
            · kernel_rfl
            · kernel_rfl
            · kernel_rfl
            · exact fun _ _ _ h => h
            · exact Or.inl ⟨by rfl, fun _ _ => by go_simp⟩
            · exact hHeld
            simp only [Act.put, List.setIfInBounds_toArray, List.set_cons_zero, List.set_cons_succ]
            apply wpAnyH_take (i := 4) (v := .iface 89 (.pointer (some ⟨fb, 0, none⟩)))
            · simp only [List.getElem?_toArray, List.getElem?_cons_succ, List.getElem?_cons_zero] <;> rfl
            · kernel_rfl
            · kernel_rfl
            · kernel_rfl
            · exact fun _ _ _ h => h
            · exact yieldsIf_load_one (by rfl) 29 rfl rfl _ Ybad.underlying29 rfl (fun _ h => h.2)
            · exact hHeld
            simp only [Act.put, List.setIfInBounds_toArray, List.set_cons_zero, List.set_cons_succ]
            apply wpAnyH_take (i := 5) (v := .pointer (some ⟨vb, 0, none⟩))
            · simp only [List.getElem?_toArray, List.getElem?_cons_succ, List.getElem?_cons_zero] <;> rfl
            · kernel_rfl
            · kernel_rfl
            · kernel_rfl
            · exact fun _ _ _ h => h
            · exact Or.inl ⟨by rfl, fun _ _ => by go_simp⟩
            · exact hHeld
            simp only [Act.put, List.setIfInBounds_toArray, List.set_cons_zero, List.set_cons_succ]
            apply wpAnyH_take (i := 6) (v := .agg (idc m).toArray)
            · simp only [List.getElem?_toArray, List.getElem?_cons_succ, List.getElem?_cons_zero] <;> rfl
            · kernel_rfl
            · kernel_rfl
            · kernel_rfl
            · exact fun _ _ _ h => h
            · exact yieldsIf_load_mid (by rfl) 97 _ rfl _ _ rfl (idc m) _ (fun _ h => range_pre h.1) Ybad.underlying97 rfl (size97i m)
            · exact hHeld
            simp only [Act.put, List.setIfInBounds_toArray, List.set_cons_zero, List.set_cons_succ]
            apply wpAnyH_ready (rs := [7]) (by kernel_rfl) (by simp)
            apply AllReadyH.cons
            · simp only [List.getElem?_toArray, List.getElem?_cons_succ, List.getElem?_cons_zero] <;> rfl
            rotate_left
            · exact AllReadyH.nil
            intro K hK
            rw [if_pos (by rfl)]
            go_simp
            refine (announceM fb m (l.length : Int) _ m0 m1 D7.tt.calls D7.tt.cfz (by omega) (by omega)).mono ?_
            rintro e w9 ⟨g9, cap9, rfl, F9⟩
            have vf : vb ∉ [fb] := by have := aB.f; simp; omega
            have V9 := F9.kp.range VD hvb7 vf
            have T9 := D7.tt.called F9 aB.tf aB.lf aB.sf aB.nf
            refine hK.out _ _ ⟨V9, T9.fr⟩ (fun hHeld => ?_)
            clear hK K
            try simp only [Act.put, List.setIfInBounds_toArray, List.set_cons_zero, List.set_cons_succ]
            apply wpAnyH_ready (rs := [8]) (by kernel_rfl) (by simp)
            apply AllReadyH.cons
            · simp only [List.getElem?_toArray, List.getElem?_cons_succ, List.getElem?_cons_zero] <;> rfl
            rotate_left
            · exact AllReadyH.nil
            intro K hK
            rw [if_pos (by rfl)]
            go_simp
            refine (D7.send aB F9 (by omega) (bs := [1, m]) (by rfl)).mono ?_
            rintro e ww ⟨rfl, sv2, LW, KW⟩
            have vo : vb ∉ fb :: ob :: sv.ownBlock.toList := fun hm => by
              rcases List.mem_cons.1 hm with e | e
              · have := aB.f; omega
              · exact OF vb e rfl
            have VW := KW.range VD hvb7 vo
            have hvw : vb < ww.heap.size := Nat.lt_of_lt_of_le hvb7 KW.size
            refine hK.out _ _ ⟨VW, LW.tt.fr⟩ (fun hHeld => ?_)
            clear hK K
            try simp only [Act.put, List.setIfInBounds_toArray, List.set_cons_zero, List.set_cons_succ]
            refine wpAnyH_done (by kernel_rfl) ?_ _
            refine NoPanic.normal ?_
            clear hHeld V9 T9 F9 D7 VD L7 V7 hvb7 bxl7 KW vf vo c5 nbh
            have HST : Hid ((ns.take (k + 1)).foldl (stepA pl bf false) ([], []) = (us, l ++ [(7, frameA false m)])) := hst
            obtain ⟨l', hl'⟩ : ∃ l', l' = l ++ [(7, frameA false m)] := ⟨_, rfl⟩
            have hll' : l'.length ≤ k + 1 := by rw [hl']; simp; omega
            rw [← hl'] at HST
            replace LW := hl' ▸ LW
            clear hst hl' hstep
            go_wp2_with fail
            refine wp_region_noPanic ?_
            refine wp_region_held_drew (S := fun w' => w'.rangeAt vb 0 (nmc m hop)) (by kernel_rfl) (show (ww.drew).rangeAt vb 0 (nmc m hop) from VW) (fun hHeld => ?_)
            apply wpAnyH_take (i := 0) (v := .pointer (some ⟨tb, 0, none⟩))
            · simp only [List.getElem?_toArray, List.getElem?_cons_succ, List.getElem?_cons_zero] <;> rfl
            · kernel_rfl
            · kernel_rfl
            · kernel_rfl
            · exact fun _ _ _ h => h
            · exact Or.inl ⟨by rfl, fun _ _ => by go_simp⟩
            · exact hHeld
            simp only [Act.put, List.setIfInBounds_toArray, List.set_cons_zero, List.set_cons_succ]
            apply wpAnyH_take (i := 1) (v := .pointer (some ⟨tb, 0, none⟩))
            · simp only [List.getElem?_toArray, List.getElem?_cons_succ, List.getElem?_cons_zero] <;> rfl
            · kernel_rfl
            · kernel_rfl
            · kernel_rfl
            · exact fun _ _ _ h => h
            · exact Or.inl ⟨by rfl, fun _ _ => by go_simp⟩
            · exact hHeld
            simp only [Act.put, List.setIfInBounds_toArray, List.set_cons_zero, List.set_cons_succ]
            apply wpAnyH_take (i := 2) (v := .pointer (some ⟨tb, 62, none⟩))
            · simp only [List.getElem?_toArray, List.getElem?_cons_succ, List.getElem?_cons_zero] <;> rfl
            · kernel_rfl
            · kernel_rfl
            · kernel_rfl
            · exact fun _ _ _ h => h
            · exact Or.inl ⟨by rfl, fun _ _ => by go_simp⟩
            · exact hHeld
            simp only [Act.put, List.setIfInBounds_toArray, List.set_cons_zero, List.set_cons_succ]
            apply wpAnyH_take (i := 3) (v := .pointer (some ⟨vb, 0, none⟩))
            · simp only [List.getElem?_toArray, List.getElem?_cons_succ, List.getElem?_cons_zero] <;> rfl
            · kernel_rfl
            · kernel_rfl
            · kernel_rfl
            · exact fun _ _ _ h => h
            · exact Or.inl ⟨by rfl, fun _ _ => by go_simp⟩
            · exact hHeld
            simp only [Act.put, List.setIfInBounds_toArray, List.set_cons_zero, List.set_cons_succ]
            apply wpAnyH_take (i := 4) (v := .agg (idc m).toArray)
            · simp only [List.getElem?_toArray, List.getElem?_cons_succ, List.getElem?_cons_zero] <;> rfl
            · kernel_rfl
            · kernel_rfl
            · kernel_rfl
            · exact fun _ _ _ h => h
            · exact yieldsIf_load_mid (by rfl) 97 _ rfl _ _ rfl (idc m) _ (fun _ h => range_pre h) Ybad.underlying97 rfl (size97i m)
            · exact hHeld
            simp only [Act.put, List.setIfInBounds_toArray, List.set_cons_zero, List.set_cons_succ]
            apply wpAnyH_take (i := 5) (v := .pointer (some ⟨lk, 0, none⟩))
            · simp only [List.getElem?_toArray, List.getElem?_cons_succ, List.getElem?_cons_zero] <;> rfl
            · kernel_rfl
            · kernel_rfl
            · kernel_rfl
            · exact fun _ _ _ h => h
            · exact Or.inl ⟨by rfl, fun _ _ => by go_simp⟩
            · exact hHeld
            simp only [Act.put, List.setIfInBounds_toArray, List.set_cons_zero, List.set_cons_succ]
            apply wpAnyH_take (i := 6) (v := .pointer (some ⟨vb, 33, none⟩))
            · simp only [List.getElem?_toArray, List.getElem?_cons_succ, List.getElem?_cons_zero] <;> rfl
            · kernel_rfl
            · kernel_rfl
            · kernel_rfl
            · exact fun _ _ _ h => h
            · exact Or.inl ⟨by rfl, fun _ _ => by go_simp⟩
            · exact hHeld
            simp only [Act.put, List.setIfInBounds_toArray, List.set_cons_zero, List.set_cons_succ]
            apply wpAnyH_take (i := 7) (v := .int .i64 hop)
            · simp only [List.getElem?_toArray, List.getElem?_cons_succ, List.getElem?_cons_zero] <;> rfl
            · kernel_rfl
            · kernel_rfl
            · kernel_rfl
            · exact fun _ _ _ h => h
            · exact yieldsIf_load_one (by rfl) 3 rfl rfl _ Ybad.underlying3 rfl (fun _ h => by have := h 33 _ (nmc_hops m hop); rwa [Nat.zero_add] at this)
            · exact hHeld
            simp only [Act.put, List.setIfInBounds_toArray, List.set_cons_zero, List.set_cons_succ]
            have KD : Kp [] ww ww.drew := (Kp.refl [] ww).drew
            apply wpAnyH_ready (rs := [8, 13]) (by kernel_rfl) (by simp)
            apply AllReadyH.cons
            · simp only [List.getElem?_toArray, List.getElem?_cons_succ, List.getElem?_cons_zero] <;> rfl
            · intro K hK
              rw [if_pos (by rfl)]
              go_simp
              refine (heard_any tb lk m hop _ (LW.kp0 KD).tt.snd).mono ?_
              rintro e w8 ⟨rfl, K8⟩
              have K08 := KD.trans K8
              refine hK.out _ _ (range_kp VW K08 hvw) (fun hHeld => ?_)
              clear hK K
              try simp only [Act.put, List.setIfInBounds_toArray, List.set_cons_zero, List.set_cons_succ]
              apply wpAnyH_take (i := 9) (v := .tuple #[.agg #[.pointer none, .pointer none], .bool false, .bool false])
              · simp only [List.getElem?_toArray, List.getElem?_cons_succ, List.getElem?_cons_zero] <;> rfl
              · kernel_rfl
              · kernel_rfl
              · kernel_rfl
              · exact fun _ _ _ h => h
              · exact Or.inl ⟨by rfl, fun _ _ => by go_simp⟩
              · exact hHeld
              simp only [Act.put, List.setIfInBounds_toArray, List.set_cons_zero, List.set_cons_succ]
              apply wpAnyH_take (i := 10) (v := .agg #[.pointer none, .pointer none])
              · simp only [List.getElem?_toArray, List.getElem?_cons_succ, List.getElem?_cons_zero] <;> rfl
              · kernel_rfl
              · kernel_rfl
              · kernel_rfl
              · exact fun _ _ _ h => h
              · exact Or.inl ⟨by rfl, fun _ _ => by go_simp⟩
              · exact hHeld
              simp only [Act.put, List.setIfInBounds_toArray, List.set_cons_zero, List.set_cons_succ]
              apply wpAnyH_take (i := 11) (v := .bool false)
              · simp only [List.getElem?_toArray, List.getElem?_cons_succ, List.getElem?_cons_zero] <;> rfl
              · kernel_rfl
              · kernel_rfl
              · kernel_rfl
              · exact fun _ _ _ h => h
              · exact Or.inl ⟨by rfl, fun _ _ => by go_simp⟩
              · exact hHeld
              simp only [Act.put, List.setIfInBounds_toArray, List.set_cons_zero, List.set_cons_succ]
              apply wpAnyH_take (i := 12) (v := .bool false)
              · simp only [List.getElem?_toArray, List.getElem?_cons_succ, List.getElem?_cons_zero] <;> rfl
              · kernel_rfl
              · kernel_rfl
              · kernel_rfl
              · exact fun _ _ _ h => h
              · exact Or.inl ⟨by rfl, fun _ _ => by go_simp⟩
              · exact hHeld
              simp only [Act.put, List.setIfInBounds_toArray, List.set_cons_zero, List.set_cons_succ]
              apply wpAnyH_ready (rs := [13]) (by kernel_rfl) (by simp)
              apply AllReadyH.cons
              · simp only [List.getElem?_toArray, List.getElem?_cons_succ, List.getElem?_cons_zero] <;> rfl
              rotate_left
              · exact AllReadyH.nil
              intro K hK
              rw [if_pos (by rfl)]
              apply wp_var 139
              · rfl
              · exact alloc139
              intro w9 N9
              have K09 := K08.trans N9.kp
              refine hK.out _ _ (range_kp VW K09 hvw) (fun hHeld => ?_)
              clear hK K
              try simp only [Act.put, List.setIfInBounds_toArray, List.set_cons_zero, List.set_cons_succ]
              have TH := there139 N9
              have s8 := K08.size
              obtain ⟨bv9, hbv⟩ : ∃ b, b = w8.heap.size := ⟨_, rfl⟩
              rw [← hbv] at TH
              rw [← hbv]
              apply wpAnyH_ready (rs := [14]) (by kernel_rfl) (by simp)
              apply AllReadyH.cons
              · simp only [List.getElem?_toArray, List.getElem?_cons_succ, List.getElem?_cons_zero] <;> rfl
              rotate_left
              · exact AllReadyH.nil
              intro K hK
              rw [if_pos (by rfl)]
              apply wp_putRow (b := bv9) (o := 0) 139 [.pointer none, .pointer none]
              · rfl
              · rfl
              · rfl
              · exact TH
              · exact size139
              · simp [Value.oneCell']
              intro wz KZ
              have KE : Kp [] ww wz := K09.news KZ (by simp; omega)
              refine hK.out _ _ (range_kp VW KE hvw) (fun hHeld => ?_)
              clear hK K
              try simp only [Act.put, List.setIfInBounds_toArray, List.set_cons_zero, List.set_cons_succ]
              apply wpAnyH_take (i := 15) (v := .bool false)
              · simp only [List.getElem?_toArray, List.getElem?_cons_succ, List.getElem?_cons_zero] <;> rfl
              · kernel_rfl
              · kernel_rfl
              · kernel_rfl
              · exact fun _ _ _ h => h
              · exact Or.inl ⟨by rfl, fun _ _ => by go_simp⟩
              · exact hHeld
              simp only [Act.put, List.setIfInBounds_toArray, List.set_cons_zero, List.set_cons_succ]
              apply wpAnyH_take (i := 16) (v := .bool false)
              · simp only [List.getElem?_toArray, List.getElem?_cons_succ, List.getElem?_cons_zero] <;> rfl
              · kernel_rfl
              · kernel_rfl
              · kernel_rfl
              · exact fun _ _ _ h => h
              · exact Or.inl ⟨by rfl, fun _ _ => by go_simp⟩
              · exact hHeld
              simp only [Act.put, List.setIfInBounds_toArray, List.set_cons_zero, List.set_cons_succ]
              refine wpAnyH_done (by kernel_rfl) ?_ _
              refine NoPanic.normal ?_
              have LZ := LW.kp0 KE
              clear hHeld KE KZ
              go_wp2_with fail
              go_roundw
              case rel => exact ⟨k + 1, us, l', sv2, M, E, by omega, by go_num, rfl, by omega, hll', HST, LZ⟩
              case measure => simp [intOf]; omega
            · apply AllReadyH.cons
              · simp only [List.getElem?_toArray, List.getElem?_cons_succ, List.getElem?_cons_zero] <;> rfl
              rotate_left
              · exact AllReadyH.nil
              intro K hK
              rw [if_pos (by rfl)]
              apply wp_var 139
              · rfl
              · exact alloc139
              intro w8 N8
              have K08 := KD.trans N8.kp
              refine hK.out _ _ (range_kp VW K08 hvw) (fun hHeld => ?_)
              clear hK K
              try simp only [Act.put, List.setIfInBounds_toArray, List.set_cons_zero, List.set_cons_succ]
              have TH8 := there139 N8
              have hs8 := N8.size
              have hs8' : (ww.drew).heap.size = ww.heap.size := rfl
              rw [hs8'] at TH8 hs8
              rw [hs8']
              apply wpAnyH_ready (rs := [8]) (by kernel_rfl) (by simp)
              apply AllReadyH.cons
              · simp only [List.getElem?_toArray, List.getElem?_cons_succ, List.getElem?_cons_zero] <;> rfl
              rotate_left
              · exact AllReadyH.nil
              intro K hK
              rw [if_pos (by rfl)]
              go_simp
              refine (heard_any tb lk m hop _ (LW.kp0 K08).tt.snd).mono ?_
              rintro e w9 ⟨rfl, K9⟩
              have K09 := K08.trans K9
              refine hK.out _ _ (range_kp VW K09 hvw) (fun hHeld => ?_)
              clear hK K
              try simp only [Act.put, List.setIfInBounds_toArray, List.set_cons_zero, List.set_cons_succ]
              have TH := there.kp0 TH8 K9 (by omega)
              apply wpAnyH_take (i := 9) (v := .tuple #[.agg #[.pointer none, .pointer none], .bool false, .bool false])
              · simp only [List.getElem?_toArray, List.getElem?_cons_succ, List.getElem?_cons_zero] <;> rfl
              · kernel_rfl
              · kernel_rfl
              · kernel_rfl
              · exact fun _ _ _ h => h
              · exact Or.inl ⟨by rfl, fun _ _ => by go_simp⟩
              · exact hHeld
              simp only [Act.put, List.setIfInBounds_toArray, List.set_cons_zero, List.set_cons_succ]
              apply wpAnyH_take (i := 10) (v := .agg #[.pointer none, .pointer none])
              · simp only [List.getElem?_toArray, List.getElem?_cons_succ, List.getElem?_cons_zero] <;> rfl
              · kernel_rfl
              · kernel_rfl
              · kernel_rfl
              · exact fun _ _ _ h => h
              · exact Or.inl ⟨by rfl, fun _ _ => by go_simp⟩
              · exact hHeld
              simp only [Act.put, List.setIfInBounds_toArray, List.set_cons_zero, List.set_cons_succ]
              apply wpAnyH_take (i := 11) (v := .bool false)
              · simp only [List.getElem?_toArray, List.getElem?_cons_succ, List.getElem?_cons_zero] <;> rfl
              · kernel_rfl
              · kernel_rfl
              · kernel_rfl
              · exact fun _ _ _ h => h
              · exact Or.inl ⟨by rfl, fun _ _ => by go_simp⟩
              · exact hHeld
              simp only [Act.put, List.setIfInBounds_toArray, List.set_cons_zero, List.set_cons_succ]
              apply wpAnyH_take (i := 12) (v := .bool false)
              · simp only [List.getElem?_toArray, List.getElem?_cons_succ, List.getElem?_cons_zero] <;> rfl
              · kernel_rfl
              · kernel_rfl
              · kernel_rfl
              · exact fun _ _ _ h => h
              · exact Or.inl ⟨by rfl, fun _ _ => by go_simp⟩
              · exact hHeld
              simp only [Act.put, List.setIfInBounds_toArray, List.set_cons_zero, List.set_cons_succ]
              apply wpAnyH_ready (rs := [14]) (by kernel_rfl) (by simp)
              apply AllReadyH.cons
              · simp only [List.getElem?_toArray, List.getElem?_cons_succ, List.getElem?_cons_zero] <;> rfl
              rotate_left
              · exact AllReadyH.nil
              intro K hK
              rw [if_pos (by rfl)]
              apply wp_putRow (b := ww.heap.size) (o := 0) 139 [.pointer none, .pointer none]
              · rfl
              · rfl
              · rfl
              · exact TH
              · exact size139
              · simp [Value.oneCell']
              intro wz KZ
              have KE : Kp [] ww wz := K09.news KZ (by simp)
              refine hK.out _ _ (range_kp VW KE hvw) (fun hHeld => ?_)
              clear hK K
              try simp only [Act.put, List.setIfInBounds_toArray, List.set_cons_zero, List.set_cons_succ]
              apply wpAnyH_take (i := 15) (v := .bool false)
              · simp only [List.getElem?_toArray, List.getElem?_cons_succ, List.getElem?_cons_zero] <;> rfl
              · kernel_rfl
              · kernel_rfl
              · kernel_rfl
              · exact fun _ _ _ h => h
              · exact Or.inl ⟨by rfl, fun _ _ => by go_simp⟩
              · exact hHeld
              simp only [Act.put, List.setIfInBounds_toArray, List.set_cons_zero, List.set_cons_succ]
              apply wpAnyH_take (i := 16) (v := .bool false)
              · simp only [List.getElem?_toArray, List.getElem?_cons_succ, List.getElem?_cons_zero] <;> rfl
              · kernel_rfl
              · kernel_rfl
              · kernel_rfl
              · exact fun _ _ _ h => h
              · exact Or.inl ⟨by rfl, fun _ _ => by go_simp⟩
              · exact hHeld
              simp only [Act.put, List.setIfInBounds_toArray, List.set_cons_zero, List.set_cons_succ]
              refine wpAnyH_done (by kernel_rfl) ?_ _
              refine NoPanic.normal ?_
              have LZ := LW.kp0 KE
              clear hHeld KE KZ
              go_wp2_with fail
              go_roundw
              case rel => exact ⟨k + 1, us, l', sv2, M, E, by omega, by go_num, rfl, by omega, hll', HST, LZ⟩
              case measure => simp [intOf]; omega
          · rw [if_neg hq] at hst
            have HST : Hid ((ns.take (k + 1)).foldl (stepA pl bf false) ([], []) = (us, l)) := hst
            obtain ⟨l', hl'⟩ : ∃ l', l' = l := ⟨_, rfl⟩
            have hll' : l'.length ≤ k + 1 := by rw [hl']; omega
            rw [← hl'] at HST
            have LW : LP w w7 tb lk fb sb nb w.heap.size ob (w.heap.size + 1) (.pointer none) bf sn pl ns us l' sv M E := hl' ▸ L7
            have VW := V7
            have hvw := hvb7
            generalize w7 = ww at *
            clear hst hl' hstep L7 V7 hvb7 bxl7
            obtain ⟨sv2, hsv2⟩ : ∃ sv2, sv2 = sv := ⟨_, rfl⟩
            rw [← hsv2] at LW
            go_wp2_with fail
            refine wp_region_noPanic ?_
            refine wp_region_held_drew (S := fun w' => w'.rangeAt vb 0 (nmc m hop)) (by kernel_rfl) (show (ww.drew).rangeAt vb 0 (nmc m hop) from VW) (fun hHeld => ?_)
            apply wpAnyH_take (i := 0) (v := .pointer (some ⟨tb, 0, none⟩))
            · simp only [List.getElem?_toArray, List.getElem?_cons_succ, List.getElem?_cons_zero] <;> rfl
            · kernel_rfl
            · kernel_rfl
            · kernel_rfl
            · exact fun _ _ _ h => h
            · exact Or.inl ⟨by rfl, fun _ _ => by go_simp⟩
            · exact hHeld
            simp only [Act.put, List.setIfInBounds_toArray, List.set_cons_zero, List.set_cons_succ]
            apply wpAnyH_take (i := 1) (v := .pointer (some ⟨tb, 0, none⟩))
            · simp only [List.getElem?_toArray, List.getElem?_cons_succ, List.getElem?_cons_zero] <;> rfl
            · kernel_rfl
            · kernel_rfl
            · kernel_rfl
            · exact fun _ _ _ h => h
            · exact Or.inl ⟨by rfl, fun _ _ => by go_simp⟩
            · exact hHeld
            simp only [Act.put, List.setIfInBounds_toArray, List.set_cons_zero, List.set_cons_succ]
            apply wpAnyH_take (i := 2) (v := .pointer (some ⟨tb, 62, none⟩))
            · simp only [List.getElem?_toArray, List.getElem?_cons_succ, List.getElem?_cons_zero] <;> rfl
            · kernel_rfl
            · kernel_rfl
            · kernel_rfl
            · exact fun _ _ _ h => h
            · exact Or.inl ⟨by rfl, fun _ _ => by go_simp⟩
            · exact hHeld
            simp only [Act.put, List.setIfInBounds_toArray, List.set_cons_zero, List.set_cons_succ]
            apply wpAnyH_take (i := 3) (v := .pointer (some ⟨vb, 0, none⟩))
            · simp only [List.getElem?_toArray, List.getElem?_cons_succ, List.getElem?_cons_zero] <;> rfl
            · kernel_rfl
            · kernel_rfl
            · kernel_rfl
            · exact fun _ _ _ h => h
            · exact Or.inl ⟨by rfl, fun _ _ => by go_simp⟩
            · exact hHeld
            simp only [Act.put, List.setIfInBounds_toArray, List.set_cons_zero, List.set_cons_succ]
            apply wpAnyH_take (i := 4) (v := .agg (idc m).toArray)
            · simp only [List.getElem?_toArray, List.getElem?_cons_succ, List.getElem?_cons_zero] <;> rfl
            · kernel_rfl
            · kernel_rfl
            · kernel_rfl
            · exact fun _ _ _ h => h
            · exact yieldsIf_load_mid (by rfl) 97 _ rfl _ _ rfl (idc m) _ (fun _ h => range_pre h) Ybad.underlying97 rfl (size97i m)
            · exact hHeld
            simp only [Act.put, List.setIfInBounds_toArray, List.set_cons_zero, List.set_cons_succ]
            apply wpAnyH_take (i := 5) (v := .pointer (some ⟨lk, 0, none⟩))
            · simp only [List.getElem?_toArray, List.getElem?_cons_succ, List.getElem?_cons_zero] <;> rfl
            · kernel_rfl
            · kernel_rfl
            · kernel_rfl
            · exact fun _ _ _ h => h
            · exact Or.inl ⟨by rfl, fun _ _ => by go_simp⟩
            · exact hHeld
            simp only [Act.put, List.setIfInBounds_toArray, List.set_cons_zero, List.set_cons_succ]
            apply wpAnyH_take (i := 6) (v := .pointer (some ⟨vb, 33, none⟩))
            · simp only [List.getElem?_toArray, List.getElem?_cons_succ, List.getElem?_cons_zero] <;> rfl
            · kernel_rfl
            · kernel_rfl
            · kernel_rfl
            · exact fun _ _ _ h => h
            · exact Or.inl ⟨by rfl, fun _ _ => by go_simp⟩
            · exact hHeld
            simp only [Act.put, List.setIfInBounds_toArray, List.set_cons_zero, List.set_cons_succ]
            apply wpAnyH_take (i := 7) (v := .int .i64 hop)
            · simp only [List.getElem?_toArray, List.getElem?_cons_succ, List.getElem?_cons_zero] <;> rfl
            · kernel_rfl
            · kernel_rfl
            · kernel_rfl
            · exact fun _ _ _ h => h
            · exact yieldsIf_load_one (by rfl) 3 rfl rfl _ Ybad.underlying3 rfl (fun _ h => by have := h 33 _ (nmc_hops m hop); rwa [Nat.zero_add] at this)
            · exact hHeld
            simp only [Act.put, List.setIfInBounds_toArray, List.set_cons_zero, List.set_cons_succ]
            have KD : Kp [] ww ww.drew := (Kp.refl [] ww).drew
            apply wpAnyH_ready (rs := [8, 13]) (by kernel_rfl) (by simp)
            apply AllReadyH.cons
            · simp only [List.getElem?_toArray, List.getElem?_cons_succ, List.getElem?_cons_zero] <;> rfl
            · intro K hK
              rw [if_pos (by rfl)]
              go_simp
              refine (heard_any tb lk m hop _ (LW.kp0 KD).tt.snd).mono ?_
              rintro e w8 ⟨rfl, K8⟩
              have K08 := KD.trans K8
              refine hK.out _ _ (range_kp VW K08 hvw) (fun hHeld => ?_)
              clear hK K
              try simp only [Act.put, List.setIfInBounds_toArray, List.set_cons_zero, List.set_cons_succ]
              apply wpAnyH_take (i := 9) (v := .tuple #[.agg #[.pointer none, .pointer none], .bool false, .bool false])
              · simp only [List.getElem?_toArray, List.getElem?_cons_succ, List.getElem?_cons_zero] <;> rfl
              · kernel_rfl
              · kernel_rfl
              · kernel_rfl
              · exact fun _ _ _ h => h
              · exact Or.inl ⟨by rfl, fun _ _ => by go_simp⟩
              · exact hHeld
              simp only [Act.put, List.setIfInBounds_toArray, List.set_cons_zero, List.set_cons_succ]
              apply wpAnyH_take (i := 10) (v := .agg #[.pointer none, .pointer none])
              · simp only [List.getElem?_toArray, List.getElem?_cons_succ, List.getElem?_cons_zero] <;> rfl
              · kernel_rfl
              · kernel_rfl
              · kernel_rfl
              · exact fun _ _ _ h => h
              · exact Or.inl ⟨by rfl, fun _ _ => by go_simp⟩
              · exact hHeld
              simp only [Act.put, List.setIfInBounds_toArray, List.set_cons_zero, List.set_cons_succ]
              apply wpAnyH_take (i := 11) (v := .bool false)
              · simp only [List.getElem?_toArray, List.getElem?_cons_succ, List.getElem?_cons_zero] <;> rfl
              · kernel_rfl
              · kernel_rfl
              · kernel_rfl
              · exact fun _ _ _ h => h
              · exact Or.inl ⟨by rfl, fun _ _ => by go_simp⟩
              · exact hHeld
              simp only [Act.put, List.setIfInBounds_toArray, List.set_cons_zero, List.set_cons_succ]
              apply wpAnyH_take (i := 12) (v := .bool false)
              · simp only [List.getElem?_toArray, List.getElem?_cons_succ, List.getElem?_cons_zero] <;> rfl
              · kernel_rfl
              · kernel_rfl
              · kernel_rfl
              · exact fun _ _ _ h => h
              · exact Or.inl ⟨by rfl, fun _ _ => by go_simp⟩
              · exact hHeld
              simp only [Act.put, List.setIfInBounds_toArray, List.set_cons_zero, List.set_cons_succ]
              apply wpAnyH_ready (rs := [13]) (by kernel_rfl) (by simp)
              apply AllReadyH.cons
              · simp only [List.getElem?_toArray, List.getElem?_cons_succ, List.getElem?_cons_zero] <;> rfl
              rotate_left
              · exact AllReadyH.nil
              intro K hK
              rw [if_pos (by rfl)]
              apply wp_var 139
              · rfl
              · exact alloc139
              intro w9 N9
              have K09 := K08.trans N9.kp
              refine hK.out _ _ (range_kp VW K09 hvw) (fun hHeld => ?_)
              clear hK K
              try simp only [Act.put, List.setIfInBounds_toArray, List.set_cons_zero, List.set_cons_succ]
              have TH := there139 N9
              have s8 := K08.size
              obtain ⟨bv9, hbv⟩ : ∃ b, b = w8.heap.size := ⟨_, rfl⟩
              rw [← hbv] at TH
              rw [← hbv]
              apply wpAnyH_ready (rs := [14]) (by kernel_rfl) (by simp)
              apply AllReadyH.cons
              · simp only [List.getElem?_toArray, List.getElem?_cons_succ, List.getElem?_cons_zero] <;> rfl
              rotate_left
              · exact AllReadyH.nil
              intro K hK
              rw [if_pos (by rfl)]
              apply wp_putRow (b := bv9) (o := 0) 139 [.pointer none, .pointer none]
              · rfl
              · rfl
              · rfl
              · exact TH
              · exact size139
              · simp [Value.oneCell']
              intro wz KZ
              have KE : Kp [] ww wz := K09.news KZ (by simp; omega)
              refine hK.out _ _ (range_kp VW KE hvw) (fun hHeld => ?_)
              clear hK K
              try simp only [Act.put, List.setIfInBounds_toArray, List.set_cons_zero, List.set_cons_succ]
              apply wpAnyH_take (i := 15) (v := .bool false)
              · simp only [List.getElem?_toArray, List.getElem?_cons_succ, List.getElem?_cons_zero] <;> rfl
              · kernel_rfl
              · kernel_rfl
              · kernel_rfl
              · exact fun _ _ _ h => h
              · exact Or.inl ⟨by rfl, fun _ _ => by go_simp⟩
              · exact hHeld
              simp only [Act.put, List.setIfInBounds_toArray, List.set_cons_zero, List.set_cons_succ]
              apply wpAnyH_take (i := 16) (v := .bool false)
              · simp only [List.getElem?_toArray, List.getElem?_cons_succ, List.getElem?_cons_zero] <;> rfl
              · kernel_rfl
              · kernel_rfl
              · kernel_rfl
              · exact fun _ _ _ h => h
              · exact Or.inl ⟨by rfl, fun _ _ => by go_simp⟩
              · exact hHeld
              simp only [Act.put, List.setIfInBounds_toArray, List.set_cons_zero, List.set_cons_succ]
              refine wpAnyH_done (by kernel_rfl) ?_ _
              refine NoPanic.normal ?_
              have LZ := LW.kp0 KE
              clear hHeld KE KZ
              go_wp2_with fail
              go_roundw
              case rel => exact ⟨k + 1, us, l', sv2, M, E, by omega, by go_num, rfl, by omega, hll', HST, LZ⟩
              case measure => simp [intOf]; omega
            · apply AllReadyH.cons
              · simp only [List.getElem?_toArray, List.getElem?_cons_succ, List.getElem?_cons_zero] <;> rfl
              rotate_left
              · exact AllReadyH.nil
              intro K hK
              rw [if_pos (by rfl)]
              apply wp_var 139
              · rfl
              · exact alloc139
              intro w8 N8
              have K08 := KD.trans N8.kp
              refine hK.out _ _ (range_kp VW K08 hvw) (fun hHeld => ?_)
              clear hK K
              try simp only [Act.put, List.setIfInBounds_toArray, List.set_cons_zero, List.set_cons_succ]
              have TH8 := there139 N8
              have hs8 := N8.size
              have hs8' : (ww.drew).heap.size = ww.heap.size := rfl
              rw [hs8'] at TH8 hs8
              rw [hs8']
              apply wpAnyH_ready (rs := [8]) (by kernel_rfl) (by simp)
              apply AllReadyH.cons
              · simp only [List.getElem?_toArray, List.getElem?_cons_succ, List.getElem?_cons_zero] <;> rfl
              rotate_left
              · exact AllReadyH.nil
              intro K hK
              rw [if_pos (by rfl)]
              go_simp
              refine (heard_any tb lk m hop _ (LW.kp0 K08).tt.snd).mono ?_
              rintro e w9 ⟨rfl, K9⟩
              have K09 := K08.trans K9
              refine hK.out _ _ (range_kp VW K09 hvw) (fun hHeld => ?_)
              clear hK K
              try simp only [Act.put, List.setIfInBounds_toArray, List.set_cons_zero, List.set_cons_succ]
              have TH := there.kp0 TH8 K9 (by omega)
              apply wpAnyH_take (i := 9) (v := .tuple #[.agg #[.pointer none, .pointer none], .bool false, .bool false])
              · simp only [List.getElem?_toArray, List.getElem?_cons_succ, List.getElem?_cons_zero] <;> rfl
              · kernel_rfl
              · kernel_rfl
              · kernel_rfl
              · exact fun _ _ _ h => h
              · exact Or.inl ⟨by rfl, fun _ _ => by go_simp⟩
              · exact hHeld
              simp only [Act.put, List.setIfInBounds_toArray, List.set_cons_zero, List.set_cons_succ]
              apply wpAnyH_take (i := 10) (v := .agg #[.pointer none, .pointer none])
              · simp only [List.getElem?_toArray, List.getElem?_cons_succ, List.getElem?_cons_zero] <;> rfl
              · kernel_rfl
              · kernel_rfl
              · kernel_rfl
              · exact fun _ _ _ h => h
              · exact Or.inl ⟨by rfl, fun _ _ => by go_simp⟩
              · exact hHeld
              simp only [Act.put, List.setIfInBounds_toArray, List.set_cons_zero, List.set_cons_succ]
              apply wpAnyH_take (i := 11) (v := .bool false)
              · simp only [List.getElem?_toArray, List.getElem?_cons_succ, List.getElem?_cons_zero] <;> rfl
              · kernel_rfl
              · kernel_rfl
              · kernel_rfl
              · exact fun _ _ _ h => h
              · exact Or.inl ⟨by rfl, fun _ _ => by go_simp⟩
              · exact hHeld
              simp only [Act.put, List.setIfInBounds_toArray, List.set_cons_zero, List.set_cons_succ]
              apply wpAnyH_take (i := 12) (v := .bool false)
              · simp only [List.getElem?_toArray, List.getElem?_cons_succ, List.getElem?_cons_zero] <;> rfl
              · kernel_rfl
              · kernel_rfl
              · kernel_rfl
              · exact fun _ _ _ h => h
              · exact Or.inl ⟨by rfl, fun _ _ => by go_simp⟩
              · exact hHeld
              simp only [Act.put, List.setIfInBounds_toArray, List.set_cons_zero, List.set_cons_succ]
              apply wpAnyH_ready (rs := [14]) (by kernel_rfl) (by simp)
              apply AllReadyH.cons
              · simp only [List.getElem?_toArray, List.getElem?_cons_succ, List.getElem?_cons_zero] <;> rfl
              rotate_left
              · exact AllReadyH.nil
              intro K hK
              rw [if_pos (by rfl)]
              apply wp_putRow (b := ww.heap.size) (o := 0) 139 [.pointer none, .pointer none]
              · rfl
              · rfl
              · rfl
              · exact TH
              · exact size139
              · simp [Value.oneCell']
              intro wz KZ
              have KE : Kp [] ww wz := K09.news KZ (by simp)
              refine hK.out _ _ (range_kp VW KE hvw) (fun hHeld => ?_)
              clear hK K
              try simp only [Act.put, List.setIfInBounds_toArray, List.set_cons_zero, List.set_cons_succ]
              apply wpAnyH_take (i := 15) (v := .bool false)
              · simp only [List.getElem?_toArray, List.getElem?_cons_succ, List.getElem?_cons_zero] <;> rfl
              · kernel_rfl
              · kernel_rfl
              · kernel_rfl
              · exact fun _ _ _ h => h
              · exact Or.inl ⟨by rfl, fun _ _ => by go_simp⟩
              · exact hHeld
              simp only [Act.put, List.setIfInBounds_toArray, List.set_cons_zero, List.set_cons_succ]
              apply wpAnyH_take (i := 16) (v := .bool false)
              · simp only [List.getElem?_toArray, List.getElem?_cons_succ, List.getElem?_cons_zero] <;> rfl
              · kernel_rfl
              · kernel_rfl
              · kernel_rfl
              · exact fun _ _ _ h => h
              · exact Or.inl ⟨by rfl, fun _ _ => by go_simp⟩
              · exact hHeld
              simp only [Act.put, List.setIfInBounds_toArray, List.set_cons_zero, List.set_cons_succ]
              refine wpAnyH_done (by kernel_rfl) ?_ _
              refine NoPanic.normal ?_
              have LZ := LW.kp0 KE
              clear hHeld KE KZ
              go_wp2_with fail
              go_roundw
              case rel => exact ⟨k + 1, us, l', sv2, M, E, by omega, by go_num, rfl, by omega, hll', HST, LZ⟩
              case measure => simp [intOf]; omega
      · have hkn : k = n := by omega
        have c0 := L.bxa.cell
        have hf : Hid (ns.foldl (stepA pl bf false) ([], []) = (us, l)) := by
          have := hfold.out
          rw [hkn, ← hn, List.take_length] at this
          exact this
        clear hfold hkn
        go_wp2_with fail
        refine door13 _ _ _ rfl rfl rfl rfl L.tt.mu (L.aw.base.2.2 33) ?_
        have P := Put1.mk' (.int .i32 0) L.tt.mu
        generalize wr.setCell ⟨tb, 33, none⟩ (.int .i32 0) = wz at *
        obtain ⟨f1, f2⟩ : (ns.foldl (stepA pl bf false) ([], [])).1 = us ∧ (ns.foldl (stepA pl bf false) ([], [])).2 = l := by rw [hf.out]; exact ⟨rfl, rfl⟩
        rw [f1, f2]
        exact L.finish aB P
end Go.Proofs.YbulkdaeyDoor
