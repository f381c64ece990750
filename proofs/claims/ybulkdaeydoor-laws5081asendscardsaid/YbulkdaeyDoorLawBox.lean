import Derived.Test.YbulkdaeyDoorAll
/-
  The laws' two boxes; link 1 not joined. (The same lemmas as in ParentSome and Parent, for the claim on Sends.)
-/
namespace Go.Proofs.YbulkdaeyDoor
open Go.RowKit

theorem size22 : (Ybad.prog.info? 22).map (·.size) = some 32 := by kernel_rfl
theorem size_key22 {k : List UInt8} (hk : k.length = 32) : (Ybad.prog.info? 22).map (·.size) = some (kcl k).length := by rw [kcl_length, hk]; exact size22
theorem size_arr22 {k : List UInt8} (hk : k.length = 32) : (Ybad.prog.info? 22).map (·.size) = some (kcl k).toArray.size := by rw [List.size_toArray]; exact size_key22 hk
theorem key_eq22 (a b : List UInt8) (ha : a.length = 32) (hb : b.length = 32) (w : World) : (binOp .eql 22 (.agg (kcl a).toArray) (.agg (kcl b).toArray)).run Ybad.prog w = .ok (.bool (a == b)) w :=
  Go.run_eql_bytes w 22 5 32 Ybad.underlying22 Ybad.underlying5 Ybad.sizeOf5 a b ha hb

/-- The law's two boxes: self's at n, low's at n + 1. -/
structure Lb (w W : World) (sk low : List UInt8) : Prop where
  s : W.rangeAt w.heap.size 0 (kcl sk)
  l : W.rangeAt (w.heap.size + 1) 0 (kcl low)
  bel : Below w.heap.size w W
  lt : w.heap.size + 1 < W.heap.size

theorem there_new (w : World) (cs : List Value) (t : TypeId) (n : Nat) (h : cs.length = n) : (w.alloc (.cells cs.toArray t)).there w.heap.size 0 n := fun j hj => by
  refine ⟨(range_new w cs t).isSome j (by omega), Plain.thaw ⟨_, _, heap_alloc_new w _⟩ _⟩

theorem Lb.no (w : World) (sk lo : List UInt8) : Lb w ((w.alloc (.cells (kcl sk).toArray 22)).alloc (.cells (kcl lo).toArray 22)) sk lo := by
  have r1 := World.rangeAt_alloc (range_new w (kcl sk) 22) (.cells (kcl lo).toArray 22)
  have r2 := range_new (w.alloc (.cells (kcl sk).toArray 22)) (kcl lo) 22
  rw [show (w.alloc (.cells (kcl sk).toArray 22)).heap.size = w.heap.size + 1 by simp] at r2
  exact ⟨r1, r2, ((Below.refl _ _).alloc (Nat.le_refl _) _).alloc (by simp) _, by simp⟩

theorem law_there (w : World) (sk lo : List UInt8) (hk : sk.length = 32) (hlo : lo.length = 32) : ((w.alloc (.cells (kcl sk).toArray 22)).alloc (.cells (kcl lo).toArray 22)).there (w.heap.size + 1) 0 (kcl sk).toArray.size := by
  have := there_new (w.alloc (.cells (kcl sk).toArray 22)) (kcl lo) 22 32 (by rw [kcl_length, hlo])
  rw [show (w.alloc (.cells (kcl sk).toArray 22)).heap.size = w.heap.size + 1 by simp] at this
  rw [show (kcl sk).toArray.size = 32 by simp [kcl_length, hk]]
  exact this

theorem Lb.yes (w : World) (sk lo : List UInt8) (hk : sk.length = 32) (hlo : lo.length = 32) : Lb w (((w.alloc (.cells (kcl sk).toArray 22)).alloc (.cells (kcl lo).toArray 22)).setCells (w.heap.size + 1) 0 (kcl sk).toArray.toList) sk sk := by
  have h := Lb.no w sk lo
  have k := kp_setCells (w.heap.size + 1) (kcl sk).toArray.toList 0 ((w.alloc (.cells (kcl sk).toArray 22)).alloc (.cells (kcl lo).toArray 22))
  have ht := law_there w sk lo hk hlo
  rw [List.size_toArray] at ht
  exact ⟨fun j v hv => (k.cell (p := ⟨w.heap.size, 0 + j, none⟩) (show w.heap.size < _ by simp; omega) (by simp)).trans (h.s j v hv), World.rangeAt_setCells_same _ _ _ _ ht, h.bel.trans (k.toBelow (by simp; omega) (by simp)), Nat.lt_of_lt_of_le h.lt k.size⟩

theorem Lb.bel' {w W W' : World} {sk low : List UInt8} (h : Lb w W sk low) {n : Nat} (hn : w.heap.size + 2 ≤ n) (b : Below n W W') : Lb w W' sk low := by
  have hlt := h.lt
  exact ⟨fun j v hv => (b.cell (p := ⟨w.heap.size, 0 + j, none⟩) (show w.heap.size < n by omega)).trans (h.s j v hv), fun j v hv => (b.cell (p := ⟨w.heap.size + 1, 0 + j, none⟩) (show w.heap.size + 1 < n by omega)).trans (h.l j v hv), h.bel.trans (b.mono (by omega)), Nat.lt_of_lt_of_le hlt b.size⟩

theorem Tr.kp {w w' : World} {tb l1 l2 hb mb B0 : Nat} (h : Tr w tb l1 l2 hb mb B0) (k : Kp [] w w') : Tr w' tb l1 l2 hb mb B0 := by
  obtain ⟨es, c, i, h2, h3⟩ := h.look
  exact { h with links := (k.cell (p := ⟨tb, 35, none⟩) (lt_of_cell h.links) (by simp)).trans h.links, look := ⟨es, c, i, (k.block mb (heap_lt h2) (by simp)).trans h2, h3⟩ }

theorem wpList_load_g {ops : Array Oper} {rest : List Oper} {op : Oper} {a : Act} {w : World} {Q : Exit → Act → World → Prop} (hw : Region.wanted op (yielded ops a.tmps) = true) (x : Operand) (ho : op.op = .load 22 x)
    (b o : Nat) (hx : a.eval x = .pointer (some ⟨b, o, none⟩)) (k : List UInt8) (hk : k.length = 32) (hc : w.rangeAt b o (kcl k))
    (h : wpList Ybad.prog ops Q rest (a.put op.dst (.agg (kcl k).toArray)) w) : wpList Ybad.prog ops Q (op :: rest) a w :=
  wpList_step fun _ hK => by
    rw [if_pos hw]
    exact wp_load_mid 22 x ho b o hx (kcl k) _ hc Ybad.underlying22 rfl (size_key22 hk) (hK _ _ h)

theorem pvk_cases (k : Int) (a b : Value) : pvk k a b = .pointer none ∨ pvk k a b = a ∨ pvk k a b = b := by
  unfold pvk
  split
  · exact .inr (.inl rfl)
  · split
    · exact .inr (.inr rfl)
    · exact .inl rfl

/-- Out of the blocks: what TakeProbe and the law look at, link 1 not joined. -/
structure Z0 (w : World) (tb mb l2 : Nat) (pv : Value) : Prop where
  links : w.cell? ⟨tb, 35, none⟩ = some (.map (some mb))
  look : ∃ es c, w.heap[mb]? = some (.map es c) ∧ Instr.findNow (.int .i64) (.int .i64 1) es.toList 0 = some none
  mu : w.cell? ⟨tb, 33, none⟩ = some (.int .i32 0)
  thaw : w.frozen? ⟨tb, 33, none⟩ = false
  par : w.cell? ⟨tb, 37, none⟩ = some pv
  lazy2 : w.cell? ⟨l2, 2, none⟩ = some (.bool false)
  child2 : w.cell? ⟨l2, 3, none⟩ = some (.bool true)
  ne : l2 ≠ tb

theorem B0s.facts {w w' : World} {tb mb hb l2 : Nat} {sk : List UInt8} {pv : Value} (h : B0s w w' tb mb hb l2 sk pv) : Z0 w' tb mb l2 pv := by
  obtain ⟨⟨⟨S, t1, t2⟩, b2, b3, b4⟩, bel, tge, hge, ge2, n2, n3⟩ := h
  exact ⟨by simp [World.cell?, t1, t2.links], ⟨_, _, b2, by rfl⟩, by simp [World.cell?, t1, t2.mu], Plain.thaw ⟨_, _, t1⟩ 33, by simp [World.cell?, t1, t2.par], by simp [World.cell?, b4, linkC], by simp [World.cell?, b4, linkC], n3⟩

theorem Z0.kp {w w' : World} {tb mb l2 : Nat} {pv : Value} (h : Z0 w tb mb l2 pv) (k : Kp [] w w') : Z0 w' tb mb l2 pv := by
  obtain ⟨es, c, h2, h3⟩ := h.look
  have bt : tb < w.heap.size := lt_of_cell h.mu
  have b2 : l2 < w.heap.size := lt_of_cell h.lazy2
  exact ⟨(k.cell bt (by simp)).trans h.links, ⟨es, c, (k.block mb (heap_lt h2) (by simp)).trans h2, h3⟩, (k.cell bt (by simp)).trans h.mu, (k.frozen bt (by simp)).trans h.thaw, (k.cell bt (by simp)).trans h.par, (k.cell b2 (by simp)).trans h.lazy2, (k.cell b2 (by simp)).trans h.child2, h.ne⟩

/-- TakeProbe there. -/
theorem takeProbe_z (tb mb l2 : Nat) (low : List UInt8) (hops x y : Int) (pv : Value) (w : World) (h : Z0 w tb mb l2 pv) :
    Calls Ybad.prog 7 #[.pointer (some ⟨tb, 0, none⟩), .int .i64 1, .agg (kcl low).toArray, .int .i64 hops, .agg #[.int .u64 x, .int .i64 y, .pointer none]] w fun e w' =>
      e = .returned (.tuple #[.slice none 0 0, .nilIface]) ∧ Kp [tb] w w' ∧ w'.cell? ⟨tb, 37, none⟩ = some pv ∧ w'.cell? ⟨l2, 2, none⟩ = some (.bool false) ∧ w'.cell? ⟨l2, 3, none⟩ = some (.bool true) := by
  obtain ⟨es, c, h2, h3⟩ := h.look
  have hne := h.ne
  refine (takeProbe_absent tb mb low hops x y w h.links es c h2 h3 h.mu h.thaw).mono ?_
  rintro e w' ⟨rfl, L⟩
  have b2 : l2 < w.heap.size := lt_of_cell h.lazy2
  exact ⟨rfl, L.kp, (L.cells 37 (by decide)).trans h.par, (L.kp.cell b2 (by simp [hne])).trans h.lazy2, (L.kp.cell b2 (by simp [hne])).trans h.child2⟩

end Go.Proofs.YbulkdaeyDoor
