import Derived.Test.YbulkdaeyDoorCBuild
import Derived.Test.YbulkdaeyDoorAnnNo
/-
  LawS5081CAnnounce: its names.
-/
namespace Go.Proofs.YbulkdaeyDoor
open Go.RowKit Go.BigFrame
set_option linter.unusedSimpArgs false

/-- The names in a slice that came in. -/
def NQ (w : World) (p : Option Addr) (rs : List (Int × Int)) : Prop := rs ≠ [] → ∃ b o, p = some ⟨b, o, none⟩ ∧ b < w.heap.size ∧ ∀ (i : Nat) (h : i < rs.length), w.rangeAt b (o + i * 2) [.int .u8 rs[i].1, .int .i8 rs[i].2]
theorem NQ.kp {w w' : World} {p : Option Addr} {rs : List (Int × Int)} (h : NQ w p rs) (k : Kp [] w w') : NQ w' p rs := fun hne => by
  obtain ⟨b, o, h1, h2, h3⟩ := h hne
  exact ⟨b, o, h1, Nat.lt_of_lt_of_le h2 k.size, fun i hi => range_kp (h3 i hi) k h2⟩

theorem CB.kp {w w' : World} {tb lk fb sb mb sn : Nat} {nbv : Value} {bf : Int} {pl : Int → Option Int} {L : List Nat} (h : CB w tb lk fb sb mb nbv bf sn pl) (k : Kp L w w') (h1 : tb ∉ L) (h2 : lk ∉ L) (h3 : fb ∉ L) (h4 : sb ∉ L) (h5 : mb ∉ L) : CB w' tb lk fb sb mb nbv bf sn pl := by
  have bl : lk < w.heap.size := lt_of_cell h.hd
  have bf' : fb < w.heap.size := lt_of_cell h.calls
  have e2 : ∀ o, w'.cell? ⟨lk, o, none⟩ = w.cell? ⟨lk, o, none⟩ := fun o => k.cell (p := ⟨lk, o, none⟩) bl h2
  obtain ⟨es, c, i, hm, hf⟩ := h.look
  exact { h with
    ct := h.ct.kp k h1
    map := h.map.kp k h4
    look := ⟨es, c, i, (k.block mb (Array.getElem?_eq_some_iff.1 hm).1 h5).trans hm, hf⟩
    hd := (e2 _).trans h.hd
    tree := (e2 _).trans h.tree
    nbh := (e2 _).trans h.nbh
    bef := (e2 _).trans h.bef
    calls := (k.cell (p := ⟨fb, 0, none⟩) bf' h3).trans h.calls
    cfz := (k.frozen (p := ⟨fb, 0, none⟩) bf' h3).trans h.cfz }
theorem CB.lts {w : World} {tb lk fb sb mb sn : Nat} {nbv : Value} {bf : Int} {pl : Int → Option Int} (h : CB w tb lk fb sb mb nbv bf sn pl) : tb < w.heap.size ∧ lk < w.heap.size ∧ fb < w.heap.size ∧ sb < w.heap.size ∧ mb < w.heap.size := by
  obtain ⟨es, c, i, hm, hf⟩ := h.look
  exact ⟨lt_of_cell h.ct.fr, lt_of_cell h.hd, lt_of_cell h.calls, h.map.lt, (Array.getElem?_eq_some_iff.1 hm).1⟩

/-- The names as TakeAnnounce takes them. -/
def nsOf (rs : List (Int × Int)) : List (Int × Int) := rs.map fun r => (r.1 % 16, r.2)

/-- While the names are laid. -/
structure F1 (w wr : World) (tb lk fb sb mb nb : Nat) (nbv : Value) (bf : Int) (sn : Nat) (pl : Int → Option Int) (rs : List (Int × Int)) (k : Nat) : Prop where
  cb : CB wr tb lk fb sb mb nbv bf sn pl
  kp : Kp [] w wr
  laid : ∀ (i : Nat) (h : i < rs.length), i < k → wr.rangeAt nb (i * 34) (nmc (rs[i].1 % 16) rs[i].2)
  th : wr.there nb 0 (rs.length * 34)
  n1 : tb < nb
  n2 : lk < nb
  n3 : fb < nb
  n4 : sb < nb
  n5 : mb < nb
  nlt : nb < wr.heap.size
  gn : w.heap.size ≤ nb

theorem F1.start {w w1 w2 : World} {tb lk fb sb mb sn : Nat} {nbv : Value} {bf : Int} {pl : Int → Option Int} {rs : List (Int × Int)} {C : Array Value} (c : CB w1 tb lk fb sb mb nbv bf sn pl) (K1 : Kp [] w w1) (hC : C.size = rs.length * 34) (N : New1 w1 w2 (.cells C 99)) : F1 w w2 tb lk fb sb mb w1.heap.size nbv bf sn pl rs 0 := by
  obtain ⟨h1, h2, h3, h4, h5⟩ := c.lts
  have s := N.size
  refine ⟨c.kp N.kp (by simp) (by simp) (by simp) (by simp) (by simp), K1.trans N.kp, fun _ _ h => by omega, fun j hj => ⟨?_, Plain.thaw ⟨_, _, N.at'⟩ _⟩, h1, h2, h3, h4, h5, by omega, K1.size⟩
  simp [World.cell?, N.at', hC]
  omega
/-- One of the names bears a hop count. -/
def hopA (rs : List (Int × Int)) : Bool := rs.any fun r => decide (0 < r.2)
theorem hopA_succ (rs : List (Int × Int)) (k : Nat) (h : k < rs.length) : hopA (rs.take (k + 1)) = (hopA (rs.take k) || decide (0 < rs[k].2)) := by
  unfold hopA
  rw [List.take_succ_eq_append_getElem h, List.any_append]
  simp
theorem hopA_any (rs : List (Int × Int)) : hopA rs = true ↔ AnyHop (nsOf rs) := by
  unfold hopA AnyHop nsOf
  rw [List.any_eq_true]
  constructor
  · rintro ⟨r, hr, h⟩
    exact ⟨(r.1 % 16, r.2), List.mem_map.2 ⟨r, hr, rfl⟩, by simpa using h⟩
  · rintro ⟨p, hp, h⟩
    obtain ⟨r, hr, rfl⟩ := List.mem_map.1 hp
    exact ⟨r, hr, by simpa using h⟩
theorem F1.kp0 {w wr wr' : World} {tb lk fb sb mb nb sn k : Nat} {nbv : Value} {bf : Int} {pl : Int → Option Int} {rs : List (Int × Int)} (h : F1 w wr tb lk fb sb mb nb nbv bf sn pl rs k) (K : Kp [] wr wr') : F1 w wr' tb lk fb sb mb nb nbv bf sn pl rs k :=
  { h with
    cb := h.cb.kp K (by simp) (by simp) (by simp) (by simp) (by simp)
    kp := h.kp.trans K
    laid := fun i hi hk => range_kp (h.laid i hi hk) K h.nlt
    th := there.kp0 h.th K h.nlt
    nlt := Nat.lt_of_lt_of_le h.nlt K.size }

theorem F1.lay {w wr wr' : World} {tb lk fb sb mb nb sn k : Nat} {nbv : Value} {bf : Int} {pl : Int → Option Int} {rs : List (Int × Int)} (h : F1 w wr tb lk fb sb mb nb nbv bf sn pl rs k) (hk : k < rs.length) (K : Kp [nb] wr wr') (hr : wr'.rangeAt nb (k * 34) (nmc (rs[k].1 % 16) rs[k].2)) (hoth : ∀ o, (o < k * 34 ∨ k * 34 + 34 ≤ o) → wr'.cell? ⟨nb, o, none⟩ = wr.cell? ⟨nb, o, none⟩) (hth : wr'.there nb 0 (rs.length * 34)) : F1 w wr' tb lk fb sb mb nb nbv bf sn pl rs (k + 1) := by
  have n1 := h.n1; have n2 := h.n2; have n3 := h.n3; have n4 := h.n4; have n5 := h.n5
  have gn := h.gn
  refine { h with
    cb := h.cb.kp K (by simp; omega) (by simp; omega) (by simp; omega) (by simp; omega) (by simp; omega)
    kp := h.kp.news K (by simpa using gn)
    laid := fun i hi hik => ?_
    th := hth
    nlt := Nat.lt_of_lt_of_le h.nlt K.size }
  by_cases e : i = k
  · subst e; exact hr
  · intro j v hv
    have hj : j < 34 := by have := (List.getElem?_eq_some_iff.1 hv).1; rw [nmc_len] at this; exact this
    rw [hoth (i * 34 + j) (.inl (by omega))]
    exact h.laid i hi (by omega) j v hv

theorem F1.ta {w wr : World} {tb lk fb sb mb nb sn : Nat} {nbv : Value} {bf : Int} {pl : Int → Option Int} {rs : List (Int × Int)} (h : F1 w wr tb lk fb sb mb nb nbv bf sn pl rs rs.length) (hs : rs.length ≤ 1024) (hr : ∀ r ∈ rs, 0 ≤ r.1) : TA wr tb lk fb sb nb mb nbv bf sn pl (nsOf rs) := by
  have n1 := h.n1; have n2 := h.n2; have n3 := h.n3; have n4 := h.n4; have n5 := h.n5; have nl := h.nlt
  have c := h.cb
  refine ⟨⟨c.ct.fr, c.ct.mu, c.ct.cur, c.ct.prev, c.ct.beg, c.ct.held, c.ct.snd, c.map, c.hd, c.nbh, c.bef, c.calls, c.cfz, fun i hi => ?_, nl⟩, ⟨by omega, by omega, by omega, by omega, nl, c.tl, c.tf, c.ts, by omega, c.lf, c.sf, by omega⟩, c.ct.links, c.look, c.tree, c.ct.c51, c.ct.c52, c.ct.c54, c.ct.thaw, by simpa [nsOf] using hs, fun p hp => ?_, c.mt⟩
  · have hi' : i < rs.length := by simpa [nsOf] using hi
    have := h.laid i hi' hi'
    simpa [nsOf] using this
  · obtain ⟨r, hr1, rfl⟩ := List.mem_map.1 hp
    have := hr r hr1
    exact ⟨by simp only; omega, by simp only; omega⟩

theorem alloc95 (w : World) : (Instr.alloc 95 true (.tuple #[])).run Ybad.prog w = .ok (.pointer (some ⟨w.heap.size, 0, none⟩)) (w.alloc (.cells #[.int .u8 0, .int .i8 0] 95)) := by simp [go_sem]
theorem size95 : (Ybad.prog.info? 95).map (·.size) = some 2 := by kernel_rfl
theorem there95 {w w' : World} (N : New1 w w' (.cells #[.int .u8 0, .int .i8 0] 95)) : w'.there w.heap.size 0 2 := by
  intro j hj
  refine ⟨?_, Plain.thaw ⟨_, _, N.at'⟩ _⟩
  simp [World.cell?, N.at']
  omega
theorem info99 : (Ybad.prog.info? 99).map (fun i => (i.size, i.bytes)) = some (34, 48) := by kernel_rfl
theorem info99z : ∃ z, ((Ybad.prog.info? 99).bind (·.zero)) = some z := by
  have h : ((Ybad.prog.info? 99).bind (·.zero)).isSome = true := by kernel_rfl
  exact Option.isSome_iff_exists.1 h
theorem wpList_names {ops : Array Oper} {rest : List Oper} {op : Oper} {a : Act} {w : World} {Q : Exit → Act → World → Prop} (hgd : op.guard = none) {x y : Operand} (ho : op.op = .makeSlice 92 x y) (n : Nat) (hx : a.eval x = .int .i64 (n : Int)) (hy : a.eval y = .int .i64 (n : Int)) (hn : n ≤ 1024)
    (h : ∀ C w', C.size = n * 34 → New1 w w' (.cells C 99) → wpList Ybad.prog ops Q rest (a.put op.dst (.slice (some ⟨w.heap.size, 0, none⟩) n n)) w') : wpList Ybad.prog ops Q (op :: rest) a w :=
  wpList_plain hgd fun _ hK => by
    obtain ⟨i, hi, he⟩ := Option.map_eq_some_iff.1 info99
    obtain ⟨z, hz⟩ := info99z
    simp only [Prod.mk.injEq] at he
    rw [hi] at hz
    have hr := run_makeSlice (P := Ybad.prog) w 92 99 i z Ybad.underlying92 hi hz .i64 .i64 (n : Int) (n : Int) (by omega) (by omega) (by rw [he.1]; simp; omega) (by rw [he.2]; omega) (by omega)
    simp only [Int.toNat_natCast, he.1] at hr
    unfold Oper.wp execOp
    simp only [ho, hx, hy, Sem.run_bind, hr, Result.andThen_ok, Sem.run_pure]
    exact hK _ _ (h _ _ (size_madeCells _ _) (New1.mk' w _))
theorem wpList_putMid {ops : Array Oper} {rest : List Oper} {op : Oper} {a : Act} {w : World} {Q : Exit → Act → World → Prop} (hgd : op.guard = none) (t : TypeId) {x y : Operand} (ho : op.op = .store t x y) {b o : Nat} (cs : List Value) (hx : a.eval x = .pointer (some ⟨b, o, none⟩)) (hy : a.eval y = .agg cs.toArray)
    (ht : w.there b o cs.length) (hi : (Ybad.prog.info? t).map (·.size) = some cs.length) (h1 : ∀ v ∈ cs, v.oneCell' = true) (h : ∀ w', Kp [b] w w' → w'.rangeAt b o cs → (∀ o', (o' < o ∨ o + cs.length ≤ o') → w'.cell? ⟨b, o', none⟩ = w.cell? ⟨b, o', none⟩) → (∀ n, w.there b 0 n → w'.there b 0 n) → wpList Ybad.prog ops Q rest (a.put op.dst undef) w') : wpList Ybad.prog ops Q (op :: rest) a w := by
  refine wpList_store_mid hgd t x y ho b o cs.toArray hx hy (by simpa using ht) (by simpa using hi) (all_oneCell_toArray h1) ?_
  have k := kp_setC b cs o w
  simpa using h _ (by simpa using k) (by simpa using World.rangeAt_setCells_same _ _ _ _ ht) (fun o' ho' => by simpa using World.cell?_setCells_out _ _ _ _ ⟨b, o', none⟩ (fun _ _ => ho')) (fun n hn => by simpa using World.there_setCells hn _ _ _)
end Go.Proofs.YbulkdaeyDoor
