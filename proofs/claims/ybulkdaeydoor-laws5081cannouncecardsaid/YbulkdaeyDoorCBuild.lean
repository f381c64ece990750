import Derived.Test.YbulkdaeyDoorTakeAnn
import Derived.Test.YbulkdaeyDoorNew
/-
  zzs5081cbuild.
-/
namespace Go.Proofs.YbulkdaeyDoor
open Go.RowKit Go.BigFrame

def key0 : List UInt8 := List.replicate 32 0
def key2 : List UInt8 := 2 :: List.replicate 31 0
theorem key0_len : key0.length = 32 := by rfl
theorem key2_len : key2.length = 32 := by rfl
theorem size39 : (Ybad.prog.info? 39).map (·.size) = some 1 := by kernel_rfl
theorem size40 : (Ybad.prog.info? 40).map (·.size) = some 1 := by kernel_rfl
theorem size84 : (Ybad.prog.info? 84).map (·.size) = some 1 := by kernel_rfl
theorem b27z : Ybad.prog.built 27 [] = some (kcl key0).toArray := by kernel_rfl
theorem b27o : Ybad.prog.built 27 [(0, .int .u8 1)] = some (kcl key1).toArray := by kernel_rfl
theorem b27t : Ybad.prog.built 27 [(0, .int .u8 2)] = some (kcl key2).toArray := by kernel_rfl
theorem b97 (m : Int) : Ybad.prog.built 97 [(0, .agg (kcl key1).toArray), (1, .int .u64 m)] = some (idc m).toArray := by kernel_rfl
theorem b99 (m h : Int) : Ybad.prog.built 99 [(0, .agg (idc m).toArray), (1, .int .i64 h)] = some (nmc m h).toArray := by kernel_rfl
theorem b87 (bf : Int) (hb : Nat) : Ybad.prog.built 87 [(0, .int .i64 7), (1, .bool true), (5, .int .u64 bf), (6, .pointer (some ⟨hb, 0, none⟩))] = some #[.int .i64 7, .bool true, .bool false, .bool false, .pointer none, .int .u64 bf, .pointer (some ⟨hb, 0, none⟩)] := by kernel_rfl
theorem b128 : ∃ S, Ybad.prog.built 128 [(0, .agg (kcl key2).toArray)] = some S := by
  have h : (Ybad.prog.built 128 [(0, .agg (kcl key2).toArray)]).isSome = true := by kernel_rfl
  exact Option.isSome_iff_exists.1 h
theorem b69_raw (fb ma mb : Nat) : (Ybad.prog.built 69 [(0, .agg (kcl key0).toArray), (1, .iface 89 (.pointer (some ⟨fb, 0, none⟩))), (3, .map (some ma)), (4, .map (some mb))]).map (fun S => (S[32]?, S[33]?, S[35]?, S[38]?, S[39]?, S[40]?, S[41]?, S[42]?, S[43]?, S[44]?, S[51]?, S[52]?, S[54]?, S[62]?)) =
    some (some (.iface 89 (.pointer (some ⟨fb, 0, none⟩))), some (.int .i32 0), some (.map (some ma)), some (.map none), some (.map none), some (.int .u64 0), some (.int .u64 0), some (.int .i64 0), some (.pointer none), some (.map none), some (.map none), some (.slice none 0 0), some (.map none), some (.map none)) := by kernel_rfl

/-- The tree's cells that the road looks at. -/
structure CT (w : World) (tb fb ma : Nat) (cur : Value) : Prop where
  fr : w.cell? ⟨tb, 32, none⟩ = some (.iface 89 (.pointer (some ⟨fb, 0, none⟩)))
  mu : w.cell? ⟨tb, 33, none⟩ = some (.int .i32 0)
  links : w.cell? ⟨tb, 35, none⟩ = some (.map (some ma))
  cur : w.cell? ⟨tb, 38, none⟩ = some cur
  prev : w.cell? ⟨tb, 39, none⟩ = some (.map none)
  added : ∃ v, w.cell? ⟨tb, 40, none⟩ = some v
  beg : w.rangeAt tb 41 [.int .u64 0, .int .i64 0, .pointer none]
  held : w.cell? ⟨tb, 44, none⟩ = some (.map none)
  c51 : w.cell? ⟨tb, 51, none⟩ = some (.map none)
  c52 : w.cell? ⟨tb, 52, none⟩ = some (.slice none 0 0)
  c54 : w.cell? ⟨tb, 54, none⟩ = some (.map none)
  snd : w.cell? ⟨tb, 62, none⟩ = some (.map none)
  thaw : ∀ o, w.frozen? ⟨tb, o, none⟩ = false

theorem CT.new {w : World} {tb fb ma mb : Nat} {S : Array Value} (hS : Ybad.prog.built 69 [(0, .agg (kcl key0).toArray), (1, .iface 89 (.pointer (some ⟨fb, 0, none⟩))), (3, .map (some ma)), (4, .map (some mb))] = some S) (hw : w.heap[tb]? = some (.cells S 69)) : CT w tb fb ma (.map none) := by
  have hr := b69_raw fb ma mb
  rw [hS] at hr
  simp only [Option.map_some, Option.some.injEq, Prod.mk.injEq] at hr
  obtain ⟨h1, h2, h3, h4, h5, h6, h7, h8, h9, h10, h11, h12, h13, h14⟩ := hr
  have e : ∀ o v, S[o]? = some v → w.cell? ⟨tb, o, none⟩ = some v := fun o v hv => by simp [World.cell?, hw, hv]
  refine ⟨e _ _ h1, e _ _ h2, e _ _ h3, e _ _ h4, e _ _ h5, ⟨_, e _ _ h6⟩, fun j v hv => ?_, e _ _ h10, e _ _ h11, e _ _ h12, e _ _ h13, e _ _ h14, fun o => Plain.thaw ⟨_, _, hw⟩ o⟩
  match j with
  | 0 => simp at hv; subst hv; exact e _ _ h7
  | 1 => simp at hv; subst hv; exact e _ _ h8
  | 2 => simp at hv; subst hv; exact e _ _ h9
  | _ + 3 => simp at hv

theorem CT.kp {w w' : World} {tb fb ma : Nat} {cur : Value} {L : List Nat} (h : CT w tb fb ma cur) (k : Kp L w w') (hn : tb ∉ L) : CT w' tb fb ma cur := by
  have bt : tb < w.heap.size := lt_of_cell h.fr
  have e : ∀ o, w'.cell? ⟨tb, o, none⟩ = w.cell? ⟨tb, o, none⟩ := fun o => k.cell (p := ⟨tb, o, none⟩) bt hn
  obtain ⟨v, hv⟩ := h.added
  exact ⟨(e _).trans h.fr, (e _).trans h.mu, (e _).trans h.links, (e _).trans h.cur, (e _).trans h.prev, ⟨v, (e _).trans hv⟩, k.range h.beg bt hn, (e _).trans h.held, (e _).trans h.c51, (e _).trans h.c52, (e _).trans h.c54, (e _).trans h.snd, fun o => (k.frozen (p := ⟨tb, o, none⟩) bt hn).trans (h.thaw o)⟩
theorem CT.put {w w' : World} {tb fb ma : Nat} {cur v : Value} (h : CT w tb fb ma cur) (P : Put1 w w' tb 38 v) : CT w' tb fb ma v := by
  have e := P.other
  obtain ⟨u, hu⟩ := h.added
  refine ⟨(e _ (by omega)).trans h.fr, (e _ (by omega)).trans h.mu, (e _ (by omega)).trans h.links, P.same, (e _ (by omega)).trans h.prev, ⟨u, (e _ (by omega)).trans hu⟩, fun j v hv => ?_, (e _ (by omega)).trans h.held, (e _ (by omega)).trans h.c51, (e _ (by omega)).trans h.c52, (e _ (by omega)).trans h.c54, (e _ (by omega)).trans h.snd, fun o => (P.thaw _).trans (h.thaw o)⟩
  have hj : j < 3 := (List.getElem?_eq_some_iff.1 hv).1
  exact (e (41 + j) (by omega)).trans (h.beg j v hv)
theorem CT.put40 {w w' : World} {tb fb ma : Nat} {cur v : Value} (h : CT w tb fb ma cur) (P : Put1 w w' tb 40 v) : CT w' tb fb ma cur := by
  have e := P.other
  refine ⟨(e _ (by omega)).trans h.fr, (e _ (by omega)).trans h.mu, (e _ (by omega)).trans h.links, (e _ (by omega)).trans h.cur, (e _ (by omega)).trans h.prev, ⟨v, P.same⟩, fun j v hv => ?_, (e _ (by omega)).trans h.held, (e _ (by omega)).trans h.c51, (e _ (by omega)).trans h.c52, (e _ (by omega)).trans h.c54, (e _ (by omega)).trans h.snd, fun o => (P.thaw _).trans (h.thaw o)⟩
  have hj : j < 3 := (List.getElem?_eq_some_iff.1 hv).1
  exact (e (41 + j) (by omega)).trans (h.beg j v hv)

/-- Behind New: the tree, its two maps. -/
structure NC (w w' : World) (tb fb ma : Nat) : Prop where
  kp : Kp [] w w'
  ct : CT w' tb fb ma (.map none)
  map : w'.heap[ma]? = some (.map #[] 0)
  ge : w.heap.size ≤ tb
  gm : w.heap.size ≤ ma
  ne : ma ≠ tb

set_option maxRecDepth 20000 in
set_option maxHeartbeats 800000 in
theorem newC (fb : Nat) (w : World) : Calls Ybad.prog 14 #[.agg (kcl key0).toArray, .iface 89 (.pointer (some ⟨fb, 0, none⟩))] w fun e w' => ∃ tb ma, e = .returned (.pointer (some ⟨tb, 0, none⟩)) ∧ NC w w' tb fb ma := by
  have r1 := range_new w (kcl key0) 27
  have K0 : Kp [] w (w.alloc (.cells (kcl key0).toArray 27)) := (Kp.refl _ w).alloc _
  have hs0 : Hid ((w.alloc (.cells (kcl key0).toArray 27)).heap.size = w.heap.size + 1) := by show _ = _; simp
  go_enter Ybad.func14, Ybad.ntmps14
  go_wp2_with (first
    | (refine wpList_load_mid rfl 27 _ rfl _ _ rfl (kcl key0) _ (by exact r1) Ybad.underlying27 rfl (size_key key0_len) ?_; refine Hid.out ?_))
  refine Lib.hid ?_
  generalize w.alloc (.cells (kcl key0).toArray 27) = W at *
  go_wp2_with (first
    | (refine wpList_newMap rfl 37 rfl ?_; intro w3 N3)
    | (refine wpList_newMap rfl 38 rfl ?_; intro w4 N4; refine Hid.out ?_))
  refine Lib.hid ?_
  obtain ⟨S, hS, -⟩ := Option.map_eq_some_iff.1 (b69_raw fb W.heap.size w3.heap.size)
  go_wp2_with (first
    | (refine wpList_build rfl 69 _ rfl #[(0, .agg (kcl key0).toArray), (1, .iface 89 (.pointer (some ⟨fb, 0, none⟩))), (3, .map (some W.heap.size)), (4, .map (some w3.heap.size))] (by simp only [List.map_toArray, List.map_cons, List.map_nil]; rfl) S hS ?_)
    | (refine wpList_boxed rfl 69 rfl S rfl ?_; intro w5 N5))
  go_ret
  have s0 := hs0.out
  have s3 := N3.size
  have s4 := N4.size
  have s5 := N5.size
  refine ⟨w4.heap.size, W.heap.size, rfl, ((K0.trans N3.kp).trans N4.kp).trans N5.kp, CT.new hS N5.at', ?_, by omega, by omega, by omega⟩
  rw [(N4.kp.trans N5.kp).block _ (by omega) (by simp)]
  exact N3.at'

/-- Numbers in a slice that came in. -/
def SQ (w : World) (p : Option Addr) (xs : List Int) : Prop := xs ≠ [] → ∃ b o, p = some ⟨b, o, none⟩ ∧ b < w.heap.size ∧ ∀ (i : Nat) (h : i < xs.length), w.cell? ⟨b, o + i, none⟩ = some (.int .u8 xs[i])
theorem SQ.kp {w w' : World} {p : Option Addr} {xs : List Int} (h : SQ w p xs) (k : Kp [] w w') : SQ w' p xs := fun hne => by
  obtain ⟨b, o, h1, h2, h3⟩ := h hne
  exact ⟨b, o, h1, Nat.lt_of_lt_of_le h2 k.size, fun i hi => (k.cell (p := ⟨b, o + i, none⟩) h2 (by simp)).trans (h3 i hi)⟩

/-- The place of the last of the first k that bears the message m. -/
def pU (xs : List Int) : Nat → Int → Option Int
  | 0, _ => none
  | k + 1, m => if xs.getD k 0 % 16 = m then some (k : Int) else pU xs k m

/-- The built tree. -/
structure CB (w : World) (tb lk fb sb mb : Nat) (nbv : Value) (bf : Int) (sn : Nat) (pl : Int → Option Int) : Prop where
  ct : CT w tb fb mb (.map (some sb))
  map : MF w sb sn (fun m => (pl m).map (Value.int .u64))
  look : ∃ es c i, w.heap[mb]? = some (.map es c) ∧ Instr.findNow (.int .i64) (.int .i64 7) es.toList 0 = some (some (i, .pointer (some ⟨lk, 0, none⟩)))
  hd : w.cell? ⟨lk, 0, none⟩ = some (.int .i64 7)
  tree : w.cell? ⟨lk, 1, none⟩ = some (.bool true)
  nbh : w.cell? ⟨lk, 4, none⟩ = some nbv
  bef : w.cell? ⟨lk, 5, none⟩ = some (.int .u64 bf)
  calls : w.cell? ⟨fb, 0, none⟩ = some (.int .i64 0)
  cfz : w.frozen? ⟨fb, 0, none⟩ = false
  tl : tb ≠ lk
  tf : tb ≠ fb
  ts : tb ≠ sb
  lf : lk ≠ fb
  sf : sb ≠ fb
  mt : mb ≠ tb

/-- While the seen record is laid. -/
structure Bd (w wr : World) (tb fb ma sb sn : Nat) (f : Int → Option Value) : Prop where
  ct : CT wr tb fb ma (.map (some sb))
  map : MF wr sb sn f
  kp : Kp [] w wr
  calls : wr.cell? ⟨fb, 0, none⟩ = some (.int .i64 0)
  cfz : wr.frozen? ⟨fb, 0, none⟩ = false
  emp : wr.heap[ma]? = some (.map #[] 0)
  gt : w.heap.size ≤ tb
  gf : w.heap.size ≤ fb
  gs : w.heap.size ≤ sb
  gm : w.heap.size ≤ ma
  tf : tb ≠ fb
  ts : tb ≠ sb
  sf : sb ≠ fb
  mt : ma ≠ tb
  ms : ma ≠ sb
  mf : ma ≠ fb

theorem Bd.start {w w2 w3 w4 w5 : World} {tb ma : Nat} (N2 : New1 w w2 (.cells #[.int .i64 0] 103)) (C3 : NC w2 w3 tb w.heap.size ma) (N4 : New1 w3 w4 (.map #[] 0)) (P5 : Put1 w4 w5 tb 38 (.map (some w3.heap.size))) :
    Bd w w5 tb w.heap.size ma w3.heap.size 0 (fun _ => none) := by
  have s2 := N2.size
  have s3 := C3.kp.size
  have s4 := N4.size
  have s5 := P5.size
  have gt := C3.ge
  have gm := C3.gm
  have tlt : tb < w3.heap.size := lt_of_cell C3.ct.fr
  have mlt : ma < w3.heap.size := (Array.getElem?_eq_some_iff.1 C3.map).1
  have k24 : Kp [] w2 w4 := C3.kp.trans N4.kp
  have hf5 : w5.heap[w.heap.size]? = some (.cells #[.int .i64 0] 103) := by
    rw [P5.kp.block _ (by omega) (by simp; omega), k24.block _ (by omega) (by simp)]; exact N2.at'
  refine ⟨(C3.ct.kp N4.kp (by simp)).put P5, MF.new (c := 0) ?_, ((N2.kp.trans k24)).news P5.kp (by simp; omega), by simp [World.cell?, hf5], Plain.thaw ⟨_, _, hf5⟩ 0, ?_, by omega, by omega, by omega, by omega, by omega, by omega, by omega, C3.ne, by omega, by omega⟩
  · rw [P5.kp.block _ (by omega) (by simp; omega)]; exact N4.at'
  · rw [P5.kp.block _ (by omega) (by simpa using C3.ne), N4.kp.block _ mlt (by simp)]; exact C3.map
theorem Bd.turn {w wr wr' : World} {tb fb ma sb sn sn' : Nat} {f f' : Int → Option Value} (h : Bd w wr tb fb ma sb sn f) (k : Kp [sb] wr wr') (hM : MF wr' sb sn' f') : Bd w wr' tb fb ma sb sn' f' := by
  have hf : fb < wr.heap.size := lt_of_cell h.calls
  have hm : ma < wr.heap.size := (Array.getElem?_eq_some_iff.1 h.emp).1
  have hgs := h.gs
  exact { h with
    ct := h.ct.kp k (by simpa using h.ts)
    map := hM
    kp := h.kp.news k (by simpa using hgs)
    calls := (k.cell (p := ⟨fb, 0, none⟩) hf (by simpa using Ne.symm h.sf)).trans h.calls
    cfz := (k.frozen (p := ⟨fb, 0, none⟩) hf (by simpa using Ne.symm h.sf)).trans h.cfz
    emp := (k.block ma hm (by simpa using h.ms)).trans h.emp }

theorem Bd.kp0 {w wr wr' : World} {tb fb ma sb sn : Nat} {f : Int → Option Value} (h : Bd w wr tb fb ma sb sn f) (k : Kp [] wr wr') : Bd w wr' tb fb ma sb sn f := by
  have hf : fb < wr.heap.size := lt_of_cell h.calls
  have hm : ma < wr.heap.size := (Array.getElem?_eq_some_iff.1 h.emp).1
  exact { h with
    ct := h.ct.kp k (by simp)
    map := h.map.kp k (by simp)
    kp := h.kp.trans k
    calls := (k.cell (p := ⟨fb, 0, none⟩) hf (by simp)).trans h.calls
    cfz := (k.frozen (p := ⟨fb, 0, none⟩) hf (by simp)).trans h.cfz
    emp := (k.block ma hm (by simp)).trans h.emp }
theorem Bd.lts {w wr : World} {tb fb ma sb sn : Nat} {f : Int → Option Value} (h : Bd w wr tb fb ma sb sn f) : tb < wr.heap.size ∧ fb < wr.heap.size ∧ sb < wr.heap.size ∧ ma < wr.heap.size :=
  ⟨lt_of_cell h.ct.fr, lt_of_cell h.calls, h.map.lt, (Array.getElem?_eq_some_iff.1 h.emp).1⟩
theorem Bd.put40 {w wr wr' : World} {tb fb ma sb sn : Nat} {f : Int → Option Value} {v : Value} (h : Bd w wr tb fb ma sb sn f) (P : Put1 wr wr' tb 40 v) : Bd w wr' tb fb ma sb sn f := by
  have hl := h.lts
  have hgt := h.gt
  exact { h with
    ct := h.ct.put40 P
    map := h.map.kp P.kp (by simpa using Ne.symm h.ts)
    kp := h.kp.news P.kp (by simpa using hgt)
    calls := (P.kp.cell (p := ⟨fb, 0, none⟩) hl.2.1 (by simpa using Ne.symm h.tf)).trans h.calls
    cfz := (P.thaw _).trans h.cfz
    emp := (P.kp.block ma hl.2.2.2 (by simpa using h.mt)).trans h.emp }
theorem Bd.apart {w wr wr' : World} {tb fb ma sb sn lk : Nat} {f : Int → Option Value} (h : Bd w wr tb fb ma sb sn f) (k : Kp [lk] wr wr') (hg : w.heap.size ≤ lk) (h1 : tb < lk) (h2 : fb < lk) (h3 : sb < lk) (h4 : ma < lk) : Bd w wr' tb fb ma sb sn f := by
  have hl := h.lts
  exact { h with
    ct := h.ct.kp k (by simp; omega)
    map := h.map.kp k (by simp; omega)
    kp := h.kp.news k (by simpa using hg)
    calls := (k.cell (p := ⟨fb, 0, none⟩) hl.2.1 (by simp; omega)).trans h.calls
    cfz := (k.frozen (p := ⟨fb, 0, none⟩) hl.2.1 (by simp; omega)).trans h.cfz
    emp := (k.block ma hl.2.2.2 (by simp; omega)).trans h.emp }
theorem cellB {w : World} {b o : Nat} {L : Array Value} {t : TypeId} {v : Value} (h : w.heap[b]? = some (.cells L t)) (hv : L[o]? = some v) : w.cell? ⟨b, o, none⟩ = some v := by simp [World.cell?, h, hv]
/-- The link laid into the map of links. -/
theorem CB.cells {w wr : World} {tb fb ma sb sn lk : Nat} {pl : Int → Option Int} {nbv : Value} {bf : Int} (h : Bd w wr tb fb ma sb sn (fun m => (pl m).map (Value.int .u64))) (h1 : tb < lk) (h2 : fb < lk) (h4 : ma < lk)
    (l0 : wr.cell? ⟨lk, 0, none⟩ = some (.int .i64 7)) (l1 : wr.cell? ⟨lk, 1, none⟩ = some (.bool true)) (l4 : wr.cell? ⟨lk, 4, none⟩ = some nbv) (l5 : wr.cell? ⟨lk, 5, none⟩ = some (.int .u64 bf)) :
    CB (mset wr ma (.map (#[].push ⟨.int .i64 7, .pointer (some ⟨lk, 0, none⟩), 0⟩) (0 + 1))) tb lk fb sb ma nbv bf sn pl ∧ Kp [] w (mset wr ma (.map (#[].push ⟨.int .i64 7, .pointer (some ⟨lk, 0, none⟩), 0⟩) (0 + 1))) := by
  have k := mset_kp wr ma (.map (#[].push ⟨.int .i64 7, .pointer (some ⟨lk, 0, none⟩), 0⟩) (0 + 1))
  have e := mset_same (o' := .map (#[].push ⟨.int .i64 7, .pointer (some ⟨lk, 0, none⟩), 0⟩) (0 + 1)) h.emp
  have hl := h.lts
  have hgm := h.gm
  have hlk : lk < wr.heap.size := lt_of_cell l0
  have c : ∀ o v, wr.cell? ⟨lk, o, none⟩ = some v → (mset wr ma (.map (#[].push ⟨.int .i64 7, .pointer (some ⟨lk, 0, none⟩), 0⟩) (0 + 1))).cell? ⟨lk, o, none⟩ = some v := fun o v hv => (k.cell (p := ⟨lk, o, none⟩) hlk (by simp; omega)).trans hv
  refine ⟨⟨h.ct.kp k (by simpa using Ne.symm h.mt), h.map.kp k (by simpa using Ne.symm h.ms), ⟨_, _, 0, e, by rfl⟩, c _ _ l0, c _ _ l1, c _ _ l4, c _ _ l5, (k.cell (p := ⟨fb, 0, none⟩) hl.2.1 (by simpa using Ne.symm h.mf)).trans h.calls, (k.frozen (p := ⟨fb, 0, none⟩) hl.2.1 (by simpa using Ne.symm h.mf)).trans h.cfz, by omega, h.tf, h.ts, by omega, h.sf, h.mt⟩, h.kp.news k (by simpa using hgm)⟩

/-- What zzs5081cbuild hands back. -/
def BuiltC (w w' : World) (keeps : Bool) (bf : Int) (pl : Int → Option Int) (e : Ending) : Prop := ∃ tb lk fb sb mb sn nbv, e = .returned (.tuple #[.pointer (some ⟨tb, 0, none⟩), .pointer (some ⟨fb, 0, none⟩)]) ∧ CB w' tb lk fb sb mb nbv bf sn pl ∧ Kp [] w w' ∧ w.heap.size ≤ tb ∧ w.heap.size ≤ fb ∧ w.heap.size ≤ lk ∧ w.heap.size ≤ sb ∧ w.heap.size ≤ mb ∧
  ((keeps = true ∧ ∃ a, nbv = .pointer (some a)) ∨ (keeps = false ∧ nbv = .pointer none))

set_option maxRecDepth 20000 in
set_option maxHeartbeats 3200000 in
theorem cbuild (keeps : Bool) (p : Option Addr) (n c : Nat) (xs : List Int) (bf : Int) (w : World) (hn : xs.length = n) (hs : n ≤ 1024) (hx : ∀ x ∈ xs, 0 ≤ x ∧ x ≤ 255) (b0 : 0 ≤ bf) (b1 : bf ≤ 255) (hq : SQ w p xs) :
    Calls Ybad.prog 12 #[.bool keeps, .slice p n c, .int .u8 bf] w fun e w' => BuiltC w w' keeps bf (pU xs n) e := by
  go_enter Ybad.func12, Ybad.ntmps12
  go_wp2_with (first
    | (refine wpList_build rfl 103 _ rfl #[] (by rfl) #[.int .i64 0] (by kernel_rfl) ?_)
    | (refine wpList_build rfl 27 _ rfl #[] (by rfl) (kcl key0).toArray b27z ?_)
    | (refine wpList_boxed rfl 103 rfl #[.int .i64 0] rfl ?_; intro w2 N2)
    | (go_at_call 14; refine (newC w.heap.size _).mono ?_; rintro e w3 ⟨tb, ma, rfl, C3⟩; have c38 := C3.ct.cur; have f38 := C3.ct.thaw 38)
    | (refine wpList_newMap rfl 39 rfl ?_; intro w4 N4; have c38' := (N4.kp.cell (p := ⟨tb, 38, none⟩) (lt_of_cell c38) (by simp)).trans c38; have f38' := (N4.kp.frozen (p := ⟨tb, 38, none⟩) (lt_of_cell c38) (by simp)).trans f38)
    | (refine wpList_put1 rfl 39 rfl rfl (.map (some w3.heap.size)) rfl rfl size39 c38' f38' ?_; intro w5 P5; refine Hid.out ?_))
  refine Lib.hid ?_
  obtain ⟨sb, hsb⟩ : ∃ sb, sb = w3.heap.size := ⟨_, rfl⟩
  obtain ⟨fb, hfb⟩ : ∃ fb, fb = w.heap.size := ⟨_, rfl⟩
  have I0 : Bd w w5 tb fb ma sb 0 (fun m => (pU xs 0 m).map (Value.int .u64)) := by rw [hsb, hfb]; exact Bd.start N2 (by rw [← hfb]; exact hfb ▸ C3) N4 P5
  rw [← hfb, ← hsb]
  clear hfb hsb N2 C3 N4 P5 c38 f38 c38' f38'
  go_wp2_with fail
  go_loopw [26] (fun i wr => ∃ k sn : Nat, k ≤ n ∧ i = .int .i64 k ∧ Bd w wr tb fb ma sb sn (fun m => (pU xs k m).map (Value.int .u64))) (fun i _ => n - (intOf i).toNat)
  case atStart => exact ⟨0, 0, by omega, rfl, I0⟩
  case round =>
    clear I0
    obtain ⟨k, sn, hk, rfl, I⟩ := hrel
    by_cases hlt : k < n
    · obtain ⟨b, o, rfl, hbl, hcells⟩ := (hq.kp I.kp) (by intro e; rw [e] at hn; simp at hn; omega)
      have cx := hcells k (by omega)
      obtain ⟨x0, x1⟩ := hx xs[k] (List.getElem_mem _)
      have hgd : xs.getD k 0 = xs[k] := by simp [List.getD, List.getElem?_eq_getElem (show k < xs.length by omega)]
      have hlt' : (k : Int) < n := by omega
      have hk' : (k : Int) ≤ 1024 := by omega
      clear hcells
      generalize xs[k] = x at *
      have c38 := I.ct.cur
      obtain ⟨ob, hup, M'⟩ := I.map.put (m := x % 16) (v := .int .u64 (k : Int)) (by omega) (by omega) Ybad.underlying39
      go_wp2_with (first
        | (refine wpList_build rfl 27 _ rfl #[(0, .int .u8 1)] (by simp only [List.map_toArray, List.map_cons, List.map_nil]; rfl) (kcl key1).toArray b27o ?_)
        | (refine wpList_build rfl 97 _ rfl #[(0, .agg (kcl key1).toArray), (1, .int .u64 (x % 16))] (by simp only [List.map_toArray, List.map_cons, List.map_nil]; rfl) (idc (x % 16)).toArray (b97 _) ?_)
        | (refine wpList_load_one rfl 39 rfl rfl (.map (some sb)) Ybad.underlying39 rfl c38 ?_)
        | (refine wpList_upd rfl rfl (b := sb) (kv := .agg (idc (x % 16)).toArray) (v := .int .u64 (k : Int)) rfl rfl rfl ob hup ?_; refine Hid.out ?_))
      refine Lib.hid ?_
      have I' : ∃ sn', Bd w (mset wr sb ob) tb fb ma sb sn' (fun m => (pU xs (k + 1) m).map (Value.int .u64)) := by
        have hfun : (fun m => (pU xs (k + 1) m).map (Value.int .u64)) = (fun j => if j = x % 16 then some (Value.int .u64 (k : Int)) else (pU xs k j).map (Value.int .u64)) := by
          funext j
          simp only [pU, hgd]
          by_cases hj : j = x % 16
          · rw [if_pos hj.symm, if_pos hj]; rfl
          · rw [if_neg (fun e => hj e.symm), if_neg hj]
        rw [hfun]
        exact ⟨_, I.turn (mset_kp _ _ _) M'⟩
      obtain ⟨sn', I'⟩ := I'
      clear hup M' I c38
      generalize mset wr sb ob = wr' at *
      go_wp2_with fail
      go_roundw
      case rel => exact ⟨k + 1, sn', by omega, by go_num, I'⟩
      case measure => simp [intOf]; omega
    · have hkn : k = n := by omega
      subst hkn
      obtain ⟨v40, c40⟩ := I.ct.added
      have f40 := I.ct.thaw 40
      have hk' : (k : Int) ≤ 1024 := by omega
      obtain ⟨S, hS⟩ := b128
      have c35 := I.ct.links
      go_wp2_with (first
        | (refine wpList_put1 rfl 40 rfl rfl (.int .u64 (k : Int)) rfl rfl size40 c40 f40 ?_; intro w6 P6)
        | (refine wpList_build rfl 109 _ rfl #[(0, .int .i64 1)] (by simp only [List.map_toArray, List.map_cons, List.map_nil]; rfl) #[.int .i64 1, .int .u64 0, .int .i64 0, .pointer none, .int .u64 0, .int .i64 0, .pointer none] (by kernel_rfl) ?_)
        | (refine wpList_boxed rfl 109 rfl _ rfl ?_; intro w7 N7)
        | (refine wpList_build rfl 87 _ rfl #[(0, .int .i64 7), (1, .bool true), (5, .int .u64 bf), (6, .pointer (some ⟨w6.heap.size, 0, none⟩))] (by simp only [List.map_toArray, List.map_cons, List.map_nil]; rfl) _ (b87 bf w6.heap.size) ?_)
        | (refine wpList_boxed rfl 87 rfl _ rfl ?_; intro w8 N8; refine Hid.out ?_))
      refine Lib.hid ?_
      have I8 : Bd w w8 tb fb ma sb sn (fun m => (pU xs k m).map (Value.int .u64)) := ((I.put40 P6).kp0 N7.kp).kp0 N8.kp
      have g8 := N8.at'
      have s7 := N8.size
      have glk : w.heap.size ≤ w7.heap.size := by have := I.kp.size; have := P6.size; have := N7.size; omega
      have olds : tb < w7.heap.size ∧ fb < w7.heap.size ∧ sb < w7.heap.size ∧ ma < w7.heap.size := ((I.put40 P6).kp0 N7.kp).lts
      obtain ⟨lk, hlk⟩ : ∃ lk, lk = w7.heap.size := ⟨_, rfl⟩
      rw [← hlk] at g8 s7 glk olds
      rw [← hlk]
      have HS7 : Hid (w8.heap.size = lk + 1) := s7
      clear hlk I P6 N7 N8 c40 f40 c35 s7
      cases keeps
      · have c35 := I8.ct.links
        have hup := update_links I8.emp 7 (.pointer (some ⟨lk, 0, none⟩)) (by rfl)
        go_wp2_with (first
          | (refine wpList_load_one rfl 37 rfl rfl (.map (some ma)) Ybad.underlying37 rfl c35 ?_)
          | (refine wpList_upd rfl rfl (b := ma) (kv := .int .i64 7) (v := .pointer (some ⟨lk, 0, none⟩)) rfl rfl rfl _ hup ?_; refine Hid.out ?_))
        refine Lib.hid ?_
        obtain ⟨CF, KF⟩ := CB.cells (nbv := .pointer none) (bf := bf) I8 olds.1 olds.2.1 olds.2.2.2 (cellB g8 rfl) (cellB g8 rfl) (cellB g8 rfl) (cellB g8 rfl)
        go_wp2_with fail
        refine bodyPost_ret (results_tmp2 rfl _ _ _) rfl ?_
        exact ⟨tb, lk, fb, sb, ma, sn, _, rfl, CF, KF, I8.gt, I8.gf, glk, I8.gs, I8.gm, .inr ⟨rfl, rfl⟩⟩
      · have l4 : w8.cell? ⟨lk, 4, none⟩ = some (.pointer none) := by simp [World.cell?, g8]
        have lf4 : w8.frozen? ⟨lk, 4, none⟩ = false := Plain.thaw ⟨_, _, g8⟩ 4
        go_wp2_with (first
          | (refine wpList_build rfl 27 _ rfl #[(0, .int .u8 2)] (by simp only [List.map_toArray, List.map_cons, List.map_nil]; rfl) (kcl key2).toArray b27t ?_)
          | (refine wpList_build rfl 128 _ rfl #[(0, .agg (kcl key2).toArray)] (by simp only [List.map_toArray, List.map_cons, List.map_nil]; rfl) S hS ?_)
          | (refine wpList_boxed rfl 128 rfl S rfl ?_; intro w9 N9; have l4' := (N9.kp.cell (p := ⟨lk, 4, none⟩) (lt_of_cell l4) (by simp)).trans l4; have lf4' := (N9.kp.frozen (p := ⟨lk, 4, none⟩) (lt_of_cell l4) (by simp)).trans lf4)
          | (refine wpList_put1 rfl 84 rfl rfl (.pointer (some ⟨w8.heap.size, 0, none⟩)) rfl rfl size84 l4' lf4' ?_; intro w10 P10; refine Hid.out ?_))
        refine Lib.hid ?_
        have I9 := I8.kp0 N9.kp
        have hb8 : lk < w8.heap.size := by have := HS7.out; omega
        have g9 := (N9.kp.block lk hb8 (by simp)).trans g8
        have I10 := I9.apart P10.kp glk olds.1 olds.2.1 olds.2.2.1 olds.2.2.2
        have hb9 : lk < w9.heap.size := by have := N9.size; omega
        have c35 := I10.ct.links
        have hup := update_links I10.emp 7 (.pointer (some ⟨lk, 0, none⟩)) (by rfl)
        go_wp2_with (first
          | (refine wpList_load_one rfl 37 rfl rfl (.map (some ma)) Ybad.underlying37 rfl c35 ?_)
          | (refine wpList_upd rfl rfl (b := ma) (kv := .int .i64 7) (v := .pointer (some ⟨lk, 0, none⟩)) rfl rfl rfl _ hup ?_; refine Hid.out ?_))
        refine Lib.hid ?_
        obtain ⟨CF, KF⟩ := CB.cells (bf := bf) I10 olds.1 olds.2.1 olds.2.2.2 ((P10.other 0 (by omega)).trans (cellB g9 rfl)) ((P10.other 1 (by omega)).trans (cellB g9 rfl)) P10.same ((P10.other 5 (by omega)).trans (cellB g9 rfl))
        go_wp2_with fail
        refine bodyPost_ret (results_tmp2 rfl _ _ _) rfl ?_
        exact ⟨tb, lk, fb, sb, ma, sn, _, rfl, CF, KF, I10.gt, I10.gf, glk, I10.gs, I10.gm, .inl ⟨rfl, _, rfl⟩⟩
end Go.Proofs.YbulkdaeyDoor
