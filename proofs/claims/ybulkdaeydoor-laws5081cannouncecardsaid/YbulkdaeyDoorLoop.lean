import Derived.Test.YbulkdaeyDoorBox
/-
  TakeAnnounce: what it looks at.
-/
namespace Go.Proofs.YbulkdaeyDoor
open Go.RowKit Go.BigFrame Go.MuLone
set_option linter.unusedSimpArgs false

/-- What is known of the tree, its link and its frames. -/
structure TT (w : World) (tb lk fb sb nb : Nat) (mu : Int) (nbv : Value) (bf c : Int) (sn : Nat) (pl : Int → Option Int) (ns : List (Int × Int)) : Prop where
  fr : w.cell? ⟨tb, 32, none⟩ = some (.iface 89 (.pointer (some ⟨fb, 0, none⟩)))
  mu : w.cell? ⟨tb, 33, none⟩ = some (.int .i32 mu)
  cur : w.cell? ⟨tb, 38, none⟩ = some (.map (some sb))
  prev : w.cell? ⟨tb, 39, none⟩ = some (.map none)
  beg : w.rangeAt tb 41 [.int .u64 0, .int .i64 0, .pointer none]
  held : w.cell? ⟨tb, 44, none⟩ = some (.map none)
  snd : w.cell? ⟨tb, 62, none⟩ = some (.map none)
  map : MF w sb sn (fun m => (pl m).map (Value.int .u64))
  hd : w.cell? ⟨lk, 0, none⟩ = some (.int .i64 7)
  nbh : w.cell? ⟨lk, 4, none⟩ = some nbv
  bef : w.cell? ⟨lk, 5, none⟩ = some (.int .u64 bf)
  calls : w.cell? ⟨fb, 0, none⟩ = some (.int .i64 c)
  cfz : w.frozen? ⟨fb, 0, none⟩ = false
  names : NS w nb ns
  nlt : nb < w.heap.size

theorem NS.kpL {w w' : World} {nb : Nat} {ns : List (Int × Int)} {L : List Nat} (h : NS w nb ns) (k : Kp L w w') (hn : nb ∉ L) : NS w' nb ns := fun i hi j v hv => by
  have := h i hi j v hv
  exact (k.cell (lt_of_cell this) hn).trans this

theorem TT.kp {w w' : World} {tb lk fb sb nb sn : Nat} {mu : Int} {nbv : Value} {bf c : Int} {pl : Int → Option Int} {ns : List (Int × Int)} {L : List Nat} (h : TT w tb lk fb sb nb mu nbv bf c sn pl ns) (k : Kp L w w') (h1 : tb ∉ L) (h2 : lk ∉ L) (h3 : fb ∉ L) (h4 : sb ∉ L) (h5 : nb ∉ L) : TT w' tb lk fb sb nb mu nbv bf c sn pl ns := by
  have bt : tb < w.heap.size := lt_of_cell h.fr
  have bl : lk < w.heap.size := lt_of_cell h.hd
  have bf' : fb < w.heap.size := lt_of_cell h.calls
  have e : ∀ o, w'.cell? ⟨tb, o, none⟩ = w.cell? ⟨tb, o, none⟩ := fun o => k.cell (p := ⟨tb, o, none⟩) bt h1
  have e2 : ∀ o, w'.cell? ⟨lk, o, none⟩ = w.cell? ⟨lk, o, none⟩ := fun o => k.cell (p := ⟨lk, o, none⟩) bl h2
  exact ⟨(e 32).trans h.fr, (e 33).trans h.mu, (e 38).trans h.cur, (e 39).trans h.prev, k.range h.beg bt h1, (e 44).trans h.held, (e 62).trans h.snd, h.map.kp k h4, (e2 0).trans h.hd, (e2 4).trans h.nbh, (e2 5).trans h.bef, (k.cell (p := ⟨fb, 0, none⟩) bf' h3).trans h.calls, (k.frozen (p := ⟨fb, 0, none⟩) bf' h3).trans h.cfz, h.names.kpL k h5, Nat.lt_of_lt_of_le h.nlt k.size⟩
/-- The tree's cells turned in the record of what is awaited alone. -/
theorem TT.turn {w w' : World} {tb lk fb sb nb sn : Nat} {mu : Int} {nbv : Value} {bf c : Int} {pl : Int → Option Int} {ns : List (Int × Int)} {L : List Nat} (h : TT w tb lk fb sb nb mu nbv bf c sn pl ns) (k : Kp (tb :: L) w w') (ho : ∀ o, o ≠ 51 → o ≠ 52 → o ≠ 54 → w'.cell? ⟨tb, o, none⟩ = w.cell? ⟨tb, o, none⟩) (h2 : lk ∉ tb :: L) (h3 : fb ∉ tb :: L) (h4 : sb ∉ tb :: L) (h5 : nb ∉ tb :: L) : TT w' tb lk fb sb nb mu nbv bf c sn pl ns := by
  have bl : lk < w.heap.size := lt_of_cell h.hd
  have bf' : fb < w.heap.size := lt_of_cell h.calls
  have e2 : ∀ o, w'.cell? ⟨lk, o, none⟩ = w.cell? ⟨lk, o, none⟩ := fun o => k.cell (p := ⟨lk, o, none⟩) bl h2
  refine ⟨(ho 32 (by omega) (by omega) (by omega)).trans h.fr, (ho 33 (by omega) (by omega) (by omega)).trans h.mu, (ho 38 (by omega) (by omega) (by omega)).trans h.cur, (ho 39 (by omega) (by omega) (by omega)).trans h.prev, fun j v hv => ?_, (ho 44 (by omega) (by omega) (by omega)).trans h.held, (ho 62 (by omega) (by omega) (by omega)).trans h.snd, h.map.kp k h4, (e2 0).trans h.hd, (e2 4).trans h.nbh, (e2 5).trans h.bef, (k.cell (p := ⟨fb, 0, none⟩) bf' h3).trans h.calls, (k.frozen (p := ⟨fb, 0, none⟩) bf' h3).trans h.cfz, h.names.kpL k h5, Nat.lt_of_lt_of_le h.nlt k.size⟩
  have hj : j < 3 := (List.getElem?_eq_some_iff.1 hv).1
  exact (ho (41 + j) (by omega) (by omega) (by omega)).trans (h.beg j v hv)
/-- One more call of a frame's method. -/
theorem TT.called {w w' : World} {tb lk fb sb nb sn g : Nat} {mu : Int} {nbv : Value} {bf c : Int} {pl : Int → Option Int} {ns : List (Int × Int)} {bs : List Int} (h : TT w tb lk fb sb nb mu nbv bf c sn pl ns) (F : FC w w' fb g bs (c + 1)) (h1 : tb ≠ fb) (h2 : lk ≠ fb) (h4 : sb ≠ fb) (h5 : nb ≠ fb) : TT w' tb lk fb sb nb mu nbv bf (c + 1) sn pl ns := by
  have k := F.kp
  have bt : tb < w.heap.size := lt_of_cell h.fr
  have bl : lk < w.heap.size := lt_of_cell h.hd
  have e : ∀ o, w'.cell? ⟨tb, o, none⟩ = w.cell? ⟨tb, o, none⟩ := fun o => k.cell (p := ⟨tb, o, none⟩) bt (by simpa using h1)
  have e2 : ∀ o, w'.cell? ⟨lk, o, none⟩ = w.cell? ⟨lk, o, none⟩ := fun o => k.cell (p := ⟨lk, o, none⟩) bl (by simpa using h2)
  exact ⟨(e 32).trans h.fr, (e 33).trans h.mu, (e 38).trans h.cur, (e 39).trans h.prev, k.range h.beg bt (by simpa using h1), (e 44).trans h.held, (e 62).trans h.snd, h.map.kp k (by simpa using h4), (e2 0).trans h.hd, (e2 4).trans h.nbh, (e2 5).trans h.bef, F.cell, F.thaw, h.names.kpL k (by simpa using h5), Nat.lt_of_lt_of_le h.nlt k.size⟩

/-- The tree's blocks lie apart. -/
structure Ap (tb lk fb sb nb B : Nat) : Prop where
  t : tb < B
  l : lk < B
  f : fb < B
  s : sb < B
  n : nb < B
  tl : tb ≠ lk
  tf : tb ≠ fb
  ts : tb ≠ sb
  tn : tb ≠ nb
  lf : lk ≠ fb
  sf : sb ≠ fb
  nf : nb ≠ fb

/-- A frame that announces m in turn. -/
def frameA (keeps : Bool) (m : Int) : List Int := if keeps then [2, m, 255] else [1, m]
/-- One name taken: what is awaited, what is sent. -/
def stepA (pl : Int → Option Int) (bf : Int) (keeps : Bool) (st : List Int × List (Int × List Int)) (p : Int × Int) : List Int × List (Int × List Int) :=
  match pl p.1 with
  | none => (if p.1 ∈ st.1 then st.1 else st.1 ++ [p.1], st.2)
  | some q => (st.1, if q < bf then st.2 ++ [(7, frameA keeps p.1)] else st.2)

/-- The loop's state. -/
structure LP (w0 w : World) (tb lk fb sb nb bx ob B : Nat) (nbv : Value) (bf : Int) (sn : Nat) (pl : Int → Option Int) (ns : List (Int × Int)) (us : List Int) (l : List (Int × List Int)) (sv : Value) (M E : List Nat) : Prop where
  tt : TT w tb lk fb sb nb 1 nbv bf (l.length : Int) sn pl ns
  aw : AW w tb lk B us M E
  bxa : BXA w ob B sv l (M ++ E)
  tm : w.rangeAt bx 0 [.int .u64 0, .int .i64 0, .pointer none]
  xlt : bx < B
  shape : (l = [] ∧ sv = .slice none 0 0) ∨ ∃ gg c, sv = .slice (some ⟨gg, 0, none⟩) l.length c
  kp : Kp [tb, fb] w0 w
  b0 : w0.heap.size ≤ B
  xb : w0.heap.size ≤ bx
  xt : bx ≠ tb
  xf : bx ≠ fb

theorem AW.lt {w : World} {tb lk B : Nat} {us : List Int} {M E : List Nat} (h : AW w tb lk B us M E) : ∀ i ∈ M ++ E, B ≤ i ∧ i < w.heap.size := by
  cases h with
  | off => simp
  | on _ h => exact fun i hi => (List.mem_append.1 hi).elim (h.ltM i) (h.ltE i)
theorem AW.base {w : World} {tb lk B : Nat} {us : List Int} {M E : List Nat} (h : AW w tb lk B us M E) : B ≤ w.heap.size ∧ tb < B ∧ ∀ o, w.frozen? ⟨tb, o, none⟩ = false := by
  cases h with
  | off _ _ _ h1 h2 h3 => exact ⟨h3, h2, h1⟩
  | on _ h => exact ⟨h.base, h.tlt, h.thaw⟩

/-- A step that makes new blocks alone. -/
theorem LP.kp0 {w0 w w' : World} {tb lk fb sb nb bx ob B sn : Nat} {nbv : Value} {bf : Int} {pl : Int → Option Int} {ns : List (Int × Int)} {us : List Int} {l : List (Int × List Int)} {sv : Value} {M E : List Nat} (h : LP w0 w tb lk fb sb nb bx ob B nbv bf sn pl ns us l sv M E) (k : Kp [] w w') : LP w0 w' tb lk fb sb nb bx ob B nbv bf sn pl ns us l sv M E := by
  have hb := h.aw.base.1
  have hx := h.xlt
  exact { h with
    tt := h.tt.kp k (by simp) (by simp) (by simp) (by simp) (by simp)
    aw := h.aw.kp k (by simp) (by simp) (by simp)
    bxa := h.bxa.kp k (by simp) (fun i hi => .inl hi)
    tm := range_kp h.tm k (by omega)
    kp := h.kp.trans (k.mono (by simp)) }

/-- A message that is new to what is awaited. -/
theorem LP.grown {w0 w w' : World} {tb lk fb sb nb bx ob B sn : Nat} {nbv : Value} {bf : Int} {pl : Int → Option Int} {ns : List (Int × Int)} {us us' : List Int} {l : List (Int × List Int)} {sv : Value} {M E M' E' : List Nat} (h : LP w0 w tb lk fb sb nb bx ob B nbv bf sn pl ns us l sv M E) (a : Ap tb lk fb sb nb B)
    (A : AW w' tb lk B us' M' E') (K : Kp (tb :: M) w w') (hM : ∀ i ∈ M', i ∈ M ∨ w.heap.size ≤ i) (hE : ∀ i ∈ E', i ∈ E ∨ w.heap.size ≤ i) (ho : ∀ o, o ≠ 51 → o ≠ 52 → o ≠ 54 → w'.cell? ⟨tb, o, none⟩ = w.cell? ⟨tb, o, none⟩) :
    LP w0 w' tb lk fb sb nb bx ob B nbv bf sn pl ns us' l sv M' E' := by
  have hlt := h.aw.lt
  have hb := h.aw.base.1
  have hx := h.xlt
  have nM : ∀ i, i < B → i ∉ M := fun i hi hm => by have := (hlt i (List.mem_append_left _ hm)).1; omega
  have b0 := h.b0
  refine { h with
    tt := h.tt.turn K ho (by simp [nM lk a.l, Ne.symm a.tl]) (by simp [nM fb a.f, Ne.symm a.tf]) (by simp [nM sb a.s, Ne.symm a.ts]) (by simp [nM nb a.n, Ne.symm a.tn])
    aw := A
    bxa := h.bxa.kp K (fun i hi hB => ?_) (fun i hi => ?_)
    tm := K.range h.tm (by omega) (fun hm => ?_)
    kp := h.kp.through K (fun i hi => ?_) }
  · rcases List.mem_cons.1 hi with rfl | hi
    · have := a.t; omega
    · exact List.mem_append_left _ hi
  · rcases List.mem_append.1 hi with hi | hi
    · exact (hM i hi).imp (List.mem_append_left _) id
    · exact (hE i hi).imp (List.mem_append_right _) id
  · rcases List.mem_cons.1 hm with e | e
    · exact h.xt e
    · exact nM bx hx e
  · rcases List.mem_cons.1 hi with rfl | hi
    · exact .inl (by simp)
    · right
      have := (hlt i (List.mem_append_left _ hi)).1
      omega

/-- A frame made and sent. -/
theorem LP.send {w0 w w1 : World} {tb lk fb sb nb bx ob B sn g cap n : Nat} {nbv : Value} {bf : Int} {pl : Int → Option Int} {ns : List (Int × Int)} {us : List Int} {l : List (Int × List Int)} {sv : Value} {M E : List Nat} {bs : List Int} (h : LP w0 w tb lk fb sb nb bx ob B nbv bf sn pl ns us l sv M E) (a : Ap tb lk fb sb nb B)
    (F : FC w w1 fb g bs ((l.length : Int) + 1)) (hn : l.length ≤ 4096) (hbs : bs.length = n) :
    Calls Ybad.prog 21 #[.pointer (some ⟨ob, 0, none⟩), .pointer (some ⟨lk, 0, none⟩), .slice (some ⟨g, 0, none⟩) n cap] w1 fun e w2 => e = .returned (.tuple #[]) ∧
      ∃ sv', LP w0 w2 tb lk fb sb nb bx ob B nbv bf sn pl ns us (l ++ [(7, bs)]) sv' M E ∧ Kp (fb :: ob :: sv.ownBlock.toList) w w2 := by
  have hlt := h.aw.lt
  have hb := h.aw.base.1
  have hx := h.xlt
  have b0 := h.b0
  have s1 := F.kp.size
  have g1 := F.ge
  have g2 := F.lt
  have hobl := h.bxa.obl
  have hobB := h.bxa.ob_ge
  have T1 := h.tt.called F a.tf a.lf a.sf a.nf
  have hfA : ∀ i ∈ [fb], B ≤ i → i ∈ M ++ E := fun i hi hB => by
    obtain rfl : i = fb := by simpa using hi
    have := a.f; omega
  have X1 := h.bxa.kp F.kp hfA (fun i hi => .inl hi)
  have hfE : ∀ i ∈ M ++ E, i ∉ [fb] := fun i hi hm => by
    obtain rfl : i = fb := by simpa using hm
    have := (hlt i hi).1
    have := a.f; omega
  have A1 := h.aw.kp F.kp (by simpa using a.tf) (fun i hi => hfE i (List.mem_append_left _ hi)) (fun i hi => hfE i (List.mem_append_right _ hi))
  have hown : sv.ownBlock ≠ some g := fun e => by
    obtain ⟨xs, ho, _⟩ := h.bxa
    have := (ho.own.lt g e).2; omega
  refine (send_a ob lk B sv 7 g cap n bs l (M ++ E) w1 X1 T1.hd hn hbs (by omega) g2 (by omega) hown (fun e => by have := (hlt g e).2; omega) (fun i hi => by have := (hlt i hi).2; omega) F.row).mono ?_
  rintro e w2 ⟨rfl, gg, c, X2, K2, hat⟩
  have nown : ∀ i ∈ (ob :: sv.ownBlock.toList), B ≤ i ∧ i ∉ M ++ E := fun i hi => by
    obtain ⟨xs, ho, _, h6, h7, _⟩ := h.bxa
    rcases List.mem_cons.1 hi with rfl | hi
    · exact ⟨hobB, h6⟩
    · cases hs : sv.ownBlock with
      | none => simp [hs] at hi
      | some k => simp [hs] at hi; subst hi; exact ⟨(ho.own.lt _ hs).1, h7 _ hs⟩
  have nlow : ∀ i, i < B → i ∉ (ob :: sv.ownBlock.toList) := fun i hi hm => by have := (nown i hm).1; omega
  have nA : ∀ i ∈ M ++ E, i ∉ (ob :: sv.ownBlock.toList) := fun i hi hm => (nown i hm).2 hi
  refine ⟨rfl, .slice (some ⟨gg, 0, none⟩) (l.length + 1) c, ?_, ?_⟩
  · refine { h with
      tt := by simpa using T1.kp K2 (nlow tb a.t) (nlow lk a.l) (nlow fb a.f) (nlow sb a.s) (nlow nb a.n)
      aw := A1.kp K2 (nlow tb a.t) (fun i hi => nA i (List.mem_append_left _ hi)) (fun i hi => nA i (List.mem_append_right _ hi))
      bxa := X2
      tm := K2.range (F.kp.range h.tm (by omega) (by simpa using h.xf)) (by omega) (nlow bx hx)
      shape := .inr ⟨gg, c, by simp⟩
      kp := (h.kp.through F.kp (fun i hi => .inl (by simp at hi; simp [hi]))).through K2 (fun i hi => .inr (by have := (nown i hi).1; omega)) }
  · exact (F.kp.mono (fun i hi => by simp at hi; simp [hi])).trans (K2.mono (fun i hi => List.mem_cons_of_mem _ hi))
end Go.Proofs.YbulkdaeyDoor
