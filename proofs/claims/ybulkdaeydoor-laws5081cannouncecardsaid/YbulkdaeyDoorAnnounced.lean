import Derived.Test.YbulkdaeyDoorPut
import Derived.Test.YbulkdaeyDoorNew
/-
  awaited.announce of a message that is not awaited yet.
-/
namespace Go.Proofs.YbulkdaeyDoor
open Go.RowKit Go.BigFrame
set_option linter.unusedSimpArgs false

theorem built161_raw (m : Int) : (Ybad.prog.built 161 [(0, .agg (idc m).toArray), (4, .agg #[.int .u64 0, .int .i64 0, .pointer none])]).map (fun S => (S[33]?, S[35]?, S[36]?)) = some (some (.slice none 0 0), some (.pointer none), some (.int .i64 0)) := by kernel_rfl
theorem built161 (m : Int) : ∃ S, Ybad.prog.built 161 [(0, .agg (idc m).toArray), (4, .agg #[.int .u64 0, .int .i64 0, .pointer none])] = some S ∧ S[33]? = some (.slice none 0 0) ∧ S[35]? = some (.pointer none) ∧ S[36]? = some (.int .i64 0) := by
  obtain ⟨S, hS, h⟩ := Option.map_eq_some_iff.1 (built161_raw m)
  simp only [Prod.mk.injEq] at h
  exact ⟨S, hS, h.1, h.2.1, h.2.2⟩
theorem info156 : (Ybad.prog.info? 156).map (fun i => (i.zero, i.size, i.bytes)) = some (some (.pointer none), 1, 8) := by kernel_rfl
theorem info24 : (Ybad.prog.info? 24).map (fun i => (i.zero, i.size, i.bytes)) = some (some (.pointer none), 1, 8) := by kernel_rfl
theorem und161 : Ybad.prog.underlying 156 = some (.pointer 161) := Ybad.underlying156

theorem size55 : (Ybad.prog.info? 55).map (·.size) = some 1 := by kernel_rfl
theorem size57 : (Ybad.prog.info? 57).map (·.size) = some 1 := by kernel_rfl
theorem size56 : (Ybad.prog.info? 56).map (·.size) = some 1 := by kernel_rfl
theorem size157 : (Ybad.prog.info? 157).map (·.size) = some 1 := by kernel_rfl
theorem Kp.range {w w' : World} {L : List Nat} {b o : Nat} {cs : List Value} (k : Kp L w w') (h : w.rangeAt b o cs) (hb : b < w.heap.size) (hn : b ∉ L) : w'.rangeAt b o cs := fun j v hv => (k.cell (p := ⟨b, o + j, none⟩) hb hn).trans (h j v hv)

/-- The two maps laid: nothing is awaited yet. -/
theorem AWi.start {w2 w3 w4 w5 w6 : World} {tb lk B : Nat} (e52 : w2.cell? ⟨tb, 52, none⟩ = some (.slice none 0 0)) (ft : ∀ o, w2.frozen? ⟨tb, o, none⟩ = false) (htB : tb < B) (hB : B ≤ w2.heap.size)
    (N3 : New1 w2 w3 (.map #[] 0)) (N4 : New1 w3 w4 (.map #[] 0)) (P5 : Put1 w4 w5 tb 51 (.map (some w2.heap.size))) (P6 : Put1 w5 w6 tb 54 (.map (some (w2.heap.size + 1)))) :
    AWi w6 tb lk B [] w2.heap.size (w2.heap.size + 1) (.slice none 0 0) (fun _ => none) [w2.heap.size, w2.heap.size + 1] [] := by
  have s3 := N3.size
  have s4 := N4.size
  have s5 := P5.size
  have s6 := P6.size
  have bt : tb < w2.heap.size := lt_of_cell e52
  have k34 := N4.kp
  have k56 := P5.kp.trans P6.kp
  have a1 : w6.heap[w2.heap.size]? = some (.map #[] 0) := by
    rw [k56.block _ (by omega) (by simp; omega), k34.block _ (by omega) (by simp)]; exact N3.at'
  have a2 : w6.heap[w2.heap.size + 1]? = some (.map #[] 0) := by
    rw [k56.block _ (by omega) (by simp; omega), ← s3]; exact N4.at'
  refine ⟨(P6.other 51 (by omega)).trans P5.same, ?_, P6.same, by simp, by simp, by simp [Value.ownBlock], MF.new a1, by simp, by simp, ⟨#[], 0, a2, by simp⟩, ⟨[], World.ownsRow_nil _ _ _ _⟩, by omega, by simp [Value.ownBlock], by simp [Value.ownBlock], by simp; omega, by simp, by simp, fun o => ?_, htB, by omega⟩
  · rw [P6.other 52 (by omega), P5.other 52 (by omega), k34.cell (p := ⟨tb, 52, none⟩) (show tb < w3.heap.size by omega) (by simp), N3.kp.cell (p := ⟨tb, 52, none⟩) bt (by simp)]; exact e52
  · rw [P6.thaw, P5.thaw, k34.frozen (p := ⟨tb, o, none⟩) (show tb < w3.heap.size by omega) (by simp), N3.kp.frozen (p := ⟨tb, o, none⟩) bt (by simp)]; exact ft o

theorem AW.out {w : World} {tb lk B : Nat} {us : List Int} {M E : List Nat} (h : AW w tb lk B us M E) :
    (Hid (us = []) ∧ Hid (M = []) ∧ Hid (E = []) ∧ w.cell? ⟨tb, 51, none⟩ = some (.map none) ∧ w.cell? ⟨tb, 52, none⟩ = some (.slice none 0 0) ∧ w.cell? ⟨tb, 54, none⟩ = some (.map none) ∧ (∀ o, w.frozen? ⟨tb, o, none⟩ = false) ∧ tb < B ∧ B ≤ w.heap.size) ∨
    (us ≠ [] ∧ ∃ bm cm sv f, AWi w tb lk B us bm cm sv f M E) := by
  cases h with
  | off h1 h2 h3 h4 h5 h6 => exact .inl ⟨rfl, rfl, rfl, h1, h2, h3, h4, h5, h6⟩
  | on hne h => exact .inr ⟨hne, _, _, _, _, h⟩

/-- Behind the entry's way into the map and the queue. -/
structure Grew (w2 w5 : World) (tb bm cm : Nat) (sv : Value) (n : Nat) (e : Value) (f : Int → Option Value) (m : Int) (gg cap B : Nat) : Prop where
  kp : Kp (bm :: sv.ownBlock.toList) w2 w5
  map : MF w5 bm (n + 1) (fun k => if k = m then some e else f k)
  c52 : w5.cell? ⟨tb, 52, none⟩ = some sv
  thaw : ∀ o, w5.frozen? ⟨tb, o, none⟩ = false
  own : ∃ xs, w5.ownsRow B 156 1 (.slice (some ⟨gg, 0, none⟩) (n + 1) cap) (n + 1) xs
  at' : sv.ownBlock = some gg ∨ w2.heap.size ≤ gg
  lt : gg < w5.heap.size
  base : B ≤ w5.heap.size
  tn : tb ∉ (bm :: sv.ownBlock.toList)

theorem Grew.mk' {w2 w3 w4 w5 : World} {tb lk B bm cm gg cap : Nat} {us : List Int} {sv e : Value} {f : Int → Option Value} {m : Int} {M E : List Nat} {xs : List Value} {ob : Obj} (A : AWi w2 tb lk B us bm cm sv f M E) (K3 : Kp [bm] w2 w3) (M3 : MF w3 bm (us.length + 1) (fun k => if k = m then some e else f k)) (N4 : New1 w3 w4 ob) (K5 : Kp sv.ownBlock.toList w4 w5)
    (ho : w5.ownsRow B 156 1 (.slice (some ⟨gg, 0, none⟩) (us.length + 1) cap) (us.length + 1) xs) (hat : sv.ownBlock = some gg ∨ gg = w4.heap.size) : Grew w2 w5 tb bm cm sv us.length e f m gg cap B := by
  have hb := A.ltM bm A.mb
  have ht := A.tlt
  have bt : tb < w2.heap.size := lt_of_cell A.c51
  have s3 := K3.size
  have s4 := N4.size
  have s5 := K5.size
  have nbm : bm ∉ sv.ownBlock.toList := fun hm => by
    cases hs : sv.ownBlock with
    | none => simp [hs] at hm
    | some k => simp [hs] at hm; exact A.n2 (by rw [hs, hm])
  have nown : ∀ k ∈ sv.ownBlock.toList, k ∈ M := fun k hk => by
    cases hs : sv.ownBlock with
    | none => simp [hs] at hk
    | some j => simp [hs] at hk; subst hk; exact A.ms k hs
  have tn : tb ∉ (bm :: sv.ownBlock.toList) := fun hm => by
    rcases List.mem_cons.1 hm with rfl | hm
    · omega
    · have := (A.ltM tb (nown tb hm)).1; omega
  have k25 : Kp (bm :: sv.ownBlock.toList) w2 w5 := ((K3.mono (by simp)).trans (N4.kp.mono (by simp))).trans (K5.mono (by intro k hk; exact List.mem_cons_of_mem _ hk))
  exact ⟨k25, (M3.kp N4.kp (by simp)).kp K5 nbm, (k25.cell (p := ⟨tb, 52, none⟩) bt tn).trans A.c52, fun o => (k25.frozen (p := ⟨tb, o, none⟩) bt tn).trans (A.thaw o), ⟨xs, ho⟩, hat.imp id (fun e => by omega), (ho.lt gg rfl).2, Nat.le_trans A.base k25.size, tn⟩

theorem Grew.far {W1 w2 w5 : World} {tb lk B bm cm gg cap n : Nat} {us : List Int} {sv e : Value} {f f' : Int → Option Value} {m : Int} {M E : List Nat} (_ : Grew w2 w5 tb bm cm sv n e f' m gg cap B) (A : AWi W1 tb lk B us bm cm sv f M E) : W1.heap.size ∉ (bm :: sv.ownBlock.toList) := fun hm => by
  rcases List.mem_cons.1 hm with h | hm
  · have := (A.ltM bm A.mb).2; omega
  · cases hs : sv.ownBlock with
    | none => simp [hs] at hm
    | some j => simp [hs] at hm; have := (A.ltM j (A.ms j hs)).2; omega

/-- Behind the entry's own slice. -/
structure Last (w2 w9 : World) (tb lk bm cm : Nat) (sv : Value) (n eb g8 cap8 : Nat) (f : Int → Option Value) (m : Int) (gg cap B : Nat) : Prop where
  kp : Kp (tb :: eb :: bm :: sv.ownBlock.toList) w2 w9
  map : MF w9 bm (n + 1) (fun k => if k = m then some (.pointer (some ⟨eb, 0, none⟩)) else f k)
  c51 : w9.cell? ⟨tb, 51, none⟩ = some (.map (some bm))
  c52 : w9.cell? ⟨tb, 52, none⟩ = some (.slice (some ⟨gg, 0, none⟩) (n + 1) cap)
  c54 : w9.cell? ⟨tb, 54, none⟩ = some (.map (some cm))
  thaw : ∀ o, w9.frozen? ⟨tb, o, none⟩ = false
  own : ∃ xs, w9.ownsRow B 156 1 (.slice (some ⟨gg, 0, none⟩) (n + 1) cap) (n + 1) xs
  at' : sv.ownBlock = some gg ∨ w2.heap.size ≤ gg
  cnt : MC w9 cm lk (if n = 0 then none else some (n : Int))
  look : (Instr.lookup 57 (.map (some cm)) (.pointer (some ⟨lk, 0, none⟩)) false).run Ybad.prog w9 = .ok (.int .i64 n) w9
  e33 : w9.cell? ⟨eb, 33, none⟩ = some (.slice (some ⟨g8, 0, none⟩) 1 cap8)
  g0 : w9.cell? ⟨g8, 0, none⟩ = some (.pointer (some ⟨lk, 0, none⟩))
  oth : ∀ o, o ≠ 52 → w9.cell? ⟨tb, o, none⟩ = w2.cell? ⟨tb, o, none⟩
  eoth : ∀ o v, o ≠ 33 → w2.cell? ⟨eb, o, none⟩ = some v → w9.cell? ⟨eb, o, none⟩ = some v
  efz : ∀ o, w9.frozen? ⟨eb, o, none⟩ = w2.frozen? ⟨eb, o, none⟩
  g8ge : w2.heap.size < g8
  g8gg : g8 ≠ gg
  eblt : eb < w2.heap.size
  ggne : gg ≠ eb

theorem Last.mk' {W1 w2 w5 w6 w8 w9 : World} {tb lk B bm cm gg cap g8 cap8 : Nat} {us : List Int} {sv : Value} {f : Int → Option Value} {m : Int} {M E : List Nat} (A : AWi w2 tb lk B us bm cm sv f M E) (G : Grew w2 w5 tb bm cm sv us.length (.pointer (some ⟨W1.heap.size, 0, none⟩)) f m gg cap B)
    (P6 : Put1 w5 w6 tb 52 (.slice (some ⟨gg, 0, none⟩) (us.length + 1) cap)) (K68 : Kp [] w6 w8) (P9 : Put1 w8 w9 W1.heap.size 33 (.slice (some ⟨g8, 0, none⟩) 1 cap8)) (d8 : w8.cell? ⟨g8, 0, none⟩ = some (.pointer (some ⟨lk, 0, none⟩))) (A1 : AWi W1 tb lk B us bm cm sv f M E) (hb6 : W1.heap.size < w6.heap.size) (hsz : w2.heap.size = W1.heap.size + 1) (hg8 : w6.heap.size + 1 = g8) :
    Last w2 w9 tb lk bm cm sv us.length W1.heap.size g8 cap8 f m gg cap B := by
  have bt : tb < w2.heap.size := lt_of_cell A.c51
  have s5 := G.kp.size
  have s6 := P6.size
  have nte : tb ≠ W1.heap.size := by have := A1.tlt; have := A1.base; omega
  have bm1 := (A1.ltM bm A1.mb).2
  have cm1 := (A1.ltM cm A1.mc).2
  have K69 : Kp [W1.heap.size] w6 w9 := (K68.mono (by simp)).trans P9.kp
  have hlt : tb < w5.heap.size := by omega
  have K59 : Kp [tb, W1.heap.size] w5 w9 := (P6.kp.mono (by simp)).trans (K69.mono (by simp))
  have nown : ∀ k, sv.ownBlock = some k → k < W1.heap.size := fun k hk => (A1.ltM k (A1.ms k hk)).2
  have far1 := G.far A1
  have tcell : ∀ o, o ≠ 52 → w9.cell? ⟨tb, o, none⟩ = w2.cell? ⟨tb, o, none⟩ := fun o ho => by
    rw [K69.cell (p := ⟨tb, o, none⟩) (show tb < w6.heap.size by omega) (by simpa using nte), P6.other o ho, G.kp.cell (p := ⟨tb, o, none⟩) bt G.tn]
  have ggne : gg ≠ W1.heap.size := by
    rcases G.at' with e | e
    · have := nown gg e; omega
    · omega
  have ggtb : gg ≠ tb := by
    have := A1.tlt
    rcases G.at' with e | e
    · have := (A1.ltM gg (A1.ms gg e)).1; omega
    · omega
  have bmtb : bm ≠ tb := by have := A1.tlt; have := (A1.ltM bm A1.mb).1; omega
  have cmtb : cm ≠ tb := by have := A1.tlt; have := (A1.ltM cm A1.mc).1; omega
  have cmn : cm ∉ (bm :: sv.ownBlock.toList) := fun hm => by
    rcases List.mem_cons.1 hm with h | hm
    · exact A.n1 h.symm
    · cases hs : sv.ownBlock with
      | none => simp [hs] at hm
      | some j => simp [hs] at hm; exact A.n3 (by rw [hs, hm])
  have hcnt : MC w9 cm lk (if us.length = 0 then none else some (us.length : Int)) := by
    have := (A.cnt.kp G.kp cmn).kp K59 (by simp; omega)
    cases us with
    | nil => simpa using this
    | cons => simpa using this
  obtain ⟨xs, ho⟩ := G.own
  have glt := G.lt
  refine ⟨?_, G.map.kp K59 (by simp; omega), (tcell 51 (by omega)).trans A.c51, ?_, (tcell 54 (by omega)).trans A.c54, fun o => ?_, ⟨xs, ownsRow_of_block ho (fun k hk => ?_)⟩, G.at', hcnt, ?_, P9.same, ?_, tcell, fun o v ho hv => ?_, fun o => ?_, by omega, by omega, by omega, ggne⟩
  · refine (G.kp.mono ?_).trans (K59.mono ?_)
    · intro k hk
      simp only [List.mem_cons] at hk ⊢
      rcases hk with h | h
      · exact .inr (.inr (.inl h))
      · exact .inr (.inr (.inr h))
    · intro k hk
      simp only [List.mem_cons, List.not_mem_nil, or_false] at hk ⊢
      rcases hk with h | h
      · exact .inl h
      · exact .inr (.inl h)
  · rw [K69.cell (p := ⟨tb, 52, none⟩) (show tb < w6.heap.size by omega) (by simpa using nte)]; exact P6.same
  · rw [K69.frozen (p := ⟨tb, o, none⟩) (show tb < w6.heap.size by omega) (by simpa using nte), P6.thaw]; exact G.thaw o
  · obtain rfl : k = gg := by simpa [Value.ownBlock] using hk.symm
    exact K59.block k glt (by simp; omega)
  · have := hcnt.look
    rw [this]
    cases us <;> simp
  · rw [P9.kp.cell (p := ⟨g8, 0, none⟩) (lt_of_cell d8) (by simp; omega)]; exact d8
  · have h5 := (G.kp.cell (p := ⟨W1.heap.size, o, none⟩) (lt_of_cell hv) far1).trans hv
    have h6 := (P6.kp.cell (p := ⟨W1.heap.size, o, none⟩) (lt_of_cell h5) (by simpa using Ne.symm nte)).trans h5
    have h8 := (K68.cell (p := ⟨W1.heap.size, o, none⟩) (lt_of_cell h6) (by simp)).trans h6
    exact (P9.other o ho).trans h8
  · rw [P9.thaw, K68.frozen (p := ⟨W1.heap.size, o, none⟩) hb6 (by simp), P6.thaw, G.kp.frozen (p := ⟨W1.heap.size, o, none⟩) (show W1.heap.size < w2.heap.size by omega) far1]

/-- What stands once the maps are laid. -/
structure Stand (w W1 : World) (tb lk B : Nat) (us : List Int) (m : Int) (bm cm : Nat) (sv : Value) (f : Int → Option Value) (M M1 E : List Nat) : Prop where
  aw : AWi W1 tb lk B us bm cm sv f M1 E
  kp : Kp (tb :: M) w W1
  r0 : W1.rangeAt w.heap.size 0 (idc m)
  r1 : W1.rangeAt (w.heap.size + 1) 0 [.int .u64 0, .int .i64 0, .pointer none]
  hM : ∀ i ∈ M1, i ∈ M ∨ w.heap.size ≤ i
  oth : ∀ o, o ≠ 51 → o ≠ 52 → o ≠ 54 → W1.cell? ⟨tb, o, none⟩ = w.cell? ⟨tb, o, none⟩
  fm : f m = none
  lt : w.heap.size + 1 < W1.heap.size
  ltE : ∀ i ∈ E, i < w.heap.size
  ltM : ∀ i ∈ M, i < w.heap.size
  tlt : tb < w.heap.size

theorem Kp.through {L M : List Nat} {a b c : World} (h : Kp L a b) (k : Kp M b c) (hM : ∀ i ∈ M, i ∈ L ∨ a.heap.size ≤ i) : Kp L a c :=
  ⟨k.os.trans h.os, k.tape.trans h.tape, k.output.trans h.output, Nat.le_trans h.size k.size, fun i hi hn => (k.block i (Nat.lt_of_lt_of_le hi h.size) (fun e => by rcases hM i e with h1 | h1; exact hn h1; omega)).trans (h.block i hi hn)⟩

theorem Stand.mems {w W1 : World} {tb lk B bm cm : Nat} {us : List Int} {m : Int} {sv : Value} {f : Int → Option Value} {M M1 E : List Nat} (h : Stand w W1 tb lk B us m bm cm sv f M M1 E) : ∀ i ∈ (tb :: W1.heap.size :: bm :: sv.ownBlock.toList), i ∈ tb :: M ∨ w.heap.size ≤ i := by
  intro i hi
  have hl := h.lt
  have hin : ∀ j ∈ M1, j ∈ tb :: M ∨ w.heap.size ≤ j := fun j hj => (h.hM j hj).imp (fun e => List.mem_cons_of_mem _ e) id
  simp only [List.mem_cons] at hi
  rcases hi with rfl | rfl | rfl | hi
  · exact .inl List.mem_cons_self
  · right; omega
  · exact hin _ h.aw.mb
  · cases hs : sv.ownBlock with
    | none => simp [hs] at hi
    | some j => simp [hs] at hi; subst hi; exact hin _ (h.aw.ms _ hs)

theorem Stand.after {w W1 w2 w9 w10 : World} {tb lk B bm cm gg cap g8 cap8 : Nat} {us : List Int} {m : Int} {sv : Value} {f : Int → Option Value} {M M1 E : List Nat} {ob : Obj} (h : Stand w W1 tb lk B us m bm cm sv f M M1 E) (N2 : New1 W1 w2 ob) (L : Last w2 w9 tb lk bm cm sv us.length W1.heap.size g8 cap8 f m gg cap B) (K : Kp [cm] w9 w10) : Kp (tb :: M) w w10 := by
  refine ((h.kp.trans (N2.kp.mono (by simp))).through L.kp h.mems).through K (fun i hi => ?_)
  obtain rfl : i = cm := by simpa using hi
  exact (h.hM i h.aw.mc).imp (fun e => List.mem_cons_of_mem _ e) id
theorem Stand.after_oth {w W1 w2 w9 w10 : World} {tb lk B bm cm gg cap g8 cap8 : Nat} {us : List Int} {m : Int} {sv : Value} {f : Int → Option Value} {M M1 E : List Nat} {ob : Obj} (h : Stand w W1 tb lk B us m bm cm sv f M M1 E) (N2 : New1 W1 w2 ob) (L : Last w2 w9 tb lk bm cm sv us.length W1.heap.size g8 cap8 f m gg cap B) (K : Kp [cm] w9 w10) :
    ∀ o, o ≠ 51 → o ≠ 52 → o ≠ 54 → w10.cell? ⟨tb, o, none⟩ = w.cell? ⟨tb, o, none⟩ := fun o o1 o2 o3 => by
  have bt : tb < W1.heap.size := lt_of_cell h.aw.c51
  have s2 := N2.size
  have s9 := L.kp.size
  have hcm := (h.aw.ltM cm h.aw.mc).1
  have := h.aw.tlt
  rw [K.cell (p := ⟨tb, o, none⟩) (show tb < w9.heap.size by omega) (by simp; omega), L.oth o o2, N2.kp.cell (p := ⟨tb, o, none⟩) bt (by simp), h.oth o o1 o2 o3]
theorem Stand.after_M {w W1 w2 w9 : World} {tb lk B bm cm gg cap g8 cap8 : Nat} {us : List Int} {m : Int} {sv : Value} {f : Int → Option Value} {M M1 E : List Nat} {ob : Obj} (h : Stand w W1 tb lk B us m bm cm sv f M M1 E) (N2 : New1 W1 w2 ob) (L : Last w2 w9 tb lk bm cm sv us.length W1.heap.size g8 cap8 f m gg cap B) : ∀ i ∈ gg :: M1, i ∈ M ∨ w.heap.size ≤ i := by
  intro i hi
  have hl := h.lt
  have s2 := N2.size
  rcases List.mem_cons.1 hi with rfl | hi
  · rcases L.at' with e | e
    · exact h.hM _ (h.aw.ms _ e)
    · right; omega
  · exact h.hM i hi
theorem Stand.after_E {w W1 w2 w9 : World} {tb lk B bm cm gg cap g8 cap8 : Nat} {us : List Int} {m : Int} {sv : Value} {f : Int → Option Value} {M M1 E : List Nat} {ob : Obj} (h : Stand w W1 tb lk B us m bm cm sv f M M1 E) (N2 : New1 W1 w2 ob) (L : Last w2 w9 tb lk bm cm sv us.length W1.heap.size g8 cap8 f m gg cap B) : ∀ i ∈ W1.heap.size :: g8 :: E, i ∈ E ∨ w.heap.size ≤ i := by
  intro i hi
  have hl := h.lt
  have s2 := N2.size
  have := L.g8ge
  simp only [List.mem_cons] at hi
  rcases hi with rfl | rfl | hi
  · right; omega
  · right; omega
  · exact .inl hi

theorem AWi.touch {w w' : World} {tb lk B bm cm e : Nat} {us : List Int} {sv : Value} {f : Int → Option Value} {M E : List Nat} (h : AWi w tb lk B us bm cm sv f M E) (k : Kp [e] w w') (he : e ∈ E) (hc : ∀ o, o ≠ 35 → o ≠ 36 → w'.cell? ⟨e, o, none⟩ = w.cell? ⟨e, o, none⟩) : AWi w' tb lk B us bm cm sv f M E := by
  have bt : tb < w.heap.size := lt_of_cell h.c51
  have hE := h.ltE e he
  have ht := h.tlt
  have hn : tb ∉ [e] := by simp; omega
  have hM : ∀ i ∈ M, i ∉ [e] := fun i hi hm => by
    obtain rfl : i = e := by simpa using hm
    exact h.me i he hi
  obtain ⟨xs, ho⟩ := h.own
  exact { h with
    c51 := (k.cell (p := ⟨tb, 51, none⟩) bt hn).trans h.c51
    c52 := (k.cell (p := ⟨tb, 52, none⟩) bt hn).trans h.c52
    c54 := (k.cell (p := ⟨tb, 54, none⟩) bt hn).trans h.c54
    map := h.map.kp k (hM _ h.mb)
    ent := fun m v hv => by
      obtain ⟨e', g', c', h1, h2, h3, h4, h5⟩ := h.ent m v hv
      refine ⟨e', g', c', h1, h2, h3, ?_, ?_⟩
      · by_cases hx : e' = e
        · subst hx; exact (hc 33 (by omega) (by omega)).trans h4
        · exact (k.cell (p := ⟨e', 33, none⟩) (lt_of_cell h4) (by simpa using hx)).trans h4
      · by_cases hx : g' = e
        · subst hx; exact (hc 0 (by omega) (by omega)).trans h5
        · exact (k.cell (p := ⟨g', 0, none⟩) (lt_of_cell h5) (by simpa using hx)).trans h5
    cnt := h.cnt.kp k (hM _ h.mc)
    own := ⟨xs, ownsRow_of_block ho (fun i hi => k.block i (ho.lt i hi).2 (hM i (h.ms i hi)))⟩
    ltM := fun i hi => ⟨(h.ltM i hi).1, Nat.lt_of_lt_of_le (h.ltM i hi).2 k.size⟩
    ltE := fun i hi => ⟨(h.ltE i hi).1, Nat.lt_of_lt_of_le (h.ltE i hi).2 k.size⟩
    thaw := fun o => (k.frozen (p := ⟨tb, o, none⟩) bt hn).trans (h.thaw o)
    base := Nat.le_trans h.base k.size }

theorem Last.done {W1 w2 w9 w10 : World} {tb lk B bm cm gg cap g8 cap8 : Nat} {us : List Int} {sv : Value} {f : Int → Option Value} {m : Int} {M E : List Nat} (h : Last w2 w9 tb lk bm cm sv us.length W1.heap.size g8 cap8 f m gg cap B) (A : AWi w2 tb lk B us bm cm sv f M E) (A1 : AWi W1 tb lk B us bm cm sv f M E) (hsz : w2.heap.size = W1.heap.size + 1)
    (K : Kp [cm] w9 w10) (hC : MC w10 cm lk (some ((us.length : Int) + 1))) :
    AWi w10 tb lk B (us ++ [m]) bm cm (.slice (some ⟨gg, 0, none⟩) (us.length + 1) cap) (fun k => if k = m then some (.pointer (some ⟨W1.heap.size, 0, none⟩)) else f k) (gg :: M) (W1.heap.size :: g8 :: E) := by
  have bt9 : tb < w9.heap.size := lt_of_cell h.c51
  have hcm := A1.ltM cm A1.mc
  have hbm := A1.ltM bm A1.mb
  have ht := A1.tlt
  have hb := A1.base
  have s9 := h.kp.size
  have s10 := K.size
  have ggge := h.g8ge
  obtain ⟨xs, ho⟩ := h.own
  have hgg := ho.lt gg rfl
  have tc : tb ∉ [cm] := by simp; omega
  have ggcm : gg ≠ cm := by
    rcases h.at' with e | e
    · intro e2; exact A.n3 (by rw [e, e2])
    · omega
  have ggbm : gg ≠ bm := by
    rcases h.at' with e | e
    · intro e2; exact A.n2 (by rw [e, e2])
    · omega
  have hg8 : g8 < w9.heap.size := lt_of_cell h.g0
  have nownM : ∀ k, sv.ownBlock = some k → k ∈ M := A.ms
  have hE1 : ∀ i ∈ E, i < W1.heap.size := fun i hi => (A1.ltE i hi).2
  have hE0 : ∀ i ∈ E, B ≤ i := fun i hi => (A1.ltE i hi).1
  have k210 : Kp (cm :: tb :: W1.heap.size :: bm :: sv.ownBlock.toList) w2 w10 := (h.kp.mono (fun k hk => List.mem_cons_of_mem _ hk)).trans (K.mono (by simp))
  have hEn : ∀ i ∈ E, i ∉ (cm :: tb :: W1.heap.size :: bm :: sv.ownBlock.toList) := fun i hi hm => by
    have q1 := hE1 i hi
    have q0 := hE0 i hi
    have q2 := A.me i hi
    simp only [List.mem_cons] at hm
    rcases hm with rfl | rfl | rfl | rfl | hm
    · exact q2 A.mc
    · omega
    · omega
    · exact q2 A.mb
    · cases hs : sv.ownBlock with
      | none => simp [hs] at hm
      | some j => simp [hs] at hm; subst hm; exact q2 (nownM _ hs)
  refine ⟨(K.cell (p := ⟨tb, 51, none⟩) bt9 tc).trans h.c51, (K.cell (p := ⟨tb, 52, none⟩) bt9 tc).trans h.c52, (K.cell (p := ⟨tb, 54, none⟩) bt9 tc).trans h.c54, List.mem_cons_of_mem _ A.mb, List.mem_cons_of_mem _ A.mc, ?_, ?_, ?_, ?_, ?_, ⟨xs, ?_⟩, A.n1, by simpa [Value.ownBlock] using ggbm, by simpa [Value.ownBlock] using ggcm, ?_, ?_, ?_, fun o => (K.frozen (p := ⟨tb, o, none⟩) bt9 tc).trans (h.thaw o), A.tlt, by omega⟩
  · intro k hk
    obtain rfl : k = gg := by simpa [Value.ownBlock] using hk.symm
    exact List.mem_cons_self
  · simpa using h.map.kp K (by simpa using A.n1)
  · intro k
    by_cases hk : k = m
    · simp [hk]
    · simp only [hk, if_false, List.mem_append, List.mem_singleton, or_false]
      exact A.mem k
  · intro k v hv
    by_cases hk : k = m
    · simp only [hk, if_true] at hv
      obtain rfl := Option.some.inj hv
      refine ⟨W1.heap.size, g8, cap8, rfl, by simp, by simp, (K.cell (p := ⟨W1.heap.size, 33, none⟩) (lt_of_cell h.e33) (by simp; omega)).trans h.e33, (K.cell (p := ⟨g8, 0, none⟩) hg8 (by simp; omega)).trans h.g0⟩
    · simp only [hk, if_false] at hv
      exact (A.ent k v hv).kp k210 hEn (fun i hi => by simp [hi])
  · simpa using hC
  · have : w10.ownsRow B 156 1 (.slice (some ⟨gg, 0, none⟩) (us.length + 1) cap) (us.length + 1) xs := ownsRow_of_block ho (fun k hk => by
      obtain rfl : k = gg := by simpa [Value.ownBlock] using hk.symm
      exact K.block k hgg.2 (by simpa using ggcm))
    simpa using this
  · intro i hi
    rcases List.mem_cons.1 hi with rfl | hi
    · exact ⟨hgg.1, by omega⟩
    · have := A.ltM i hi
      exact ⟨this.1, by omega⟩
  · intro i hi
    simp only [List.mem_cons] at hi
    rcases hi with rfl | rfl | hi
    · exact ⟨hb, by omega⟩
    · exact ⟨by omega, by omega⟩
    · have := hE1 i hi
      exact ⟨hE0 i hi, by omega⟩
  · intro i hi hmm
    have hgM : ∀ j ∈ M, j < W1.heap.size := fun j hj => (A1.ltM j hj).2
    simp only [List.mem_cons] at hi hmm
    rcases hi with rfl | rfl | hi
    · rcases hmm with e | e
      · exact h.ggne e.symm
      · have := hgM _ e; omega
    · rcases hmm with e | e
      · exact h.g8gg e
      · have := hgM _ e; omega
    · rcases hmm with rfl | e
      · have := hE1 _ hi
        rcases h.at' with e | e
        · exact A.me _ hi (A.ms _ e)
        · omega
      · exact A.me _ hi e

set_option maxRecDepth 20000 in
set_option maxHeartbeats 3200000 in
theorem announce_new (tb lk B : Nat) (us : List Int) (M E : List Nat) (m hops : Int) (w : World) (h0 : 0 ≤ m) (h1 : m < 16) (h : AW w tb lk B us M E) (hm : m ∉ us) (hlen : us.length < 4096) :
    Calls Ybad.prog 32 #[.pointer (some ⟨tb, 51, none⟩), .pointer (some ⟨lk, 0, none⟩), .agg (idc m).toArray, .int .i64 hops, .agg #[.int .u64 0, .int .i64 0, .pointer none]] w fun e w' => e = .returned (.bool (us.length == 0)) ∧
      ∃ M' E', AW w' tb lk B (us ++ [m]) M' E' ∧ Kp (tb :: M) w w' ∧ (∀ i ∈ M', i ∈ M ∨ w.heap.size ≤ i) ∧ (∀ i ∈ E', i ∈ E ∨ w.heap.size ≤ i) ∧ (∀ o, o ≠ 51 → o ≠ 52 → o ≠ 54 → w'.cell? ⟨tb, o, none⟩ = w.cell? ⟨tb, o, none⟩) := by
  obtain ⟨K0, r0, r1, hs⟩ := id_box w m
  go_enter Ybad.func32, Ybad.ntmps32
  have hlt0 : ∀ i, i < w.heap.size → i ≠ w.heap.size := fun i hi => by omega
  rcases h.out with ⟨hu, hMM, hEE, e1, e2, e3, e4, e5, e6⟩ | ⟨hne, bm, cm, sv, f, A0⟩
  case' inl =>
    have bt0 : tb < w.heap.size := lt_of_cell e1
    have c51 : ((w.alloc (.cells (idc m).toArray 97)).alloc (.cells #[.int .u64 0, .int .i64 0, .pointer none] 43)).cell? ⟨tb, 51, none⟩ = some (.map none) := (K0.cell (p := ⟨tb, 51, none⟩) bt0 (by simp)).trans e1
    have c54 : ((w.alloc (.cells (idc m).toArray 97)).alloc (.cells #[.int .u64 0, .int .i64 0, .pointer none] 43)).cell? ⟨tb, 54, none⟩ = some (.map none) := (K0.cell (p := ⟨tb, 54, none⟩) bt0 (by simp)).trans e3
    go_wp2_with (first
      | (refine wpList_load_one rfl 57 rfl rfl (.map none) Ybad.underlying57 rfl c54 ?_)
      | (refine wpList_lookup rfl rfl rfl rfl _ (look_nil57 _ lk) ?_))
    have bt : tb < ((w.alloc (.cells (idc m).toArray 97)).alloc (.cells #[.int .u64 0, .int .i64 0, .pointer none] 43)).heap.size := lt_of_cell c51
    generalize ((w.alloc (.cells (idc m).toArray 97)).alloc (.cells #[.int .u64 0, .int .i64 0, .pointer none] 43)) = W at *
    refine wp_region_kp (by kernel_rfl) (by kernel_rfl) ?_
    go_big_quiet_want
    go_big_quiet_op
    first | go_big_quiet_on | (refine ⟨_, fun _ _ => rfl, ?_⟩; go_big_quiet_on)
    go_big_quiet_want
    go_big_quiet_op
    first | go_big_quiet_on | (refine ⟨_, fun _ _ => rfl, ?_⟩; go_big_quiet_on)
    go_big_quiet_want
    go_big_quiet_op
    first | go_big_quiet_on | (refine ⟨_, fun _ _ => rfl, ?_⟩; go_big_quiet_on)
    go_big_quiet_want
    refine quiet_load_one 55 rfl rfl (.map none) Ybad.underlying55 rfl (fun w' k => (k.cell bt (by simp)).trans c51) ?_
    simp only [Act.put, List.setIfInBounds_toArray, List.set_cons_zero, List.set_cons_succ]
    go_big_quiet_on
    go_big_quiet_want
    refine quiet_load_mid 97 rfl rfl (idc m) Ybad.underlying97 rfl (size97i m) (fun w' k => range_kp r0 k (by omega)) ?_
    simp only [Act.put, List.setIfInBounds_toArray, List.set_cons_zero, List.set_cons_succ]
    go_big_quiet_on
    go_big_quiet_want
    refine quiet_lookup rfl rfl rfl _ (fun w' k => (look_nil97 w' m h0 h1 Ybad.underlying55 (zero156 w')).1) ?_
    simp only [Act.put, List.setIfInBounds_toArray, List.set_cons_zero, List.set_cons_succ]
    go_big_quiet_on
    go_big_quiet_want
    go_big_quiet_op
    first | go_big_quiet_on | (refine ⟨_, fun _ _ => rfl, ?_⟩; go_big_quiet_on)
    refine wpQuiet_nil ?_
    intro w2 K2
    have K02 := K0.trans K2
    have hs2 := K2.size
    have cc : ∀ o, w2.cell? ⟨tb, o, none⟩ = w.cell? ⟨tb, o, none⟩ := fun o => K02.cell (p := ⟨tb, o, none⟩) bt0 (by simp)
    have ff : ∀ o, w2.frozen? ⟨tb, o, none⟩ = false := fun o => (K02.frozen (p := ⟨tb, o, none⟩) bt0 (by simp)).trans (e4 o)
    have r0' := range_kp r0 K2 (by omega)
    have r1' := range_kp r1 K2 (by omega)
    have q := fun w => eql_map_nil w 55 97 156 Ybad.underlying55
    have c51' : w2.cell? ⟨tb, 51, none⟩ = some (.map none) := (cc 51).trans e1
    clear r0 r1 c51 c54
    go_wp2_with (first
      | (refine wpList_load_one rfl 55 rfl rfl (.map none) Ybad.underlying55 rfl c51' ?_)
      | (refine wpList_newMap rfl 55 rfl ?_; intro w3 N3)
      | (refine wpList_newMap rfl 57 rfl ?_; intro w4 N4; have bt2 : tb < w2.heap.size := lt_of_cell c51'; have s3 := N3.size; have KA := N3.kp.trans N4.kp; have g1 := (KA.cell (p := ⟨tb, 51, none⟩) bt2 (by simp)).trans c51'; have g2 := (KA.cell (p := ⟨tb, 54, none⟩) bt2 (by simp)).trans ((cc 54).trans e3); have gf : ∀ o, w4.frozen? ⟨tb, o, none⟩ = false := fun o => (KA.frozen (p := ⟨tb, o, none⟩) bt2 (by simp)).trans (ff o))
      | (refine wpList_put1 rfl 55 rfl rfl (.map (some w2.heap.size)) rfl rfl size55 g1 (gf 51) ?_; intro w5 P5)
      | (refine wpList_put1 rfl 57 rfl rfl (.map (some (w2.heap.size + 1))) rfl rfl size57 ((P5.other 54 (by omega)).trans g2) ((P5.thaw _).trans (gf 54)) ?_; intro W1 P6; refine Hid.out ?_))
    refine Lib.hid ?_
    obtain ⟨bm, cm, sv, f, M1, ST⟩ : ∃ bm cm sv f M1, Stand w W1 tb lk B us m bm cm sv f M M1 E := by
      have A1 := AWi.start (lk := lk) ((cc 52).trans e2) ff e5 (by omega) N3 N4 P5 P6
      have KX : Kp [tb] w2 W1 := ((N3.kp.trans N4.kp).mono (by simp)).trans (P5.kp.trans P6.kp)
      have KW : Kp [tb] w W1 := (K02.mono (by simp)).trans KX
      have s4 := N4.size
      have s5 := P5.size
      have s6 := P6.size
      rw [hu.out, hMM.out, hEE.out]
      refine ⟨_, _, _, _, _, A1, KW, KX.range r0' (by omega) (by simp; omega), KX.range r1' (by omega) (by simp; omega), ?_, ?_, rfl, by omega, by simp, by simp, bt0⟩
      · intro i hi
        simp at hi
        omega
      · intro o o1 o2 o3
        rw [P6.other o o3, P5.other o o1, KA.cell (p := ⟨tb, o, none⟩) bt2 (by simp), cc o]
    clear N3 N4 P5 P6 r0' r1' cc ff K02 g1 g2 gf KA c51' q hs2 bt K2
  case' inr =>
    have bt0 : tb < w.heap.size := lt_of_cell A0.c51
    have h' := A0.kp K0 (by simp) (by simp) (by simp)
    have c54 := h'.c54
    have hl := h'.cnt.look
    rw [if_neg hne, Option.getD_some] at hl
    have hge : ¬ 4096 ≤ (us.length : Int) := by omega
    generalize (us.length : Int) = ul at hl hge
    have HL : Hid ((Instr.lookup 57 (.map (some cm)) (.pointer (some ⟨lk, 0, none⟩)) false).run Ybad.prog ((w.alloc (.cells (idc m).toArray 97)).alloc (.cells #[.int .u64 0, .int .i64 0, .pointer none] 43)) = .ok (.int .i64 ul) ((w.alloc (.cells (idc m).toArray 97)).alloc (.cells #[.int .u64 0, .int .i64 0, .pointer none] 43))) := hl
    clear hl
    go_wp2_with (first
      | (refine wpList_load_one rfl 57 rfl rfl (.map (some cm)) Ybad.underlying57 rfl c54 ?_)
      | (refine wpList_lookup rfl rfl rfl rfl _ HL.out ?_))
    clear HL c54
    have hfm : f m = none := by
      cases hf : f m with
      | none => rfl
      | some v => exact (hm ((h'.mem m).1 (by rw [hf]; rfl))).elim
    generalize ((w.alloc (.cells (idc m).toArray 97)).alloc (.cells #[.int .u64 0, .int .i64 0, .pointer none] 43)) = W at *
    have bt : tb < W.heap.size := lt_of_cell h'.c51
    refine wp_region_kp (by kernel_rfl) (by kernel_rfl) ?_
    go_big_quiet_want
    go_big_quiet_op
    first | go_big_quiet_on | (refine ⟨_, fun _ _ => rfl, ?_⟩; go_big_quiet_on)
    go_big_quiet_want
    go_big_quiet_op
    first | go_big_quiet_on | (refine ⟨_, fun _ _ => rfl, ?_⟩; go_big_quiet_on)
    go_big_quiet_want
    go_big_quiet_op
    first | go_big_quiet_on | (refine ⟨_, fun _ _ => rfl, ?_⟩; go_big_quiet_on)
    go_big_quiet_want
    refine quiet_load_one 55 rfl rfl (.map (some bm)) Ybad.underlying55 rfl (fun w' k => (k.cell bt (by simp)).trans h'.c51) ?_
    simp only [Act.put, List.setIfInBounds_toArray, List.set_cons_zero, List.set_cons_succ]
    go_big_quiet_on
    go_big_quiet_want
    refine quiet_load_mid 97 rfl rfl (idc m) Ybad.underlying97 rfl (size97i m) (fun w' k => range_kp r0 k (by omega)) ?_
    simp only [Act.put, List.setIfInBounds_toArray, List.set_cons_zero, List.set_cons_succ]
    go_big_quiet_on
    go_big_quiet_want
    refine quiet_lookup rfl rfl rfl _ (fun w' k => (h'.map.kp k (by simp)).look h0 h1 Ybad.underlying55 (zero156 w')) ?_
    simp only [Act.put, List.setIfInBounds_toArray, List.set_cons_zero, List.set_cons_succ]
    go_big_quiet_on
    go_big_quiet_want
    go_big_quiet_op
    first | go_big_quiet_on | (refine ⟨_, fun _ _ => rfl, ?_⟩; go_big_quiet_on)
    refine wpQuiet_nil ?_
    intro W1 K2
    simp only [hfm, Option.getD_none]
    have A1 := h'.kp K2 (by simp) (by simp) (by simp)
    have K02 := K0.trans K2
    have hs2 := K2.size
    obtain ⟨M1, ST⟩ : ∃ M1, Stand w W1 tb lk B us m bm cm sv f M M1 E := ⟨M, A1, K02.mono (by simp), range_kp r0 K2 (by omega), range_kp r1 K2 (by omega), fun i hi => .inl hi, fun o _ _ _ => K02.cell (p := ⟨tb, o, none⟩) bt0 (by simp), hfm, by omega, fun i hi => (A0.ltE i hi).2, fun i hi => (A0.ltM i hi).2, bt0⟩
    clear h' A1 K02 hs2 K2 bt hfm A0
  all_goals
    clear K0 hs
    obtain ⟨S, hS, S33, S35, S36⟩ := built161 m
    have c51 := ST.aw.c51
    have rr0 := ST.r0
    have rr1 := ST.r1
    have q := fun w => eql_map w 55 97 156 Ybad.underlying55 bm
    go_wp2_with (first
      | (refine wpList_load_one rfl 55 rfl rfl (.map (some bm)) Ybad.underlying55 rfl c51 ?_)
      | (refine wpList_load_mid rfl 97 _ rfl _ _ rfl (idc m) _ rr0 Ybad.underlying97 rfl (size97i m) ?_)
      | (refine wpList_load_mid rfl 43 _ rfl _ _ rfl [.int .u64 0, .int .i64 0, .pointer none] _ rr1 Ybad.underlying43 rfl size43 ?_)
      | (refine wpList_build rfl 161 _ rfl #[(0, .agg (idc m).toArray), (4, .agg #[.int .u64 0, .int .i64 0, .pointer none])] (by simp only [List.map_toArray, List.map_cons, List.map_nil]; rfl) S hS ?_)
      | (refine wpList_boxed rfl 161 rfl S rfl ?_; intro w2 N2; refine Hid.out ?_))
    refine Lib.hid ?_
    clear q c51 rr0 rr1
    have A2 := ST.aw.kp N2.kp (by simp) (by simp) (by simp)
    have KW2 := ST.kp.trans (N2.kp.mono (by simp))
    have t2 := range_kp ST.r0 N2.kp (by have := ST.lt; omega)
    have s2 := N2.size
    have bt2 : tb < w2.heap.size := lt_of_cell A2.c51
    obtain ⟨ob3, hup, M3⟩ := (A2.map.kp ((Kp.refl [] w2).drew) (by simp)).put (v := .pointer (some ⟨W1.heap.size, 0, none⟩)) h0 h1 Ybad.underlying55
    rw [ST.fm] at M3
    simp only [Option.isSome_none, Bool.false_eq_true, if_false] at M3
    have K3 : Kp [bm] w2 (mset w2.drew bm ob3) := ((Kp.refl [bm] w2).drew).trans (mset_kp _ _ _)
    have nbt : tb ≠ bm := fun e => by have := ST.aw.tlt; have := (ST.aw.ltM bm ST.aw.mb).1; omega
    have c3 := (K3.cell (p := ⟨tb, 51, none⟩) bt2 (by simpa using nbt)).trans A2.c51
    have hlb : w.heap.size ≠ bm := fun e => by
      have h2 := ST.r0 0 _ rfl
      obtain ⟨es, c, hmp, _⟩ := ST.aw.map
      rw [← e] at hmp
      simp [World.cell?, hmp] at h2
    have t3 := K3.range t2 (by have := ST.lt; omega) (by simpa using hlb)
    generalize mset w2.drew bm ob3 = w3 at *
    have c2 := A2.c51
    go_wp2_with fail
    refine wp_region_held_drew (S := fun w' => w'.cell? ⟨tb, 51, none⟩ = some (.map (some bm)) ∧ w'.rangeAt w.heap.size 0 (idc m)) (by kernel_rfl) (⟨c2, t2⟩) (fun hHeld => ?_)
    apply wpAnyH_take (i := 0) (v := .pointer (some ⟨tb, 51, none⟩))
    · simp only [List.getElem?_toArray, List.getElem?_cons_succ, List.getElem?_cons_zero] <;> rfl
    · kernel_rfl
    · kernel_rfl
    · kernel_rfl
    · exact fun _ _ _ h => h
    · exact Or.inl ⟨by rfl, fun _ _ => by go_simp⟩
    · exact hHeld
    simp only [Act.put, List.setIfInBounds_toArray, List.set_cons_zero, List.set_cons_succ]
    apply wpAnyH_take (i := 1) (v := .pointer (some ⟨tb, 51, none⟩))
    · simp only [List.getElem?_toArray, List.getElem?_cons_succ, List.getElem?_cons_zero] <;> rfl
    · kernel_rfl
    · kernel_rfl
    · kernel_rfl
    · exact fun _ _ _ h => h
    · exact Or.inl ⟨by rfl, fun _ _ => by go_simp⟩
    · exact hHeld
    simp only [Act.put, List.setIfInBounds_toArray, List.set_cons_zero, List.set_cons_succ]
    apply wpAnyH_take (i := 2) (v := .pointer (some ⟨tb, 51, none⟩))
    · simp only [List.getElem?_toArray, List.getElem?_cons_succ, List.getElem?_cons_zero] <;> rfl
    · kernel_rfl
    · kernel_rfl
    · kernel_rfl
    · exact fun _ _ _ h => h
    · exact Or.inl ⟨by rfl, fun _ _ => by go_simp⟩
    · exact hHeld
    simp only [Act.put, List.setIfInBounds_toArray, List.set_cons_zero, List.set_cons_succ]
    apply wpAnyH_take (i := 3) (v := .map (some bm))
    · simp only [List.getElem?_toArray, List.getElem?_cons_succ, List.getElem?_cons_zero] <;> rfl
    · kernel_rfl
    · kernel_rfl
    · kernel_rfl
    · exact fun _ _ _ h => h
    · exact yieldsIf_load_one (by rfl) 55 rfl rfl _ Ybad.underlying55 rfl (fun _ h => h.1)
    · exact hHeld
    simp only [Act.put, List.setIfInBounds_toArray, List.set_cons_zero, List.set_cons_succ]
    apply wpAnyH_take (i := 4) (v := .agg (idc m).toArray)
    · simp only [List.getElem?_toArray, List.getElem?_cons_succ, List.getElem?_cons_zero] <;> rfl
    · kernel_rfl
    · kernel_rfl
    · kernel_rfl
    · exact fun _ _ _ h => h
    · exact yieldsIf_load_mid (by rfl) 97 _ rfl _ _ rfl (idc m) _ (fun _ h => h.2) Ybad.underlying97 rfl (size97i m)
    · exact hHeld
    simp only [Act.put, List.setIfInBounds_toArray, List.set_cons_zero, List.set_cons_succ]
    apply wpAnyH_take (i := 5) (v := .pointer (some ⟨W1.heap.size, 0, none⟩))
    · simp only [List.getElem?_toArray, List.getElem?_cons_succ, List.getElem?_cons_zero] <;> rfl
    · kernel_rfl
    · kernel_rfl
    · kernel_rfl
    · exact fun _ _ _ h => h
    · exact Or.inl ⟨by rfl, fun _ _ => by go_simp⟩
    · exact hHeld
    simp only [Act.put, List.setIfInBounds_toArray, List.set_cons_zero, List.set_cons_succ]
    apply wpAnyH_ready (rs := [6]) (by kernel_rfl) (by simp)
    apply AllReadyH.cons
    · simp only [List.getElem?_toArray, List.getElem?_cons_succ, List.getElem?_cons_zero] <;> rfl
    rotate_left
    · exact AllReadyH.nil
    intro K hK
    rw [if_pos (by rfl)]
    apply wp_upd (b := bm) (kv := .agg (idc m).toArray) (v := .pointer (some ⟨W1.heap.size, 0, none⟩)) (w' := w3)
    · rfl
    · rfl
    · rfl
    · rfl
    · exact hup
    refine hK.out _ _ ⟨c3, t3⟩ (fun hHeld => ?_)
    clear hK K
    simp only [Act.put, List.setIfInBounds_toArray, List.set_cons_zero, List.set_cons_succ]
    refine wpAnyH_done (by kernel_rfl) ?_ _
    clear hup hHeld
    have s3 := K3.size
    obtain ⟨xs, ho2⟩ := A2.own
    have nsv : ∀ k, sv.ownBlock = some k → k ≠ bm := fun k hk e => A2.n2 (by rw [hk, e])
    have ho3 : w3.ownsRow B 156 1 sv us.length xs := ownsRow_of_block ho2 (fun k hk => K3.block k (ho2.lt k hk).2 (by simpa using nsv k hk))
    have c52 : w3.cell? ⟨tb, 52, none⟩ = some sv := (K3.cell (p := ⟨tb, 52, none⟩) bt2 (by simpa using nbt)).trans A2.c52
    have f3 : ∀ o, w3.frozen? ⟨tb, o, none⟩ = false := fun o => (K3.frozen (p := ⟨tb, o, none⟩) bt2 (by simpa using nbt)).trans (A2.thaw o)
    have bt3 : tb < w3.heap.size := lt_of_cell c52
    have hB3 : B ≤ w3.heap.size := Nat.le_trans A2.base s3
    have ntsv : ∀ k, sv.ownBlock = some k → k ≠ tb := fun k hk e => by have := (ho2.lt k hk).1; have := A2.tlt; omega
    obtain ⟨i0, hi0, hz0, hz1, hz2⟩ := info_parts info156
    obtain ⟨j0, hj0, hy0, hy1, hy2⟩ := info_parts info24
    have HA2 : Hid (AWi w2 tb lk B us bm cm sv f M1 E) := A2
    have HM3 : Hid (MF w3 bm (us.length + 1) (fun k => if k = m then some (.pointer (some ⟨W1.heap.size, 0, none⟩)) else f k)) := M3
    have HST : Hid (Stand w W1 tb lk B us m bm cm sv f M M1 E) := ST
    clear A2 M3 ST c2 c3 t2 t3
    go_wp2_with (first
      | (refine wpList_load_one rfl 56 rfl rfl sv Ybad.underlying56 rfl c52 ?_)
      | (refine wpList_slice1 rfl 56 156 rfl (.pointer (some ⟨W1.heap.size, 0, none⟩)) rfl (slice56 _) ?_; intro w4 N4)
      | (at_builtin; refine wpList_append_lies w4 rfl _ _ 56 rfl B 156 i0 _ 1 8 Ybad.underlying56 hi0 hz0 hz1 hz2 rfl (by omega) sv us.length xs rfl (ownsRow_of_block ho3 (fun k hk => N4.kp.block k (ho3.lt k hk).2 (by simp))) ⟨w3.heap.size, 0, none⟩ 1 1 [.pointer (some ⟨W1.heap.size, 0, none⟩)] rfl rfl (World.news_of_block N4.at') (by simp [Value.oneCell']) (by omega) (by unfold maxLen; omega) (by omega) (by have := N4.kp.size; omega) _ rfl ?_; intro gg cap w5 ho5 hgrow hat hlt; refine Hid.out ?_))
    refine Lib.hid ?_
    have s4 := N4.size
    have K5 : Kp sv.ownBlock.toList w4 w5 := ⟨hgrow.os, hgrow.tape, hgrow.output, hgrow.size, fun i hi hn => hgrow.block i hi (fun e => hn (by rw [← e]; simp))⟩
    have G5 : Grew w2 w5 tb bm cm sv us.length (.pointer (some ⟨W1.heap.size, 0, none⟩)) f m gg cap B := Grew.mk' HA2.out K3 HM3.out N4 K5 ho5 hat
    clear hgrow hat hlt ho5 K5 HM3 ho3 ho2 N4 K3 c52 f3 bt3 hB3 ntsv nsv s3 s4 nbt hlb
    have e2 := N2.at'
    have hsz := N2.size
    have cE : ∀ o v, S[o]? = some v → w5.cell? ⟨W1.heap.size, o, none⟩ = some v := fun o v hv => by
      have h2 : w2.cell? ⟨W1.heap.size, o, none⟩ = some v := by simp [World.cell?, e2, hv]
      exact (G5.kp.cell (p := ⟨W1.heap.size, o, none⟩) (show W1.heap.size < w2.heap.size by omega) (G5.far HST.out.aw)).trans h2
    have fE : ∀ o, w5.frozen? ⟨W1.heap.size, o, none⟩ = false := fun o => (G5.kp.frozen (p := ⟨W1.heap.size, o, none⟩) (show W1.heap.size < w2.heap.size by omega) (G5.far HST.out.aw)).trans (Plain.thaw ⟨_, _, e2⟩ o)
    have nte : tb ≠ W1.heap.size := by have := HST.out.aw.tlt; have := HST.out.aw.base; omega
    have cE33 := cE 33 _ S33
    have cE35 := cE 35 _ S35
    have cE36 := cE 36 _ S36
    have c52 := G5.c52
    have f52 := G5.thaw 52
    clear cE S33
    go_wp2_with (first
      | (refine wpList_put1 rfl 56 rfl rfl (.slice (some ⟨gg, 0, none⟩) (us.length + 1) cap) rfl rfl size56 c52 f52 ?_; intro w6 P6; have c52b := P6.same; have cF33 := (P6.kp.cell (p := ⟨W1.heap.size, 33, none⟩) (lt_of_cell cE33) (by simpa using Ne.symm nte)).trans cE33)
      | (refine wpList_load_one rfl 56 rfl rfl _ Ybad.underlying56 rfl c52b ?_)
      | (refine wpList_load_one rfl 157 rfl rfl (.slice none 0 0) Ybad.underlying157 rfl cF33 ?_)
      | (refine wpList_slice1 rfl 157 24 rfl (.pointer (some ⟨lk, 0, none⟩)) rfl (slice157 _) ?_; intro w7 N7)
      | (at_builtin; refine wpList_append_lies w7 rfl _ _ 157 rfl B 24 j0 _ 1 8 Ybad.underlying157 hj0 hy0 hy1 hy2 rfl (by omega) (.slice none 0 0) 0 [] rfl (World.ownsRow_nil _ _ _ _) ⟨w6.heap.size, 0, none⟩ 1 1 [.pointer (some ⟨lk, 0, none⟩)] rfl rfl (World.news_of_block N7.at') (by simp [Value.oneCell']) (by omega) (by unfold maxLen; omega) (by omega) (by have := N7.size; have := P6.size; have := G5.base; omega) _ rfl ?_; intro g8 cap8 w8 ho8 hgrow8 hat8 hlt8; refine Hid.out ?_))
    refine Lib.hid ?_
    have K8 : Kp [] w7 w8 := ⟨hgrow8.os, hgrow8.tape, hgrow8.output, hgrow8.size, fun i hi _ => hgrow8.block i hi (by simp [Value.ownBlock])⟩
    have hg8 : w6.heap.size + 1 = g8 := by
      rcases hat8 with e | e
      · simp [Value.ownBlock] at e
      · rw [e, N7.size]
    have d8 : w8.cell? ⟨g8, 0, none⟩ = some (.pointer (some ⟨lk, 0, none⟩)) := by
      have := ho8.cellAt 0 (by omega)
      simpa using this
    have K68 := N7.kp.trans K8
    have s6 := P6.size
    have hb6 : W1.heap.size < w6.heap.size := by have := G5.kp.size; omega
    have cG33 := (K68.cell (p := ⟨W1.heap.size, 33, none⟩) hb6 (by simp)).trans cF33
    have fG33 := ((K68.frozen (p := ⟨W1.heap.size, 33, none⟩) hb6 (by simp)).trans (P6.thaw _)).trans (fE 33)
    clear hgrow8 hat8 hlt8 ho8 c52 f52 c52b cF33 cE33
    go_wp2_with (first
      | (refine wpList_put1 rfl 157 rfl rfl (.slice (some ⟨g8, 0, none⟩) 1 cap8) rfl rfl size157 cG33 fG33 ?_; intro w9 P9; refine Hid.out ?_))
    refine Lib.hid ?_
    have L9 : Last w2 w9 tb lk bm cm sv us.length W1.heap.size g8 cap8 f m gg cap B := Last.mk' HA2.out G5 P6 K68 P9 d8 HST.out.aw hb6 hsz hg8
    have HL9 : Hid ((Instr.lookup 57 (.map (some cm)) (.pointer (some ⟨lk, 0, none⟩)) false).run Ybad.prog w9 = .ok (.int .i64 us.length) w9) := L9.look
    obtain ⟨ob10, hup10, MC10⟩ := L9.cnt.put ((us.length : Int) + 1)
    have c54 := L9.c54
    clear cG33 fG33
    go_wp2_with (first
      | (refine wpList_load_one rfl 57 rfl rfl (.map (some cm)) Ybad.underlying57 rfl c54 ?_)
      | (refine wpList_lookup rfl rfl rfl rfl _ HL9.out ?_)
      | (refine wpList_upd rfl rfl (b := cm) (kv := .pointer (some ⟨lk, 0, none⟩)) (v := .int .i64 ((us.length : Int) + 1)) rfl rfl rfl ob10 hup10 ?_; refine Hid.out ?_))
    refine Lib.hid ?_
    have K10 := mset_kp w9 cm ob10
    have A10 := L9.done HA2.out HST.out.aw hsz K10 MC10
    have hcmE : W1.heap.size ≠ cm := by have := (HST.out.aw.ltM cm HST.out.aw.mc).2; omega
    have hE9 : W1.heap.size < w9.heap.size := by have := L9.kp.size; omega
    have x2 : ∀ o v, S[o]? = some v → w2.cell? ⟨W1.heap.size, o, none⟩ = some v := fun o v hv => by simp [World.cell?, e2, hv]
    have x35 := (K10.cell (p := ⟨W1.heap.size, 35, none⟩) hE9 (by simpa using hcmE)).trans (L9.eoth 35 _ (by omega) (x2 35 _ S35))
    have x36 := (K10.cell (p := ⟨W1.heap.size, 36, none⟩) hE9 (by simpa using hcmE)).trans (L9.eoth 36 _ (by omega) (x2 36 _ S36))
    have xf : ∀ o, (mset w9 cm ob10).frozen? ⟨W1.heap.size, o, none⟩ = false := fun o => ((K10.frozen (p := ⟨W1.heap.size, o, none⟩) hE9 (by simpa using hcmE)).trans (L9.efz o)).trans (Plain.thaw ⟨_, _, e2⟩ o)
    have xf35 := xf 35
    have xf36 := xf 36
    have KA : Kp (tb :: M) w (mset w9 cm ob10) := HST.out.after N2 L9 K10
    have hoth : ∀ o, o ≠ 51 → o ≠ 52 → o ≠ 54 → (mset w9 cm ob10).cell? ⟨tb, o, none⟩ = w.cell? ⟨tb, o, none⟩ := HST.out.after_oth N2 L9 K10
    have hWlt := HST.out.lt
    have hMM' : ∀ i ∈ gg :: M1, i ∈ M ∨ w.heap.size ≤ i := HST.out.after_M N2 L9
    have hEE' : ∀ i ∈ W1.heap.size :: g8 :: E, i ∈ E ∨ w.heap.size ≤ i := HST.out.after_E N2 L9
    have hret : ((us.length : Int) + 1 == 1) = (us.length == 0) := by
      cases us with
      | nil => rfl
      | cons x xs => simp; omega
    clear MC10 hup10 L9 P9 K68 P6 G5 d8 HA2 HST e2 x2 xf K10 N2 HL9 c54 cE35 cE36 fE
    generalize mset w9 cm ob10 = w10 at *
    by_cases hp : 0 < hops
    · have HA : Hid (AWi w10 tb lk B (us ++ [m]) bm cm (.slice (some ⟨gg, 0, none⟩) (us.length + 1) cap) (fun k => if k = m then some (.pointer (some ⟨W1.heap.size, 0, none⟩)) else f k) (gg :: M1) (W1.heap.size :: g8 :: E)) := A10
      clear A10
      go_wp2_with fail
      go_ret
      have K11 : Kp [W1.heap.size] w10 ((w10.setCell ⟨W1.heap.size, 35, none⟩ (.pointer (some ⟨lk, 0, none⟩))).setCell ⟨W1.heap.size, 36, none⟩ (.int .i64 hops)) := ((Kp.refl _ _).setCell (by simp) _).setCell (by simp) _
      have C11 : ∀ o, o ≠ 35 → o ≠ 36 → ((w10.setCell ⟨W1.heap.size, 35, none⟩ (.pointer (some ⟨lk, 0, none⟩))).setCell ⟨W1.heap.size, 36, none⟩ (.int .i64 hops)).cell? ⟨W1.heap.size, o, none⟩ = w10.cell? ⟨W1.heap.size, o, none⟩ := fun o o1 o2 => by
        rw [World.cell?_setCell_other _ _ _ _ (fun e => o2 (by simpa using e.symm)), World.cell?_setCell_other _ _ _ _ (fun e => o1 (by simpa using e.symm))]
      refine ⟨?_, gg :: M1, W1.heap.size :: g8 :: E, .on (by simp) (HA.out.touch K11 List.mem_cons_self C11), KA.through K11 ?_, hMM', hEE', fun o o1 o2 o3 => ?_⟩
      · first
        | rfl
        | (show Ending.returned (.bool ((us.length : Int) + 1 == 1)) = _; rw [hret])
      · intro i hi
        obtain rfl : i = W1.heap.size := by simpa using hi
        right; omega
      · rw [K11.cell (p := ⟨tb, o, none⟩) (show tb < w10.heap.size from lt_of_cell HA.out.c51) (by simpa using nte)]
        exact hoth o o1 o2 o3
    · go_wp2_with fail
      go_ret
      refine ⟨?_, gg :: M1, W1.heap.size :: g8 :: E, .on (by simp) A10, KA, hMM', hEE', hoth⟩
      first
      | rfl
      | (show Ending.returned (.bool ((us.length : Int) + 1 == 1)) = _; rw [hret])
end Go.Proofs.YbulkdaeyDoor
