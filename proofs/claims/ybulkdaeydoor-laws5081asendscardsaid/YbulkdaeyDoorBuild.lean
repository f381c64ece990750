import Derived.Test.YbulkdaeyDoorNew
import Derived.Test.YbulkdaeyDoorFwd
/-
  zzs5081abuild.
-/
namespace Go.Proofs.YbulkdaeyDoor
open Go.RowKit

/-- Behind New. -/
structure Nw (w w' : World) (tb mb : Nat) (k : List UInt8) : Prop where
  bel : Below w.heap.size w w'
  tree : ∃ S, w'.heap[tb]? = some (.cells S 69 (0, 0)) ∧ NewS k mb S
  map : w'.heap[mb]? = some (.map #[] 0)
  tge : w.heap.size ≤ tb
  mge : w.heap.size ≤ mb
  ne : tb ≠ mb

theorem new_nw (k : List UInt8) (hk : k.length = 32) (w : World) : Calls Ybad.prog 14 #[.agg (kcl k).toArray, .iface 107 (.agg #[])] w fun e w' => ∃ tb mb, e = .returned (.pointer (some ⟨tb, 0, none⟩)) ∧ Nw w w' tb mb k := by
  obtain ⟨S, hS, hN⟩ := built69 k hk (w.heap.size + 1) (w.heap.size + 1 + 1)
  refine (new_any k hk w S hS).mono ?_
  rintro e w' ⟨rfl, rfl⟩
  refine ⟨_, w.heap.size + 1, rfl, ((((Below.refl _ _).alloc (Nat.le_refl _) _).alloc (by simp) _).alloc (by simp; omega) _).alloc (by simp; omega) _, ⟨S, ?_, hN⟩, ?_, by omega, by omega, by omega⟩
  · have := heap_alloc_new (((w.alloc (.cells (kcl k).toArray 27)).alloc (.map #[] 0)).alloc (.map #[] 0)) (.cells S 69)
    simpa using this
  · have h1 := heap_alloc_new (w.alloc (.cells (kcl k).toArray 27)) (.map #[] 0)
    rw [show (w.alloc (.cells (kcl k).toArray 27)).heap.size = w.heap.size + 1 by simp] at h1
    rw [Below.heap_alloc _ _ _ (by simp), Below.heap_alloc _ _ _ (by simp)]
    exact h1

/-- A new host's cells. -/
def hostC : Array Value := #[.int .i64 2, .int .u64 0, .int .i64 0, .pointer none, .int .u64 0, .int .i64 0, .pointer none]
/-- A link's cells. -/
def linkC (hd : Int) (tr lz ch : Bool) (hb : Nat) : Array Value := #[.int .i64 hd, .bool tr, .bool lz, .bool ch, .pointer none, .int .u64 0, .pointer (some ⟨hb, 0, none⟩)]

/-- What is known of a tree's cells. -/
structure TS (k : List UInt8) (ma : Nat) (pv : Value) (S : Array Value) : Prop where
  key : S.toList.take 32 = kcl k
  fr : S[32]? = some (.iface 107 (.agg #[]))
  mu : S[33]? = some (.int .i32 0)
  links : S[35]? = some (.map (some ma))
  par : S[37]? = some pv

/-- The blocks that zzs5081abuild lays. -/
structure Bk (w : World) (tb mb hb l2 : Nat) (sk : List UInt8) (es : Array MapEntry) (c : Nat) (pv : Value) : Prop where
  tree : ∃ S, w.heap[tb]? = some (.cells S 69 (0, 0)) ∧ TS sk mb pv S
  map : w.heap[mb]? = some (.map es c)
  host : w.heap[hb]? = some (.cells hostC 109 (0, 0))
  two : w.heap[l2]? = some (.cells (linkC 2 true false true hb) 87 (0, 0))

theorem heap_lt {w : World} {b : Nat} {o : Obj} (h : w.heap[b]? = some o) : b < w.heap.size := (Array.getElem?_eq_some_iff.1 h).1
theorem heap_keep {w : World} {b : Nat} {o : Obj} (h : w.heap[b]? = some o) (o' : Obj) : (w.alloc o').heap[b]? = some o := (Below.heap_alloc w o' b (heap_lt h)).trans h

theorem Bk.alloc {w : World} {tb mb hb l2 : Nat} {sk : List UInt8} {es : Array MapEntry} {c : Nat} {pv : Value} (h : Bk w tb mb hb l2 sk es c pv) (o : Obj) : Bk (w.alloc o) tb mb hb l2 sk es c pv := by
  obtain ⟨⟨S, h1, h2⟩, h3, h4, h5⟩ := h
  exact ⟨⟨S, heap_keep h1 o, h2⟩, heap_keep h3 o, heap_keep h4 o, heap_keep h5 o⟩

theorem Bk.make {w w2 : World} {tb mb : Nat} {sk : List UInt8} (N : Nw w w2 tb mb sk) : Bk ((w2.alloc (.cells hostC 109)).alloc (.cells (linkC 2 true false true w2.heap.size) 87)) tb mb w2.heap.size (w2.heap.size + 1) sk #[] 0 (.pointer none) := by
  obtain ⟨_, ⟨S, h1, h2⟩, h3, _, _, _⟩ := N
  refine ⟨⟨S, heap_keep (heap_keep h1 _) _, h2.key, h2.fr, h2.mu, h2.links, h2.par⟩, heap_keep (heap_keep h3 _) _, heap_keep (heap_alloc_new w2 _) _, ?_⟩
  have := heap_alloc_new (w2.alloc (.cells hostC 109)) (.cells (linkC 2 true false true w2.heap.size) 87)
  simpa using this

/-- The world behind an entry laid into the map mb. -/
def upd (w : World) (mb : Nat) (o : Obj) : World := { w with heap := w.heap.setIfInBounds mb o }
theorem upd_same {w : World} {mb : Nat} {o o' : Obj} (h : w.heap[mb]? = some o) : (upd w mb o').heap[mb]? = some o' := (MapKept.heap_set h).1
theorem upd_far {w : World} {mb b : Nat} {o : Obj} (h : b ≠ mb) : (upd w mb o).heap[b]? = w.heap[b]? := by
  simp [upd, Ne.symm h]

theorem Bk.upd {w : World} {tb mb hb l2 : Nat} {sk : List UInt8} {es : Array MapEntry} {c : Nat} {pv : Value} (h : Bk w tb mb hb l2 sk es c pv) (es' : Array MapEntry) (c' : Nat) : Bk (upd w mb (.map es' c')) tb mb hb l2 sk es' c' pv := by
  obtain ⟨⟨S, h1, h2⟩, h3, h4, h5⟩ := h
  have n1 : tb ≠ mb := by rintro rfl; rw [h1] at h3; cases h3
  have n2 : hb ≠ mb := by rintro rfl; rw [h4] at h3; cases h3
  have n3 : l2 ≠ mb := by rintro rfl; rw [h5] at h3; cases h3
  exact ⟨⟨S, (upd_far n1).trans h1, h2⟩, upd_same h3, (upd_far n2).trans h4, (upd_far n3).trans h5⟩

theorem Bk.links {w : World} {tb mb hb l2 : Nat} {sk : List UInt8} {es : Array MapEntry} {c : Nat} {pv : Value} (h : Bk w tb mb hb l2 sk es c pv) : w.cell? ⟨tb, 35, none⟩ = some (.map (some mb)) := by
  obtain ⟨⟨S, h1, h2⟩, _, _, _⟩ := h
  simp [World.cell?, h1, h2.links]
theorem Bk.par {w : World} {tb mb hb l2 : Nat} {sk : List UInt8} {es : Array MapEntry} {c : Nat} {pv : Value} (h : Bk w tb mb hb l2 sk es c pv) : w.cell? ⟨tb, 37, none⟩ = some pv := by
  obtain ⟨⟨S, h1, h2⟩, _, _, _⟩ := h
  simp [World.cell?, h1, h2.par]
theorem Bk.thaw {w : World} {tb mb hb l2 : Nat} {sk : List UInt8} {es : Array MapEntry} {c : Nat} {pv : Value} (h : Bk w tb mb hb l2 sk es c pv) (o : Nat) : w.frozen? ⟨tb, o, none⟩ = false := by
  obtain ⟨⟨S, h1, h2⟩, _, _, _⟩ := h
  simp [World.frozen?, h1]

theorem upd_links {w : World} {mb : Nat} {es : Array MapEntry} {c : Nat} (h : w.heap[mb]? = some (.map es c)) (k : Int) (p : Value) (hf : Instr.findNow (.int .i64) (.int .i64 k) es.toList 0 = some none) :
    (Instr.mapUpdate 37 (.map (some mb)) (.int .i64 k) p).run Ybad.prog w = .ok () (upd w mb (.map (es.push ⟨.int .i64 k, p, c⟩) (c + 1))) := update_links h k p hf

theorem below_upd {B : Nat} {a w : World} {mb : Nat} (h : Below B a w) (hB : B ≤ mb) (o : Obj) : Below B a (upd w mb o) :=
  h.trans ⟨rfl, rfl, rfl, by simp [upd], fun k hk => upd_far (by omega)⟩

/-- The first map entry laid: a world w5. -/
theorem step_two {w w2 : World} {tb mb : Nat} {sk : List UInt8} (N : Nw w w2 tb mb sk) : ∃ w5, (Instr.mapUpdate 37 (.map (some mb)) (.int .i64 2) (.pointer (some ⟨w2.heap.size + 1, 0, none⟩))).run Ybad.prog ((w2.alloc (.cells hostC 109)).alloc (.cells (linkC 2 true false true w2.heap.size) 87)) = .ok () w5 ∧
    Bk w5 tb mb w2.heap.size (w2.heap.size + 1) sk #[⟨.int .i64 2, .pointer (some ⟨w2.heap.size + 1, 0, none⟩), 0⟩] 1 (.pointer none) ∧ Below w.heap.size w w5 ∧ w5.heap.size = w2.heap.size + 2 := by
  have B4 := Bk.make N
  refine ⟨_, upd_links B4.map 2 _ (by rfl), B4.upd _ _, below_upd ((N.bel.alloc N.bel.size _).alloc (by have := N.bel.size; simp; omega) _) N.mge _, by simp [upd]⟩

/-- The second. -/
theorem step_one {w w5 : World} {tb mb hb l2 : Nat} {sk : List UInt8} {pv : Value} {tr ch : Bool} (B : Bk w5 tb mb hb l2 sk #[⟨.int .i64 2, .pointer (some ⟨l2, 0, none⟩), 0⟩] 1 pv) (hb' : Below w.heap.size w w5) (hm : w.heap.size ≤ mb) :
    ∃ w7, (Instr.mapUpdate 37 (.map (some mb)) (.int .i64 1) (.pointer (some ⟨w5.heap.size, 0, none⟩))).run Ybad.prog (w5.alloc (.cells (linkC 1 tr true ch hb) 87)) = .ok () w7 ∧
    Bk w7 tb mb hb l2 sk #[⟨.int .i64 2, .pointer (some ⟨l2, 0, none⟩), 0⟩, ⟨.int .i64 1, .pointer (some ⟨w5.heap.size, 0, none⟩), 1⟩] 2 pv ∧ Below w.heap.size w w7 ∧ w7.heap[w5.heap.size]? = some (.cells (linkC 1 tr true ch hb) 87 (0, 0)) := by
  have B6 := B.alloc (.cells (linkC 1 tr true ch hb) 87)
  have hlt := heap_lt B.map
  exact ⟨_, upd_links B6.map 1 _ (by rfl), B6.upd _ _, below_upd (hb'.alloc hb'.size _) hm _, (upd_far (by omega)).trans (heap_alloc_new w5 _)⟩

/-- The parent's pointer. -/
def pvk (k : Int) (a b : Value) : Value := if k = 1 then a else if k = 2 then b else .pointer none

theorem pvk_one {k : Int} (h : k = 1) (a b : Value) : pvk k a b = a := by simp [pvk, h]
theorem pvk_two {k : Int} (h : k = 2) (a b : Value) : pvk k a b = b := by simp [pvk, h]
theorem pvk_not {k : Int} (h1 : k ≠ 1) (h2 : k ≠ 2) (a b : Value) : pvk k a b = .pointer none := by simp [pvk, h1, h2]

theorem TS.set {k : List UInt8} {ma : Nat} {pv : Value} {S : Array Value} (h : TS k ma pv S) (pv' : Value) : TS k ma pv' (S.setIfInBounds 37 pv') := by
  have hlt : 37 < S.size := (Array.getElem?_eq_some_iff.1 h.par).1
  refine ⟨?_, by simpa using h.fr, by simpa using h.mu, by simpa using h.links, by simp [hlt]⟩
  rw [← h.key]
  simp [List.take_set_of_le]

theorem Bk.setPar {w : World} {tb mb hb l2 : Nat} {sk : List UInt8} {es : Array MapEntry} {c : Nat} {pv : Value} (h : Bk w tb mb hb l2 sk es c pv) (pv' : Value) (n1 : hb ≠ tb) (n2 : l2 ≠ tb) : Bk (w.setCell ⟨tb, 37, none⟩ pv') tb mb hb l2 sk es c pv' := by
  obtain ⟨⟨S, h1, h2⟩, h3, h4, h5⟩ := h
  have n0 : mb ≠ tb := by rintro rfl; rw [h1] at h3; cases h3
  refine ⟨⟨S.setIfInBounds 37 pv', ?_, h2.set pv'⟩, (Below.heap_setCell _ _ _ _ n0).trans h3, (Below.heap_setCell _ _ _ _ n1).trans h4, (Below.heap_setCell _ _ _ _ n2).trans h5⟩
  simp [World.setCell, Array.getElem?_modify, h1]

/-- What zzs5081abuild has laid, link 1 joined. -/
structure Bs (w w' : World) (tb mb hb l1 l2 : Nat) (sk : List UInt8) (tr ch : Bool) (pv : Value) : Prop where
  bk : Bk w' tb mb hb l2 sk #[⟨.int .i64 2, .pointer (some ⟨l2, 0, none⟩), 0⟩, ⟨.int .i64 1, .pointer (some ⟨l1, 0, none⟩), 1⟩] 2 pv
  one : w'.heap[l1]? = some (.cells (linkC 1 tr true ch hb) 87 (0, 0))
  bel : Below w.heap.size w w'
  tge : w.heap.size ≤ tb
  hge : w.heap.size ≤ hb
  ge1 : w.heap.size ≤ l1
  ge2 : w.heap.size ≤ l2
  n1 : l1 ≠ l2
  n2 : hb ≠ tb
  n3 : l2 ≠ tb

theorem Bs.setPar {w w' : World} {tb mb hb l1 l2 : Nat} {sk : List UInt8} {tr ch : Bool} {pv : Value} (h : Bs w w' tb mb hb l1 l2 sk tr ch pv) (n : l1 ≠ tb) (pv' : Value) : Bs w (w'.setCell ⟨tb, 37, none⟩ pv') tb mb hb l1 l2 sk tr ch pv' :=
  ⟨h.bk.setPar pv' h.n2 h.n3, (Below.heap_setCell _ _ _ _ n).trans h.one, h.bel.setCell h.tge _, h.tge, h.hge, h.ge1, h.ge2, h.n1, h.n2, h.n3⟩

set_option maxRecDepth 20000 in
set_option maxHeartbeats 1600000 in
theorem build_some (sk : List UInt8) (hk : sk.length = 32) (md ps : Int) (w : World) (h0 : 0 ≤ md) (h1 : md ≤ 255) (p0 : 0 ≤ ps) (p1 : ps ≤ 255) (hm : md % 8 ≠ 0) :
    Calls Ybad.prog 6 #[.agg (kcl sk).toArray, .int .u8 md, .int .u8 ps] w fun e w' => ∃ tb mb hb l1 l2, e = .returned (.tuple #[.pointer (some ⟨tb, 0, none⟩), .pointer (some ⟨l1, 0, none⟩), .pointer (some ⟨l2, 0, none⟩)]) ∧
      Bs w w' tb mb hb l1 l2 sk (md % 8 != 1) (decide (3 ≤ md % 8)) (pvk (ps % 3) (.pointer (some ⟨l1, 0, none⟩)) (.pointer (some ⟨l2, 0, none⟩))) := by
  have r1 := range_new w (kcl sk) 27
  go_enter Ybad.func6, Ybad.ntmps6
  go_wp2_with (first
    | (refine wpList_load_mid rfl 27 _ rfl _ _ rfl (kcl sk) _ (by exact r1) Ybad.underlying27 rfl (size_key hk) ?_)
    | (go_at_call 14; refine (new_nw sk hk _).mono ?_; rintro e w2 ⟨tb, mb, rfl, N2⟩; refine Hid.out ?_))
  refine Lib.hid ?_
  have N0 : Nw w w2 tb mb sk := by
    obtain ⟨b1, b2, b3, b4, b5, b6⟩ := N2
    exact ⟨((Below.refl _ _).alloc (Nat.le_refl _) _).trans (b1.mono (by simp)), b2, b3, by simp at b4; omega, by simp at b5; omega, b6⟩
  have l4 := (Bk.make N0).links
  obtain ⟨w5, u4, B5, bel5, hsz5⟩ := step_two N0
  have tlt : tb < w2.heap.size := by obtain ⟨S, h, _⟩ := N0.tree; exact heap_lt h
  obtain ⟨w7, u7, B7, bel7, on7⟩ := step_one (tr := md % 8 != 1) (ch := decide (3 ≤ md % 8)) B5 bel5 N0.mge
  have l6 := (B5.alloc (.cells (linkC 1 (md % 8 != 1) true (decide (3 ≤ md % 8)) w2.heap.size) 87)).links
  have hs2 := N0.bel.size
  have S7 : Bs w w7 tb mb w2.heap.size w5.heap.size (w2.heap.size + 1) sk (md % 8 != 1) (decide (3 ≤ md % 8)) (.pointer none) := ⟨B7, on7, bel7, N0.tge, by omega, by omega, by omega, by omega, by omega, by omega⟩
  have pp := B7.par
  have pf := B7.thaw 37
  have nt : w5.heap.size ≠ tb := by omega
  clear hsz5 B5 B7 bel5 bel7 on7 N0 N2 r1
  simp only [hostC, linkC] at l4 u4 u7 l6
  by_cases q1 : ps % 3 = 1
  · have S8 := S7.setPar nt (.pointer (some ⟨w5.heap.size, 0, none⟩))
    go_wp2
    refine bodyPost_ret (results_tmp3 rfl _ _ _) rfl ?_
    exact ⟨tb, mb, _, _, _, rfl, by rw [pvk_one q1]; exact S8⟩
  · by_cases q2 : ps % 3 = 2
    · have S8 := S7.setPar nt (.pointer (some ⟨w2.heap.size + 1, 0, none⟩))
      go_wp2
      refine bodyPost_ret (results_tmp3 rfl _ _ _) rfl ?_
      exact ⟨tb, mb, _, _, _, rfl, by rw [pvk_two q2]; exact S8⟩
    · go_wp2
      refine bodyPost_ret (results_tmp3 rfl _ _ _) rfl ?_
      exact ⟨tb, mb, _, _, _, rfl, by rw [pvk_not q1 q2]; exact S7⟩

/-- What zzs5081abuild has laid, link 1 not joined. -/
structure B0s (w w' : World) (tb mb hb l2 : Nat) (sk : List UInt8) (pv : Value) : Prop where
  bk : Bk w' tb mb hb l2 sk #[⟨.int .i64 2, .pointer (some ⟨l2, 0, none⟩), 0⟩] 1 pv
  bel : Below w.heap.size w w'
  tge : w.heap.size ≤ tb
  hge : w.heap.size ≤ hb
  ge2 : w.heap.size ≤ l2
  n2 : hb ≠ tb
  n3 : l2 ≠ tb

theorem B0s.setPar {w w' : World} {tb mb hb l2 : Nat} {sk : List UInt8} {pv : Value} (h : B0s w w' tb mb hb l2 sk pv) (pv' : Value) : B0s w (w'.setCell ⟨tb, 37, none⟩ pv') tb mb hb l2 sk pv' :=
  ⟨h.bk.setPar pv' h.n2 h.n3, h.bel.setCell h.tge _, h.tge, h.hge, h.ge2, h.n2, h.n3⟩

set_option maxRecDepth 20000 in
set_option maxHeartbeats 1600000 in
theorem build_zero (sk : List UInt8) (hk : sk.length = 32) (md ps : Int) (w : World) (h0 : 0 ≤ md) (h1 : md ≤ 255) (p0 : 0 ≤ ps) (p1 : ps ≤ 255) (hm : md % 8 = 0) :
    Calls Ybad.prog 6 #[.agg (kcl sk).toArray, .int .u8 md, .int .u8 ps] w fun e w' => ∃ tb mb hb l2, e = .returned (.tuple #[.pointer (some ⟨tb, 0, none⟩), .pointer none, .pointer (some ⟨l2, 0, none⟩)]) ∧
      B0s w w' tb mb hb l2 sk (pvk (ps % 3) (.pointer none) (.pointer (some ⟨l2, 0, none⟩))) := by
  have r1 := range_new w (kcl sk) 27
  go_enter Ybad.func6, Ybad.ntmps6
  go_wp2_with (first
    | (refine wpList_load_mid rfl 27 _ rfl _ _ rfl (kcl sk) _ (by exact r1) Ybad.underlying27 rfl (size_key hk) ?_)
    | (go_at_call 14; refine (new_nw sk hk _).mono ?_; rintro e w2 ⟨tb, mb, rfl, N2⟩; refine Hid.out ?_))
  refine Lib.hid ?_
  have N0 : Nw w w2 tb mb sk := by
    obtain ⟨b1, b2, b3, b4, b5, b6⟩ := N2
    exact ⟨((Below.refl _ _).alloc (Nat.le_refl _) _).trans (b1.mono (by simp)), b2, b3, by simp at b4; omega, by simp at b5; omega, b6⟩
  have l4 := (Bk.make N0).links
  obtain ⟨w5, u4, B5, bel5, hsz5⟩ := step_two N0
  have tlt : tb < w2.heap.size := by obtain ⟨S, h, _⟩ := N0.tree; exact heap_lt h
  have hs2 := N0.bel.size
  have S7 : B0s w w5 tb mb w2.heap.size (w2.heap.size + 1) sk (.pointer none) := ⟨B5, bel5, N0.tge, by omega, by omega, by omega, by omega⟩
  have pp := B5.par
  have pf := B5.thaw 37
  clear hsz5 B5 bel5 N0 N2 r1
  simp only [hostC, linkC] at l4 u4
  by_cases q1 : ps % 3 = 1
  · go_wp2
    refine bodyPost_ret (results_tmp3 rfl _ _ _) rfl ?_
    exact ⟨tb, mb, _, _, rfl, by rw [pvk_one q1]; exact S7⟩
  · by_cases q2 : ps % 3 = 2
    · have S8 := S7.setPar (.pointer (some ⟨w2.heap.size + 1, 0, none⟩))
      go_wp2
      refine bodyPost_ret (results_tmp3 rfl _ _ _) rfl ?_
      exact ⟨tb, mb, _, _, rfl, by rw [pvk_two q2]; exact S8⟩
    · go_wp2
      refine bodyPost_ret (results_tmp3 rfl _ _ _) rfl ?_
      exact ⟨tb, mb, _, _, rfl, by rw [pvk_not q1 q2]; exact S7⟩

/-- Out of the blocks: what TakeProbe looks at. -/
theorem Bs.facts {w w' : World} {tb mb hb l1 l2 : Nat} {sk : List UInt8} {tr ch : Bool} {pv : Value} (h : Bs w w' tb mb hb l1 l2 sk tr ch pv) (hk : sk.length = 32) {bu ev : Int} {er : Value} (g0 : w.cell? ⟨2, 0, none⟩ = some (.int .i64 bu)) (g1 : w.cell? ⟨2, 1, none⟩ = some (.int .i64 ev)) (ge : w.cell? ⟨0, 0, none⟩ = some er) :
    Tr w' tb l1 l2 hb mb w.heap.size ∧ TW w' tb l1 l2 sk 0 pv true ch false true ∧ PP w' l1 hb tr bu ev 0 0 er := by
  obtain ⟨⟨⟨S, t1, t2⟩, b2, b3, b4⟩, one, bel, tge, hge, ge1, ge2, n1, n2, n3⟩ := h
  have e1 : l1 ≠ tb := by rintro rfl; rw [t1] at one; cases one
  have e2 : hb ≠ l1 := by rintro rfl; rw [b3] at one; cases one
  have e3 : hb ≠ l2 := by rintro rfl; rw [b3] at b4; cases b4
  have h2 : 2 < w.heap.size := lt_of_cell g0
  refine ⟨⟨by simp [World.cell?, t1, t2.links], ⟨_, _, 1, b2, by rfl⟩, Ne.symm e1, Ne.symm n3, Ne.symm n1, n2, e2, e3, h2, tge, ge1, ge2, hge⟩,
    ⟨fun j v hv => ?_, by simp [World.cell?, t1, t2.fr], by simp [World.cell?, t1, t2.mu], by simp [World.cell?, t1, t2.par], by simp [World.cell?, one, linkC], by simp [World.cell?, one, linkC], by simp [World.cell?, one, linkC], by simp [World.cell?, b4, linkC], by simp [World.cell?, b4, linkC], by simp [World.cell?, b4, linkC], by simp [World.cell?, b4, linkC],
      fun o => Plain.thaw ⟨_, _, t1⟩ o, fun o => Plain.thaw ⟨_, _, one⟩ o, fun o => Plain.thaw ⟨_, _, b4⟩ o, ⟨_, _, one⟩, ⟨_, _, b4⟩⟩,
    ⟨by simp [World.cell?, one, linkC], by simp [World.cell?, one, linkC], by simp [World.cell?, b3, hostC], by simp [World.cell?, b3, hostC], by simp [World.cell?, b3, hostC], fun o => Plain.thaw ⟨_, _, b3⟩ o, (bel.cell h2).trans g0, (bel.cell h2).trans g1, (bel.cell (lt_of_cell ge)).trans ge⟩⟩
  have hv' := hv
  rw [← t2.key] at hv
  have hj : j < 32 := by
    rcases Nat.lt_or_ge j (kcl sk).length with h | h
    · simpa [kcl_length, hk] using h
    · rw [List.getElem?_eq_none h] at hv'
      cases hv'
  rw [List.getElem?_take_of_lt hj] at hv
  simp only [World.cell?, t1, Nat.zero_add]
  simpa using hv
end Go.Proofs.YbulkdaeyDoor
