import Derived.Test.YbulkdaeyDoorSend
import Derived.MapKept
/-
  The small maps of links; the frames' methods; treeLink.
-/
namespace Go.Proofs.YbulkdaeyDoor
open Go.RowKit

theorem zero24 (w : World) : (zeroValue 24).run Ybad.prog w = .ok (.pointer none) w := by kernel_rfl
theorem und37 : Ybad.prog.underlying 37 = some (.map 3 24) := by kernel_rfl
theorem und3 : Ybad.prog.underlying 3 = some (.int .i64) := by kernel_rfl
theorem run_und {t : TypeId} {d : TypeDesc} (h : Ybad.prog.underlying t = some d) (w : World) : (underlying t).run Ybad.prog w = .ok d w := by
  simp [underlying, h, go_sem]

theorem look_links {w : World} {mb : Nat} {es : Array MapEntry} {c : Nat} (h : w.heap[mb]? = some (.map es c)) {a : Option (Nat × Value)}
    (hf : Instr.findNow (.int .i64) (.int .i64 1) es.toList 0 = some a) :
    (Instr.lookup 37 (.map (some mb)) (.int .i64 1) false).run Ybad.prog w = .ok ((a.map (·.2)).getD (.pointer none)) w := by
  have e1 := MapKept.run_checkKey (P := Ybad.prog) (w := w) und3 (k := .int .i64 1) (by simp [MapKept.IsKey]) es.isEmpty 9999
  have e2 := MapKept.run_findKey (P := Ybad.prog) (w := w) und3 hf
  have e3 := MapKept.run_getObj_map (P := Ybad.prog) h
  simp only [Nat.reduceAdd] at e1
  unfold Instr.lookup
  cases a with
  | none => simp [run_und und37, e1, e2, e3, go_sem]
  | some p => simp [run_und und37, e1, e2, e3, go_sem]

/-- An entry pushed on a map of links. -/
theorem update_links {w : World} {mb : Nat} {es : Array MapEntry} {c : Nat} (h : w.heap[mb]? = some (.map es c)) (k : Int) (p : Value)
    (hf : Instr.findNow (.int .i64) (.int .i64 k) es.toList 0 = some none) :
    (Instr.mapUpdate 37 (.map (some mb)) (.int .i64 k) p).run Ybad.prog w = .ok () { w with heap := w.heap.setIfInBounds mb (.map (es.push ⟨.int .i64 k, p, c⟩) (c + 1)) } := by
  have e1 := MapKept.run_checkKey (P := Ybad.prog) (w := w) und3 (k := .int .i64 k) (by simp [MapKept.IsKey]) false 9999
  have e2 := MapKept.run_findKey (P := Ybad.prog) (w := w) und3 hf
  have e3 := MapKept.run_getObj_map (P := Ybad.prog) h
  have e4 := MapKept.run_setObj_map (P := Ybad.prog) (.map (es.push ⟨.int .i64 k, p, c⟩) (c + 1)) h
  simp only [Nat.reduceAdd] at e1
  unfold Instr.mapUpdate
  simp [run_und und37, e1, e2, e3, e4, go_sem]


set_option maxHeartbeats 800000 in
theorem treeLink_absent (tb mb : Nat) (w : World) (ht : w.cell? ⟨tb, 35, none⟩ = some (.map (some mb))) (hl : (Instr.lookup 37 (.map (some mb)) (.int .i64 1) false).run Ybad.prog w = .ok (.pointer none) w) :
    Calls Ybad.prog 17 #[.pointer (some ⟨tb, 0, none⟩), .int .i64 1] w fun e w' => e = .returned (.tuple #[.pointer none, .nilIface]) ∧ Below w.heap.size w w' := by
  go_enter Ybad.func17, Ybad.ntmps17
  go_wp2
  go_ret2
  exact ⟨rfl, Below.refl _ _⟩

set_option maxHeartbeats 800000 in
theorem treeLink_tree (tb mb lb : Nat) (w : World) (ht : w.cell? ⟨tb, 35, none⟩ = some (.map (some mb))) (hl : (Instr.lookup 37 (.map (some mb)) (.int .i64 1) false).run Ybad.prog w = .ok (.pointer (some ⟨lb, 0, none⟩)) w)
    (h1 : w.cell? ⟨lb, 1, none⟩ = some (.bool true)) :
    Calls Ybad.prog 17 #[.pointer (some ⟨tb, 0, none⟩), .int .i64 1] w fun e w' => e = .returned (.tuple #[.pointer (some ⟨lb, 0, none⟩), .nilIface]) ∧ Below w.heap.size w w' := by
  go_enter Ybad.func17, Ybad.ntmps17
  go_wp2
  go_ret2
  exact ⟨rfl, Below.refl _ _⟩

set_option maxHeartbeats 800000 in
theorem treeLink_none (tb mb lb : Nat) (er : Value) (w : World) (ht : w.cell? ⟨tb, 35, none⟩ = some (.map (some mb))) (hl : (Instr.lookup 37 (.map (some mb)) (.int .i64 1) false).run Ybad.prog w = .ok (.pointer (some ⟨lb, 0, none⟩)) w)
    (h1 : w.cell? ⟨lb, 1, none⟩ = some (.bool false)) (he : w.cell? ⟨0, 0, none⟩ = some er) :
    Calls Ybad.prog 17 #[.pointer (some ⟨tb, 0, none⟩), .int .i64 1] w fun e w' => e = .returned (.tuple #[.pointer none, er]) ∧ Below w.heap.size w w' := by
  go_enter Ybad.func17, Ybad.ntmps17
  go_wp2_with fail
  go_quiet (fail)
  go_wp2
  go_ret2
  exact ⟨rfl, below_drewN (Below.refl _ _) _⟩

/-- A new slice of bytes: block g, made since w. -/
structure FR (w w' : World) (g : Nat) (bs : List Int) : Prop where
  ge : w.heap.size ≤ g
  lt : g < w'.heap.size
  row : w'.rangeAt g 0 (bv bs)
  bel : Below w.heap.size w w'

set_option maxHeartbeats 800000 in
theorem prune_any (w : World) : Calls Ybad.prog 118 #[.agg #[]] w fun e w' => ∃ g cap, e = .returned (.slice (some ⟨g, 0, none⟩) 1 cap) ∧ FR w w' g [80] := by
  have h0 : FR w ((w.alloc (.cells #[] 107)).alloc (.cells #[.int .u8 80] 5)) (w.heap.size + 1) [80] := by
    have r := range_new (w.alloc (.cells #[] 107)) (bv [80]) 5
    rw [show (w.alloc (.cells #[] 107)).heap.size = w.heap.size + 1 by simp] at r
    exact ⟨by omega, by simp, r, ((Below.refl _ _).alloc (Nat.le_refl _) _).alloc (by simp) _⟩
  go_enter Ybad.func118, Ybad.ntmps118
  go_wp2_with fail
  go_ret
  exact ⟨_, _, rfl, h0⟩

set_option maxHeartbeats 800000 in
theorem graft_any (w : World) : Calls Ybad.prog 113 #[.agg #[]] w fun e w' => ∃ g cap, e = .returned (.slice (some ⟨g, 0, none⟩) 1 cap) ∧ FR w w' g [71] := by
  have h0 : FR w ((w.alloc (.cells #[] 107)).alloc (.cells #[.int .u8 71] 5)) (w.heap.size + 1) [71] := by
    have r := range_new (w.alloc (.cells #[] 107)) (bv [71]) 5
    rw [show (w.alloc (.cells #[] 107)).heap.size = w.heap.size + 1 by simp] at r
    exact ⟨by omega, by simp, r, ((Below.refl _ _).alloc (Nat.le_refl _) _).alloc (by simp) _⟩
  go_enter Ybad.func113, Ybad.ntmps113
  go_wp2_with fail
  go_ret
  exact ⟨_, _, rfl, h0⟩

theorem size27 : (Ybad.prog.info? 27).map (·.size) = some 32 := by kernel_rfl
theorem size_key {k : List UInt8} (hk : k.length = 32) : (Ybad.prog.info? 27).map (·.size) = some (kcl k).length := by rw [kcl_length, hk]; exact size27

theorem FR.ofOwn {w w1 w' : World} {g cap n : Nat} {bs : List Int} (hn : bs.length = n) (hw : Below w.heap.size w w1) (ho : w'.ownsRow w1.heap.size 5 1 (.slice (some ⟨g, 0, none⟩) n cap) n (bv bs)) (hb : Below w1.heap.size w1 w') : FR w w' g bs := by
  have h1 := ho.lt g rfl
  have h2 := hw.size
  refine ⟨by omega, h1.2, fun j v hv => ?_, hw.trans (hb.mono h2)⟩
  have hj : j < n := by
    rcases Nat.lt_or_ge j (bv bs).length with h | h
    · simpa [bv, hn] using h
    · rw [List.getElem?_eq_none h] at hv
      cases hv
  rw [Nat.zero_add, ho.cellAt j (by omega)]
  exact hv

set_option maxHeartbeats 800000 in
theorem probeM_any (k : List UInt8) (h : Int) (w : World) (hk : k.length = 32) :
    Calls Ybad.prog 117 #[.agg #[], .agg (kcl k).toArray, .int .i64 h] w fun e w' => ∃ g cap, e = .returned (.slice (some ⟨g, 0, none⟩) 41 cap) ∧ FR w w' g (pbs k h 8) := by
  have r1 := range_new (w.alloc (.cells #[] 107)) (kcl k) 27
  rw [show (w.alloc (.cells #[] 107)).heap.size = w.heap.size + 1 by simp] at r1
  have hB : Below w.heap.size w ((w.alloc (.cells #[] 107)).alloc (.cells (kcl k).toArray 27)) := ((Below.refl _ _).alloc (Nat.le_refl _) _).alloc (by simp) _
  go_enter Ybad.func117, Ybad.ntmps117
  go_wp2_with (first
    | (refine wpList_load_mid rfl 27 _ rfl _ _ rfl (kcl k) _ (by exact r1) Ybad.underlying27 rfl (size_key hk) ?_)
    | (go_at_call 9; refine (probe_any k h _ hk).mono ?_; rintro e w1 ⟨g, cap, rfl, ho, hb⟩))
  go_ret
  exact ⟨g, cap, rfl, FR.ofOwn (pbs_length k h 8 hk) hB ho hb⟩

set_option maxHeartbeats 800000 in
theorem keeps_none (lb : Nat) (w : World) (h : w.cell? ⟨lb, 4, none⟩ = some (.pointer none)) : Calls Ybad.prog 27 #[.pointer (some ⟨lb, 0, none⟩)] w fun e w' => e = .returned (.bool false) ∧ w' = w := by
  go_enter Ybad.func27, Ybad.ntmps27
  go_wp2
  go_ret
  exact ⟨rfl, rfl⟩

set_option maxHeartbeats 800000 in
theorem keepOn_none (tb ob lb : Nat) (w : World) (h : w.cell? ⟨lb, 4, none⟩ = some (.pointer none)) : Calls Ybad.prog 39 #[.pointer (some ⟨tb, 0, none⟩), .pointer (some ⟨ob, 0, none⟩), .pointer (some ⟨lb, 0, none⟩)] w fun e w' => e = .returned (.tuple #[]) ∧ w' = w := by
  go_enter Ybad.func39, Ybad.ntmps39
  go_wp2_with (go_at_call 27; refine (keeps_none lb _ (by assumption)).mono ?_; rintro e w1 ⟨rfl, rfl⟩)
  exact bodyPost_ret (results_none rfl _ _ _) rfl ⟨rfl, rfl⟩
end Go.Proofs.YbulkdaeyDoor
