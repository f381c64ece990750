import Derived.Test.YbulkdaeyDoorProbe
import Derived.Deep.RegionLaw
/-
  (*outbox).send.
-/
namespace Go.Proofs.YbulkdaeyDoor
open Go.RowKit

theorem info79 : (Ybad.prog.info? 79).map (fun i => (i.zero, i.size, i.bytes)) = some (some (.agg #[.int .i64 0, .slice none 0 0, .bool false]), 3, 40) := by kernel_rfl

/-- An outbox: a variable of its own block ob that holds a slice sv of the call's own (blocks from B on): n sends, their cells xs. -/
structure OB (w : World) (ob B : Nat) (sv : Value) (n : Nat) (xs : List Value) : Prop where
  cell : w.cell? ⟨ob, 0, none⟩ = some sv
  thaw : w.frozen? ⟨ob, 0, none⟩ = false
  own : w.ownsRow B 79 3 sv n xs
  ne : sv.ownBlock ≠ some ob
  base : B ≤ w.heap.size

theorem cellA {w : World} {b off : Nat} {v : Value} (h : w.cell? ⟨b, off, none⟩ = some v) (o : Obj) : ((w.alloc o).drew).cell? ⟨b, off, none⟩ = some v :=
  (((Kp.refl [] w).alloc o).cell (p := ⟨b, off, none⟩) (lt_of_cell h) (by simp)).trans h
theorem frozenA {w : World} {b off : Nat} {x : Bool} (hb : b < w.heap.size) (h : w.frozen? ⟨b, off, none⟩ = x) (o : Obj) : ((w.alloc o).drew).frozen? ⟨b, off, none⟩ = x :=
  (((Kp.refl [] w).alloc o).frozen (p := ⟨b, off, none⟩) hb (by simp)).trans h

/-- Behind one send. -/
theorem OB.sent {w w1 : World} {ob B n gg cap : Nat} {sv : Value} {xs news : List Value} (h : OB w ob B sv n xs) (o : Obj)
    (hown1 : w1.ownsRow B 79 3 (.slice (some ⟨gg, 0, none⟩) (n + 1) cap) (n + 1) (xs ++ news)) (hgrow : ((w.alloc o).drew).grownBy w1 sv.ownBlock) (hat : sv.ownBlock = some gg ∨ gg = w.heap.size + 1) :
    OB (w1.setCell ⟨ob, 0, none⟩ (.slice (some ⟨gg, 0, none⟩) (n + 1) cap)) ob B (.slice (some ⟨gg, 0, none⟩) (n + 1) cap) (n + 1) (xs ++ news) ∧ Kp (ob :: sv.ownBlock.toList) w (w1.setCell ⟨ob, 0, none⟩ (.slice (some ⟨gg, 0, none⟩) (n + 1) cap)) := by
  have hob := lt_of_cell h.cell
  have hne' : gg ≠ ob := by
    rcases hat with e | e
    · intro e'; exact h.ne (by rw [e, e'])
    · have : ob < w.heap.size := hob
      omega
  have q0 : w1.cell? ⟨ob, 0, none⟩ = some sv := hgrow.cell (cellA h.cell o) (Ne.symm h.ne)
  have q1 : w1.frozen? ⟨ob, 0, none⟩ = false := (hgrow.frozen_far ⟨ob, 0, none⟩ (by have : ob < w.heap.size := hob; simp; omega) (Ne.symm h.ne)).trans (frozenA hob h.thaw o)
  have hsz := hgrow.size
  simp at hsz
  have hbase := h.base
  have kp1 : Kp (ob :: sv.ownBlock.toList) w w1 := by
    have k0 : Kp (ob :: sv.ownBlock.toList) w ((w.alloc o).drew) := ((Kp.refl _ w).alloc o).drew
    refine k0.trans ⟨hgrow.os, hgrow.tape, hgrow.output, hgrow.size, fun k hk hn => hgrow.block k hk (fun e => hn ?_)⟩
    rw [← e]
    simp
  refine ⟨⟨World.cell?_setCell_same _ _ _ q0, by simp [q1], ?_, by simpa [Value.ownBlock] using hne', by simp [World.setCell]; omega⟩, kp1.setCell (by simp) _⟩
  refine hown1.kept (row := some ob) ⟨rfl, rfl, rfl, by simp [World.setCell], fun k _ hn => Below.heap_setCell _ _ _ _ (fun e => hn (by rw [e]))⟩ (Or.inr (by simpa [Value.ownBlock] using hne'))

set_option maxRecDepth 20000 in
set_option maxHeartbeats 1600000 in
theorem send_any (ob lb B n : Nat) (sv : Value) (hd : Int) (fa : Option Addr) (fl fc : Nat) (xs : List Value) (w : World) (h : OB w ob B sv n xs) (hl : w.cell? ⟨lb, 0, none⟩ = some (.int .i64 hd)) (hn : n ≤ 4096) :
    Calls Ybad.prog 21 #[.pointer (some ⟨ob, 0, none⟩), .pointer (some ⟨lb, 0, none⟩), .slice fa fl fc] w fun e w' => e = .returned (.tuple #[]) ∧
      ∃ gg cap, OB w' ob B (.slice (some ⟨gg, 0, none⟩) (n + 1) cap) (n + 1) (xs ++ [.int .i64 hd, .slice fa fl fc, .bool false]) ∧ Kp (ob :: sv.ownBlock.toList) w w' ∧ (sv.ownBlock = some gg ∨ gg = w.heap.size + 1) := by
  obtain ⟨i0, hi0, hz0, hz1, hz2⟩ := info_parts info79
  have hob : ob < w.heap.size := lt_of_cell h.cell
  have hlb : lb < w.heap.size := lt_of_cell hl
  obtain ⟨ho, hf, hown, hne, hB⟩ := id h
  have H : Hid (OB w ob B sv n xs) := h
  clear h
  go_enter Ybad.func21, Ybad.ntmps21
  go_wp2_with fail
  go_region_law ((refine step_append_lies _ (by rfl) _ _ _ (by rfl) B 79 i0 _ 3 40 Ybad.underlying116 hi0 hz0 hz1 hz2 rfl (by omega) sv n xs (by rfl) ((hown.alloc _).drew) ⟨w.heap.size, 0, none⟩ 1 1 [.int .i64 hd, .slice fa fl fc, .bool false] (by rfl) (by rfl) (World.news_of_block (cs := #[.int .i64 hd, .slice fa fl fc, .bool false]) (t := 79) (fr := (0, 0)) (heap_alloc_new w _)) (by simp [Value.oneCell']) (by omega) (by unfold maxLen; omega) (by omega) (by simp; omega) (w.heap.size + 1) (by simp) ?_; intro gg cap w1 hown1 hgrow hat hlt; have q0 : w1.cell? ⟨ob, 0, none⟩ = some sv := hgrow.cell (cellA ho _) (Ne.symm hne); have q1 : w1.frozen? ⟨ob, 0, none⟩ = false := (hgrow.frozen_far ⟨ob, 0, none⟩ (by simp; omega) (Ne.symm hne)).trans (frozenA hob hf _)))
  all_goals
    obtain ⟨r1, r2⟩ := H.out.sent _ hown1 hgrow hat
    go_wp2
    go_end0
    exact ⟨rfl, gg, cap, r1, r2, hat⟩
end Go.Proofs.YbulkdaeyDoor
