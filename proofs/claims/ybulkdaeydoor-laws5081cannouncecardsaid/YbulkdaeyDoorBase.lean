/-
  What is of no program: a world that has grown and turned in named blocks alone ('Kp').
-/
import Derived.Below
import Derived.Deep.Draws
namespace Go.Proofs.YbulkdaeyDoor
open Go Go.RowKit

/-- w' is w with new blocks, and turned in the blocks of L alone. -/
structure Kp (L : List Nat) (w w' : World) : Prop where
  os : w'.os = w.os
  tape : w'.tape = w.tape
  output : w'.output = w.output
  size : w.heap.size ≤ w'.heap.size
  block : ∀ k, k < w.heap.size → k ∉ L → w'.heap[k]? = w.heap[k]?

theorem Kp.refl (L : List Nat) (w : World) : Kp L w w := ⟨rfl, rfl, rfl, Nat.le_refl _, fun _ _ _ => rfl⟩
theorem Kp.trans {L : List Nat} {a b c : World} (h : Kp L a b) (k : Kp L b c) : Kp L a c :=
  ⟨k.os.trans h.os, k.tape.trans h.tape, k.output.trans h.output, Nat.le_trans h.size k.size, fun i hi hn => (k.block i (Nat.lt_of_lt_of_le hi h.size) hn).trans (h.block i hi hn)⟩
theorem Kp.mono {L L' : List Nat} {a b : World} (h : Kp L a b) (hL : ∀ k ∈ L, k ∈ L') : Kp L' a b :=
  ⟨h.os, h.tape, h.output, h.size, fun i hi hn => h.block i hi (fun e => hn (hL i e))⟩
theorem Kp.drew {L : List Nat} {a b : World} (h : Kp L a b) : Kp L a b.drew := ⟨h.os, h.tape, h.output, h.size, h.block⟩
theorem Kp.drewN {L : List Nat} {a b : World} (h : Kp L a b) (n : Nat) : Kp L a (b.drewN n) := ⟨h.os, h.tape, h.output, h.size, h.block⟩
theorem Kp.alloc {L : List Nat} {a b : World} (h : Kp L a b) (o : Obj) : Kp L a (b.alloc o) :=
  h.trans ⟨rfl, rfl, rfl, by simp, fun k hk _ => Below.heap_alloc _ _ _ hk⟩
theorem Kp.setCell {L : List Nat} {a b : World} (h : Kp L a b) {p : Addr} (hp : p.block ∈ L) (u : Value) : Kp L a (b.setCell p u) :=
  h.trans ⟨rfl, rfl, rfl, by simp [World.setCell], fun k _ hn => Below.heap_setCell _ _ _ _ (fun e => hn (e ▸ hp))⟩
/-- A store into a block that is new since a. -/
theorem Kp.setNew {L : List Nat} {a b : World} (h : Kp L a b) {p : Addr} (hp : a.heap.size ≤ p.block) (u : Value) : Kp L a (b.setCell p u) :=
  ⟨h.os, h.tape, h.output, by simpa [World.setCell] using h.size, fun k hk hn => (Below.heap_setCell _ _ _ _ (by omega)).trans (h.block k hk hn)⟩
/-- Behind a step that turns nothing that was there. -/
theorem Kp.below {L : List Nat} {a b c : World} (h : Kp L a b) (k : Below b.heap.size b c) : Kp L a c :=
  h.trans ⟨k.os, k.tape, k.output, k.size, fun i hi _ => k.block i hi⟩
/-- Behind a step that turns named blocks, all of them new since a. -/
theorem Kp.news {L M : List Nat} {a b c : World} (h : Kp L a b) (k : Kp M b c) (hM : ∀ i ∈ M, a.heap.size ≤ i) : Kp L a c :=
  ⟨k.os.trans h.os, k.tape.trans h.tape, k.output.trans h.output, Nat.le_trans h.size k.size,
   fun i hi hn => (k.block i (Nat.lt_of_lt_of_le hi h.size) (fun e => by have := hM i e; omega)).trans (h.block i hi hn)⟩
theorem Kp.cell {L : List Nat} {w w' : World} (h : Kp L w w') {p : Addr} (hp : p.block < w.heap.size) (hn : p.block ∉ L) : w'.cell? p = w.cell? p := World.cell?_of_block (w := w) (h.block p.block hp hn)
theorem Kp.frozen {L : List Nat} {w w' : World} (h : Kp L w w') {p : Addr} (hp : p.block < w.heap.size) (hn : p.block ∉ L) : w'.frozen? p = w.frozen? p := World.frozen?_of_block (w := w) (h.block p.block hp hn)
/-- Where every named block is new since B. -/
theorem Kp.toBelow {L : List Nat} {w w' : World} (h : Kp L w w') {B : Nat} (hB : B ≤ w.heap.size) (hL : ∀ k ∈ L, B ≤ k) : Below B w w' :=
  ⟨h.os, h.tape, h.output, h.size, fun k hk => h.block k (by omega) (fun e => by have := hL k e; omega)⟩
theorem Kp.ofBelow {w w' : World} (h : Below w.heap.size w w') (L : List Nat) : Kp L w w' := ⟨h.os, h.tape, h.output, h.size, fun k hk _ => h.block k hk⟩

theorem lt_of_cell {w : World} {a : Addr} {v : Value} (h : w.cell? a = some v) : a.block < w.heap.size := by
  rcases Nat.lt_or_ge a.block w.heap.size with h1 | h1
  · exact h1
  · simp [World.cell?, Array.getElem?_eq_none h1] at h

theorem below_drewN {B : Nat} {a w : World} (h : Below B a w) (n : Nat) : Below B a (w.drewN n) := h.trans ⟨rfl, rfl, rfl, Nat.le_refl _, fun _ _ => rfl⟩
end Go.Proofs.YbulkdaeyDoor
