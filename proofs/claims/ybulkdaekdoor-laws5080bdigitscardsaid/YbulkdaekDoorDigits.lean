import Derived.Test.YbulkdaekDoorCheck
import Derived.Deep.OwnRows
import Derived.Laws.IdiomStrings
/-
  The walk of LawS5080BDigits.
-/
namespace Go.Proofs.YbulkdaekDoor
open Go.RowKit

/-- A row of bytes, as cells. -/
def bcells (l : List UInt8) : Array Value := (l.map fun c => Value.int .u8 (c.toNat : Int)).toArray

theorem bcells_size (l : List UInt8) : (bcells l).size = l.length := by simp [bcells]
theorem bcells_set (l : List UInt8) (k : Nat) (c : UInt8) : (bcells l).setIfInBounds k (.int .u8 (c.toNat : Int)) = bcells (l.set k c) := by
  simp [bcells, List.map_set]
theorem bcells_made (n : Nat) : madeCells #[Value.int .u8 0] n = bcells (List.replicate n 0) := by
  apply Array.ext'
  simp [madeCells, bcells]
  apply List.ext_getElem
  · simp
  · intro i h1 h2
    simp [Nat.mod_one]

theorem info5 : (Ybad.prog.info? 5).map (fun i => (i.zero, i.size, i.bytes)) = some (some (.int .u8 0), 1, 1) := by kernel_rfl

theorem conv_own (w : World) (l : List UInt8) (cap : Nat) :
    (convert 22 9 (.slice (some ⟨w.heap.size, 0, none⟩) l.length cap)).run Ybad.prog (w.alloc (.cells (bcells l) 5)) = .ok (.string ⟨l.toArray⟩) (w.alloc (.cells (bcells l) 5)) :=
  run_convert_bytes_back (P := Ybad.prog) (w.alloc (.cells (bcells l) 5)) 22 9 5 ⟨w.heap.size, 0, none⟩ cap l Ybad.underlying22 Ybad.underlying5 Ybad.underlying9
    (fun j hj => by
      have e : (⟨w.heap.size, 0, none⟩ : Addr).add j = ⟨w.heap.size, j, none⟩ := by unfold Addr.add; split <;> simp_all
      rw [e]
      simp [bcells, hj])

theorem ret_true {w w' w'' : World} (h : Below w'.heap.size w' w'') (hb : Below w.heap.size w w') : Below w.heap.size w w'' := hb.trans (h.mono hb.size)

set_option maxHeartbeats 400000 in
theorem digits_some (K line : Int) (b off len cap : Nat) (zs : List Int) (h0 : 0 ≤ K) (h1 : K ≤ 255) (hlen : len ≤ 1024) (w : World) (hS : Sents w)
    (hcell : ∀ i, i < len → w.cell? ⟨b, off + i, none⟩ = some (.int .u8 (zs.getD i 0))) (hz : ∀ i, i < len → 0 ≤ zs.getD i 0 ∧ zs.getD i 0 ≤ 255) :
    Calls Ybad.prog 3 #[.int .u8 K, .slice (some ⟨b, off, none⟩) len cap, .int .i64 line] w fun e w' => e = .returned (.bool true) ∧ Below w.heap.size w w' := by
  have hmk := run_make_row' (P := Ybad.prog) 22 5 (.int .u8 0) 1 Ybad.underlying22 info5 rfl .i64 .i64 len (by omega) (by omega)
  simp only [bcells_made] at hmk
  go_enter Ybad.func3, Ybad.ntmps3
  go_wp2
  go_loopw [19] (fun i wr => ∃ (k : Nat) (l : List UInt8), k ≤ len ∧ i = .int .i64 k ∧ wr = w.alloc (.cells (bcells l) 5) ∧ l.length = len) (fun i _ => len - (intOf i).toNat)
  case atStart => exact ⟨0, _, Nat.zero_le _, rfl, rfl, by simp⟩
  case round =>
    obtain ⟨k, l, hk, rfl, rfl, hl⟩ := hrel
    by_cases hlt : k < len
    · have hck := hcell k hlt
      obtain ⟨hz0, hz1⟩ := hz k hlt
      have hbw : b < w.heap.size := lt_of_cell hck
      generalize zs.getD k 0 = z at hck hz0 hz1
      clear hcell hz
      have hcs : (bcells l).size = len := by rw [bcells_size, hl]
      have HL : Hid (l.length = len) := hl
      clear hl
      go_wp2
      go_roundw
      case rel => exact ⟨k + 1, l.set k _, by omega, by go_num, by rw [bcells_set], by rw [List.length_set]; exact HL.out⟩
      case measure => simp [intOf]; omega
    · have hcv := fun (cap : Nat) => conv_own w l cap
      rw [hl] at hcv
      have HL : Hid (l.length = len) := hl
      clear hl hmk
      have bel : Below w.heap.size w (w.alloc (.cells (bcells l) 5)) := (Below.refl _ _).alloc (Nat.le_refl _) _
      have hsz : (⟨l.toArray⟩ : ByteArray).size ≤ 4096 := by
        show l.toArray.size ≤ 4096
        have := HL.out
        simp
        omega
      go_wp2_with (go_at_call 6; refine (check_any _ _ ⟨l.toArray⟩ hsz _ (hS.below (by exact bel))).mono ?_; rintro e w2 ⟨rfl, hb2⟩)
      all_goals
        go_ret
        exact ⟨rfl, ret_true hb2 bel⟩

set_option maxHeartbeats 400000 in
/-- An empty slice, nil or not. -/
theorem digits_nil (K line : Int) (a : Option Addr) (cap : Nat) (h0 : 0 ≤ K) (h1 : K ≤ 255) (w : World) (hS : Sents w) :
    Calls Ybad.prog 3 #[.int .u8 K, .slice a 0 cap, .int .i64 line] w fun e w' => e = .returned (.bool true) ∧ Below w.heap.size w w' := by
  have hmk : ∀ w, (Instr.makeSlice 22 (.int .i64 0) (.int .i64 0)).run Ybad.prog w = .ok (.slice (some ⟨w.heap.size, 0, none⟩) 0 0) (w.alloc (.cells (bcells []) 5)) := by
    intro w
    have := run_make_row' (P := Ybad.prog) 22 5 (.int .u8 0) 1 Ybad.underlying22 info5 rfl .i64 .i64 0 (by omega) (by omega) w
    rw [bcells_made] at this
    exact this
  have hcv : ∀ cap : Nat, (convert 22 9 (.slice (some ⟨w.heap.size, 0, none⟩) 0 cap)).run Ybad.prog (w.alloc (.cells (bcells []) 5)) = .ok (.string ⟨#[]⟩) (w.alloc (.cells (bcells []) 5)) := fun cap => conv_own w [] cap
  have bel : Below w.heap.size w (w.alloc (.cells (bcells []) 5)) := (Below.refl _ _).alloc (Nat.le_refl _) _
  have hsz : (⟨#[]⟩ : ByteArray).size ≤ 4096 := by decide
  go_enter Ybad.func3, Ybad.ntmps3
  go_wp2
  refine wp_loop_rounds 1 ?_
  rw [rounds_succ]
  go_wp2_with (go_at_call 6; refine (check_any _ _ ⟨#[]⟩ hsz _ (hS.below (by exact bel))).mono ?_; rintro e w2 ⟨rfl, hb2⟩)
  all_goals
    go_ret
    exact ⟨rfl, ret_true hb2 bel⟩

set_option maxHeartbeats 400000 in
theorem digits_long (K line : Int) (a : Option Addr) (len cap : Nat) (hl : 1024 < len) (hm : len ≤ 9223372036854775807) (w : World) :
    Calls Ybad.prog 3 #[.int .u8 K, .slice a len cap, .int .i64 line] w fun e w' => e = .returned (.bool true) ∧ Below w.heap.size w w' := by
  go_enter Ybad.func3, Ybad.ntmps3
  go_wp2
  go_ret
  exact ⟨rfl, Below.refl _ _⟩
end Go.Proofs.YbulkdaekDoor
