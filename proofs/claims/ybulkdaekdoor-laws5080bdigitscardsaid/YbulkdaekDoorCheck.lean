import Derived.Test.YbulkdaekDoorModel
import Derived.Lib.Hide
/-
  The walk of zzs5080bcheck.
-/
namespace Go.Proofs.YbulkdaekDoor
open Go.RowKit

/-- The five cells of the boxed value, read behind a call that leaves what was there. -/
theorem five {w w1 : World} {c0 c1 c2 c3 c4 : Value} {t : TypeId} (hb : Below (w.alloc (.cells #[c0, c1, c2, c3, c4] t)).heap.size (w.alloc (.cells #[c0, c1, c2, c3, c4] t)) w1) :
    w1.cell? ⟨w.heap.size, 0, none⟩ = some c0 ∧ w1.cell? ⟨w.heap.size, 1, none⟩ = some c1 ∧ w1.cell? ⟨w.heap.size, 2, none⟩ = some c2 ∧ w1.cell? ⟨w.heap.size, 3, none⟩ = some c3 ∧ w1.cell? ⟨w.heap.size, 4, none⟩ = some c4 := by
  have h : w.heap.size < (w.alloc (.cells #[c0, c1, c2, c3, c4] t)).heap.size := by simp
  refine ⟨?_, ?_, ?_, ?_, ?_⟩
  all_goals
    rw [hb.cell (p := ⟨w.heap.size, _, none⟩) h]
    simp

set_option maxHeartbeats 400000 in
theorem check_other (k line : Int) (s : ByteArray) (hk : (k != 2) = true) (w : World) :
    Calls Ybad.prog 6 #[.int .i64 k, .int .i64 line, .string s] w fun e w' => e = .returned (.bool true) ∧ Below w.heap.size w w' := by
  go_enter Ybad.func6, Ybad.ntmps6
  go_wp2_with (go_at_call 8; refine (integer_other k hk _ _ (by simp)).mono ?_; rintro e w' ⟨rfl, rfl⟩)
  go_ret
  exact ⟨rfl, (Below.refl _ _).alloc (Nat.le_refl _) _⟩

set_option maxHeartbeats 400000 in
theorem check_ok (line : Int) (s : ByteArray) (hs : s.size ≤ 4096) (v : Int) (h : numOf s.data.toList = some v) (w : World) :
    Calls Ybad.prog 6 #[.int .i64 2, .int .i64 line, .string s] w fun e w' => e = .returned (.bool true) ∧ Below w.heap.size w w' := by
  have HN : Hid (numOf s.data.toList = some v) := h
  clear h
  go_enter Ybad.func6, Ybad.ntmps6
  go_wp2_with fail
  refine (integer_ok s (by omega) v HN.out _ _ (by simp) (by simp)).mono ?_
  rintro e w1 ⟨rfl, hb⟩
  obtain ⟨e0, e1, e2, e3, e4⟩ := five hb
  have HB := Lib.hid hb
  clear hb
  go_wp2_with fail
  refine (model_any s hs _).mono ?_
  rintro e w' ⟨rfl, rfl⟩
  rw [HN.out]
  unfold mval
  go_wp2
  go_ret
  exact ⟨rfl, ((Below.refl _ _).alloc (Nat.le_refl _) _).trans (HB.out.mono (by simp))⟩

set_option maxHeartbeats 400000 in
theorem check_bad (line : Int) (s : ByteArray) (hs : s.size ≤ 4096) (h : numOf s.data.toList = none) (w : World) (hS : Sents w) :
    Calls Ybad.prog 6 #[.int .i64 2, .int .i64 line, .string s] w fun e w' => e = .returned (.bool true) ∧ Below w.heap.size w w' := by
  have HN : Hid (numOf s.data.toList = none) := h
  clear h
  go_enter Ybad.func6, Ybad.ntmps6
  go_wp2_with fail
  refine (integer_bad s (by omega) HN.out _ _ (hS.below ((Below.refl _ _).alloc (Nat.le_refl _) _)) (by simp) (by simp)).mono ?_
  rintro e w1 ⟨⟨n, rfl⟩, hb⟩
  obtain ⟨e0, e1, e2, e3, e4⟩ := five hb
  have HB := Lib.hid hb
  clear hb
  go_wp2_with fail
  refine (model_any s hs _).mono ?_
  rintro e w' ⟨rfl, rfl⟩
  rw [HN.out]
  unfold mval
  go_wp2
  go_ret
  exact ⟨rfl, ((Below.refl _ _).alloc (Nat.le_refl _) _).trans (HB.out.mono (by simp))⟩

/-- zzs5080bcheck at every kind, line and text of at most 4096 bytes. -/
theorem check_any (k line : Int) (s : ByteArray) (hs : s.size ≤ 4096) (w : World) (hS : Sents w) :
    Calls Ybad.prog 6 #[.int .i64 k, .int .i64 line, .string s] w fun e w' => e = .returned (.bool true) ∧ Below w.heap.size w w' := by
  by_cases hk : k = 2
  · subst hk
    cases h : numOf s.data.toList with
    | none => exact check_bad line s hs h w hS
    | some v => exact check_ok line s hs v h w
  · exact check_other k line s (by simpa using hk) w
end Go.Proofs.YbulkdaekDoor
