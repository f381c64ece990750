import Derived.Test.YbulkdaekDoorCheck
/-
  The walk of LawS5080BAnyText.
-/
namespace Go.Proofs.YbulkdaekDoor
open Go.RowKit

set_option maxHeartbeats 400000 in
theorem any_long (K : Int) (s : ByteArray) (hs : 4096 < s.size) (hm : s.size ≤ maxLen) (w : World) :
    Calls Ybad.prog 4 #[.int .u8 K, .string s] w fun e w' => e = .returned (.bool true) ∧ Below w.heap.size w w' := by
  unfold maxLen at hm
  go_enter Ybad.func4, Ybad.ntmps4
  go_wp2
  go_ret
  exact ⟨rfl, Below.refl _ _⟩

set_option maxHeartbeats 400000 in
theorem any_short (K : Int) (h0 : 0 ≤ K) (h1 : K ≤ 255) (s : ByteArray) (hs : s.size ≤ 4096) (w : World) (hS : Sents w) :
    Calls Ybad.prog 4 #[.int .u8 K, .string s] w fun e w' => e = .returned (.bool true) ∧ Below w.heap.size w w' := by
  go_enter Ybad.func4, Ybad.ntmps4
  go_wp2_with (go_at_call 6; refine (check_any _ _ s hs _ hS).mono ?_; rintro e w' ⟨rfl, hb⟩)
  all_goals
    go_ret
    exact ⟨rfl, hb⟩

theorem any_any (K : Int) (h0 : 0 ≤ K) (h1 : K ≤ 255) (s : ByteArray) (hm : s.size ≤ maxLen) (w : World) (hS : Sents w) :
    Calls Ybad.prog 4 #[.int .u8 K, .string s] w fun e w' => e = .returned (.bool true) ∧ Below w.heap.size w w' := by
  by_cases hs : s.size ≤ 4096
  · exact any_short K h0 h1 s hs w hS
  · exact any_long K s (by omega) hm w
end Go.Proofs.YbulkdaekDoor
