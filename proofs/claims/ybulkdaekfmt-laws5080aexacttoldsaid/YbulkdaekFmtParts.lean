/-
  The walks of MarshalText, zzs5080aname and UnmarshalText (seat b5080aF).
-/
import Derived.Test.YbulkdaekFmtFacts
import Derived.WalkKit
import Derived.WalkSpells
import Derived.WalkLawsBesides
import Derived.BigQuiet
import Derived.Deep.QuietTactic
import Derived.Lib.ConvBytes
import Derived.Lib.AtoiErrMem
namespace Go.Proofs.YbulkdaekFmt
open Go.RowKit Go.Extern.Stop Go.Stop Go.Extern
attribute [local go_sem] call9 guard9 fmt0 fmt0r act22_100w op22_100w ptrErr elemErr

/-- The twenty-one names, as bytes. -/
def nmL : List (List UInt8) := [[],
  [105, 110, 45, 117, 115, 101],
  [105, 110, 118, 97, 108, 105, 100, 45, 118, 97, 108, 117, 101],
  [116, 111, 111, 45, 98, 105, 103],
  [109, 105, 115, 115, 105, 110, 103, 45, 97, 116, 116, 114, 105, 98, 117, 116, 101],
  [98, 97, 100, 45, 97, 116, 116, 114, 105, 98, 117, 116, 101],
  [117, 110, 107, 110, 111, 119, 110, 45, 97, 116, 116, 114, 105, 98, 117, 116, 101],
  [109, 105, 115, 115, 105, 110, 103, 45, 101, 108, 101, 109, 101, 110, 116],
  [98, 97, 100, 45, 101, 108, 101, 109, 101, 110, 116],
  [117, 110, 107, 110, 111, 119, 110, 45, 101, 108, 101, 109, 101, 110, 116],
  [117, 110, 107, 110, 111, 119, 110, 45, 110, 97, 109, 101, 115, 112, 97, 99, 101],
  [97, 99, 99, 101, 115, 115, 45, 100, 101, 110, 105, 101, 100],
  [108, 111, 99, 107, 45, 100, 101, 110, 105, 101, 100],
  [114, 101, 115, 111, 117, 114, 99, 101, 45, 100, 101, 110, 105, 101, 100],
  [114, 111, 108, 108, 98, 97, 99, 107, 45, 102, 97, 105, 108, 101, 100],
  [100, 97, 116, 97, 45, 101, 120, 105, 115, 116, 115],
  [100, 97, 116, 97, 45, 109, 105, 115, 115, 105, 110, 103],
  [111, 112, 101, 114, 97, 116, 105, 111, 110, 45, 110, 111, 116, 45, 115, 117, 112, 112, 111, 114, 116, 101, 100],
  [111, 112, 101, 114, 97, 116, 105, 111, 110, 45, 102, 97, 105, 108, 101, 100],
  [112, 97, 114, 116, 105, 97, 108, 45, 111, 112, 101, 114, 97, 116, 105, 111, 110],
  [109, 97, 108, 102, 111, 114, 109, 101, 100, 45, 109, 101, 115, 115, 97, 103, 101]]
def nm (i : Nat) : ByteArray := ⟨(nmL.getD i []).toArray⟩

set_option maxHeartbeats 800000 in
theorem marshal_zero (F : Interp) (w : World) (hF : F.answers w.tape) :
    Calls Ybaf.prog 5 #[.int .u8 0] w fun e w' => (∃ u x, e = .returned (.tuple #[.slice none 0 0, .iface u x])) ∧ Below w.heap.size w w' := by
  have hF' := answers_open hF
  go_enter Ybaf.func5, Ybaf.ntmps5
  go_wp2
  apply rows_value nextTurns
  case hr =>
    go_simp
    exact ⟨rfl, rfl⟩
  case h =>
    go_wp2
    go_ret2
    refine ⟨⟨_, _, rfl⟩, ?_⟩
    exact (((Below.refl _ _).alloc (Nat.le_refl _) _).alloc (by simp) _).drew

set_option maxHeartbeats 800000 in
theorem marshal_big (F : Interp) (t : Int) (a : Addr) (w : World) (hF : F.answers w.tape) (h0 : 20 < t) (h1 : t ≤ 255) (hg : w.cell? ⟨0, 0, none⟩ = some (.slice (some a) 21 21)) :
    Calls Ybaf.prog 5 #[.int .u8 t] w fun e w' => (∃ u x, e = .returned (.tuple #[.slice none 0 0, .iface u x])) ∧ Below w.heap.size w w' := by
  have hF' := answers_open hF
  go_enter Ybaf.func5, Ybaf.ntmps5
  go_wp2
  apply rows_value nextTurns
  case hr =>
    go_simp
    exact ⟨rfl, rfl⟩
  case h =>
    go_wp2
    go_ret2
    refine ⟨⟨_, _, rfl⟩, ?_⟩
    exact (((Below.refl _ _).alloc (Nat.le_refl _) _).alloc (by simp) _).drew

set_option maxHeartbeats 800000 in
theorem marshal_ok (t : Nat) (b o : Nat) (s : ByteArray) (w : World) (h0 : 0 < t) (h1 : t ≤ 20) (hg : w.cell? ⟨0, 0, none⟩ = some (.slice (some ⟨b, o, none⟩) 21 21))
    (hc : w.cell? ⟨b, o + t, none⟩ = some (.string s)) :
    Calls Ybaf.prog 5 #[.int .u8 t] w fun e w' => ∃ cap, e = .returned (.tuple #[.slice (some ⟨w.heap.size, 0, none⟩) s.size cap, .nilIface]) ∧ w' = Lib.bytesWorld w 5 s := by
  have hcv := fun w => Lib.run_convert_string_bytes (P := Ybaf.prog) w 9 23 5 s Ybaf.underlying9 Ybaf.underlying23 Ybaf.underlying5
  have hz : ((t : Int) == 0) = false := beq_eq_false_iff_ne.2 (by omega)
  have hlt : (t : Int) < 21 := by omega
  go_enter Ybaf.func5, Ybaf.ntmps5
  go_wp2
  go_ret2
  exact ⟨_, rfl, rfl⟩

set_option maxHeartbeats 2000000 in
theorem name_any (t : Nat) (w : World) (h0 : 0 < t) (h1 : t ≤ 20) :
    Calls Ybaf.prog 6 #[.int .i64 t] w fun e w' => e = .returned (.string (nm t)) ∧ w' = w := by
  have h : t = 1 ∨ t = 2 ∨ t = 3 ∨ t = 4 ∨ t = 5 ∨ t = 6 ∨ t = 7 ∨ t = 8 ∨ t = 9 ∨ t = 10 ∨ t = 11 ∨ t = 12 ∨ t = 13 ∨ t = 14 ∨ t = 15 ∨ t = 16 ∨ t = 17 ∨ t = 18 ∨ t = 19 ∨ t = 20 := by omega
  clear h0 h1
  rcases h with rfl | rfl | rfl | rfl | rfl | rfl | rfl | rfl | rfl | rfl | rfl | rfl | rfl | rfl | rfl | rfl | rfl | rfl | rfl | rfl
  all_goals
    go_enter Ybaf.func6, Ybaf.ntmps6
    go_wp2
    go_ret
    exact ⟨rfl, rfl⟩
end Go.Proofs.YbulkdaekFmt
