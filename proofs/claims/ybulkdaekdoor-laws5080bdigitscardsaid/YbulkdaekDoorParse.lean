import Derived.Test.YbulkdaekDoorRows
import Derived.Test.YbulkdaekDoorShelf
import Derived.Test.YbulkdaekDoorPlain
import Derived.WalkKit
import Derived.WalkSpells
import Derived.WalkLawsBesides
import Derived.BigQuiet
import Derived.Deep.QuietTactic
import Derived.Lib.AtoiErrMem
/-
  strconv.ParseInt and parseInteger by their contracts.
-/
namespace Go.Proofs.YbulkdaekDoor
open Go.RowKit

/-- What the two sentinels hold: interface values. -/
def Sents (w : World) : Prop := (∃ tp p, w.var? Ybad.prog "strconv.ErrSyntax" = some #[.iface tp p]) ∧ ∃ tp p, w.var? Ybad.prog "strconv.ErrRange" = some #[.iface tp p]

theorem below_drewN {B : Nat} {a w : World} (h : Below B a w) (n : Nat) : Below B a (w.drewN n) := h.trans ⟨rfl, rfl, rfl, Nat.le_refl _, fun _ _ => rfl⟩

theorem lt_of_cell {w : World} {a : Addr} {v : Value} (h : w.cell? a = some v) : a.block < w.heap.size := by
  rcases Nat.lt_or_ge a.block w.heap.size with h1 | h1
  · exact h1
  · simp [World.cell?, Array.getElem?_eq_none h1] at h

theorem var_below {w w' : World} {n : String} {cs : Array Value} (hb : Below w.heap.size w w') (h : w.var? Ybad.prog n = some cs) : w'.var? Ybad.prog n = some cs := by
  unfold World.var? at h ⊢
  cases hg : Ybad.prog.globalNamed n with
  | none => simp [hg] at h
  | some g =>
    simp only [hg, Option.bind_some] at h ⊢
    have hlt : g < w.heap.size := by
      rcases Nat.lt_or_ge g w.heap.size with h' | h'
      · exact h'
      · simp [Array.getElem?_eq_none h'] at h
    rw [hb.block g hlt]
    exact h

theorem Sents.below {w w' : World} (h : Sents w) (hb : Below w.heap.size w w') : Sents w' := by
  obtain ⟨⟨t1, p1, h1⟩, t2, p2, h2⟩ := h
  exact ⟨⟨t1, p1, var_below hb h1⟩, t2, p2, var_below hb h2⟩

theorem parseInt_ok (s : ByteArray) (hlim : s.size ≤ 281474976710656) (v : Int) (h : numOf s.data.toList = some v) (w : World) :
    Calls Ybad.prog 11 #[.string s, .int .i64 10, .int .i64 64] w fun e w' => e = .returned (.tuple #[.int .i64 v, .nilIface]) ∧ Below w.heap.size w w' := by
  refine (Any.strconv_ParseInt_10_at64_ok Ybad.laysC174 s (by omega) v ((parse_iff _ _).2 h) w).mono ?_
  rintro e w' ⟨rfl, rfl | ⟨t, rfl⟩⟩
  · exact ⟨rfl, Below.refl _ _⟩
  · exact ⟨rfl, Lib.bytesWorld_below _ _ _⟩

theorem parseInt_bad (s : ByteArray) (hlim : s.size ≤ 281474976710656) (h : numOf s.data.toList = none) (w : World) (hS : Sents w) :
    Calls Ybad.prog 11 #[.string s, .int .i64 10, .int .i64 64] w fun e w' => (∃ n x, e = .returned (.tuple #[.int .i64 n, .iface 58 x])) ∧ Below w.heap.size w w' := by
  obtain ⟨⟨t1, p1, h1⟩, t2, p2, h2⟩ := hS
  rcases hp : Lib.parseIntB 64 s.data.toList with v | _ | _
  · have := (parse_iff _ _).1 hp
    rw [h] at this
    cases this
  · refine (Any.strconv_ParseInt_10_at64_syntax_var Ybad.laysC174 s hlim hp t1 p1 w h1).mono ?_
    rintro e w' ⟨N, rfl, _, _, hb⟩
    exact ⟨⟨_, _, rfl⟩, hb⟩
  · refine (Any.strconv_ParseInt_10_at64_range_var Ybad.laysC174 s hlim hp t2 p2 w h2).mono ?_
    rintro e w' ⟨N, rfl, _, _, hb⟩
    exact ⟨⟨_, _, rfl⟩, hb⟩

set_option maxHeartbeats 400000 in
/-- parseInteger at a number that the text spells. -/
theorem integer_ok (s : ByteArray) (hlim : s.size ≤ 281474976710656) (v : Int) (h : numOf s.data.toList = some v) (b : Nat) (w : World) (hk : w.cell? ⟨b, 0, none⟩ = some (.int .i64 2)) (ht : w.cell? ⟨b, 2, none⟩ = some (.string s)) :
    Calls Ybad.prog 8 #[.pointer (some ⟨b, 0, none⟩)] w fun e w' => e = .returned (.tuple #[.int .i64 v, .bool true]) ∧ Below w.heap.size w w' := by
  go_enter Ybad.func8, Ybad.ntmps8
  go_wp2_with (go_at_call 11; refine (parseInt_ok s hlim v h _).mono ?_; rintro e w' ⟨rfl, hb⟩)
  go_quiet (fail)
  go_wp2
  go_ret2
  exact ⟨rfl, below_drewN hb _⟩

set_option maxHeartbeats 400000 in
theorem integer_bad (s : ByteArray) (hlim : s.size ≤ 281474976710656) (h : numOf s.data.toList = none) (b : Nat) (w : World) (hS : Sents w) (hk : w.cell? ⟨b, 0, none⟩ = some (.int .i64 2)) (ht : w.cell? ⟨b, 2, none⟩ = some (.string s)) :
    Calls Ybad.prog 8 #[.pointer (some ⟨b, 0, none⟩)] w fun e w' => (∃ n, e = .returned (.tuple #[.int .i64 n, .bool false])) ∧ Below w.heap.size w w' := by
  go_enter Ybad.func8, Ybad.ntmps8
  go_wp2_with (go_at_call 11; refine (parseInt_bad s hlim h _ hS).mono ?_; rintro e w' ⟨⟨n, x, rfl⟩, hb⟩)
  go_quiet (fail)
  go_wp2
  go_ret2
  exact ⟨⟨_, rfl⟩, below_drewN hb _⟩

set_option maxHeartbeats 400000 in
theorem integer_other (k : Int) (hk2 : (k != 2) = true) (b : Nat) (w : World) (hk : w.cell? ⟨b, 0, none⟩ = some (.int .i64 k)) :
    Calls Ybad.prog 8 #[.pointer (some ⟨b, 0, none⟩)] w fun e w' => e = .returned (.tuple #[.int .i64 0, .bool false]) ∧ w' = w := by
  go_enter Ybad.func8, Ybad.ntmps8
  go_wp2
  go_ret2
  exact ⟨rfl, rfl⟩
end Go.Proofs.YbulkdaekDoor
