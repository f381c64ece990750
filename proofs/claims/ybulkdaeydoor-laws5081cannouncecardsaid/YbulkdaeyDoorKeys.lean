import Derived.Test.YbulkdaeyDoorTimes
import Derived.Deep.MidRow
import Derived.Stop.BytesEq
/-
  Keys: [32]byte, as lists of bytes; comparing two of them.
-/
namespace Go.Proofs.YbulkdaeyDoor
open Go.RowKit

/-- A key's cells. -/
def kcl (l : List UInt8) : List Value := l.map Extern.Stop.cell

theorem kcl_length (l : List UInt8) : (kcl l).length = l.length := by simp [kcl]
theorem kcl_at (l : List UInt8) (i : Nat) (h : i < l.length) : (kcl l)[i]? = some (.int .u8 (l[i].toNat : Int)) := by
  simp [kcl, Extern.Stop.cell, h]
theorem kcl_one (l : List UInt8) : ∀ v ∈ kcl l, v.oneCell' = true := by
  intro v hv
  simp only [kcl, List.mem_map] at hv
  obtain ⟨c, _, rfl⟩ := hv
  rfl

/-- How two keys compare, byte by byte. -/
def cmpL : List UInt8 → List UInt8 → Int
  | x :: a, y :: b => if (x.toNat : Int) < (y.toNat : Int) then -1 else if (y.toNat : Int) < (x.toNat : Int) then 1 else cmpL a b
  | _, _ => 0

theorem cmpL_drop (a b : List UInt8) (k : Nat) (ha : k < a.length) (hb : k < b.length) : cmpL (a.drop k) (b.drop k) =
    if (a[k].toNat : Int) < (b[k].toNat : Int) then -1 else if (b[k].toNat : Int) < (a[k].toNat : Int) then 1 else cmpL (a.drop (k + 1)) (b.drop (k + 1)) := by
  rw [List.drop_eq_getElem_cons ha, List.drop_eq_getElem_cons hb]
  rfl

theorem ret_int {k : IntKind} {a b : Int} (h : a = b) : Ending.returned (.int k a) = .returned (.int k b) := by rw [h]

set_option maxHeartbeats 400000 in
theorem nan_any (x : Int) (w : World) : Calls Ybad.prog 71 #[.int .u8 x] w fun e w' => e = .returned (.bool false) ∧ w' = w := by
  go_enter Ybad.func71, Ybad.ntmps71
  go_wp2
  go_ret
  exact ⟨rfl, rfl⟩

set_option maxHeartbeats 400000 in
theorem cmpByte_any (x y : Int) (w : World) : Calls Ybad.prog 58 #[.int .u8 x, .int .u8 y] w fun e w' => e = .returned (.int .i64 (if x < y then -1 else if y < x then 1 else 0)) ∧ w' = w := by
  by_cases h1 : x < y
  · rw [if_pos h1]
    go_enter Ybad.func58, Ybad.ntmps58
    go_wp2_with (go_at_call 71; refine (nan_any _ _).mono ?_; rintro e w' ⟨rfl, rfl⟩)
    go_ret
    exact ⟨rfl, rfl⟩
  · rw [if_neg h1]
    by_cases h2 : y < x
    · rw [if_pos h2]
      go_enter Ybad.func58, Ybad.ntmps58
      go_wp2_with (go_at_call 71; refine (nan_any _ _).mono ?_; rintro e w' ⟨rfl, rfl⟩)
      go_ret
      exact ⟨rfl, rfl⟩
    · rw [if_neg h2]
      go_enter Ybad.func58, Ybad.ntmps58
      go_wp2_with (go_at_call 71; refine (nan_any _ _).mono ?_; rintro e w' ⟨rfl, rfl⟩)
      go_ret
      exact ⟨rfl, rfl⟩

set_option maxHeartbeats 800000 in
theorem compare_any (a b : List UInt8) (ba bb : Nat) (w : World) (ha : a.length = 32) (hb : b.length = 32) (ra : w.rangeAt ba 0 (kcl a)) (rb : w.rangeAt bb 0 (kcl b)) :
    Calls Ybad.prog 40 #[.slice (some ⟨ba, 0, none⟩) 32 32, .slice (some ⟨bb, 0, none⟩) 32 32] w fun e w' => e = .returned (.int .i64 (cmpL a b)) ∧ w' = w := by
  go_enter Ybad.func40, Ybad.ntmps40
  go_wp2
  go_loop [11] (fun i => ∃ k : Nat, k ≤ 32 ∧ i = .int .i64 k ∧ Hid (cmpL a b = cmpL (a.drop k) (b.drop k))) (fun i => 32 - (intOf i).toNat)
  case atStart => exact ⟨0, by omega, rfl, by show cmpL a b = _; simp⟩
  case round =>
    obtain ⟨k, hk, rfl, hc⟩ := hrel
    by_cases hlt : k < 32
    · have ca : w.cell? ⟨ba, k, none⟩ = some (.int .u8 (a[k].toNat : Int)) := by have := ra k _ (kcl_at a k (by omega)); simpa using this
      have cb : w.cell? ⟨bb, k, none⟩ = some (.int .u8 (b[k].toNat : Int)) := by have := rb k _ (kcl_at b k (by omega)); simpa using this
      have hd : Hid (cmpL (a.drop k) (b.drop k) = if (a[k].toNat : Int) < (b[k].toNat : Int) then -1 else if (b[k].toNat : Int) < (a[k].toNat : Int) then 1 else cmpL (a.drop (k + 1)) (b.drop (k + 1))) := cmpL_drop a b k (by omega) (by omega)
      generalize (a[k].toNat : Int) = x at *
      generalize (b[k].toNat : Int) = y at *
      by_cases h1 : x < y
      · have HE : Hid (cmpL a b = -1) := by show cmpL a b = -1; rw [hc.out, hd.out, if_pos h1]
        go_wp2_with (go_at_call 58; refine (cmpByte_any _ _ _).mono ?_; rw [if_pos h1]; rintro e w' ⟨rfl, rfl⟩)
        go_ret
        exact ⟨ret_int HE.out.symm, rfl⟩
      · by_cases h2 : y < x
        · have HE : Hid (cmpL a b = 1) := by show cmpL a b = 1; rw [hc.out, hd.out, if_neg h1, if_pos h2]
          go_wp2_with (go_at_call 58; refine (cmpByte_any _ _ _).mono ?_; rw [if_neg h1, if_pos h2]; rintro e w' ⟨rfl, rfl⟩)
          go_ret
          exact ⟨ret_int HE.out.symm, rfl⟩
        · have HE : Hid (cmpL a b = cmpL (a.drop (k + 1)) (b.drop (k + 1))) := by show cmpL a b = cmpL (a.drop (k + 1)) (b.drop (k + 1)); rw [hc.out, hd.out, if_neg h1, if_neg h2]
          go_wp2_with (go_at_call 58; refine (cmpByte_any _ _ _).mono ?_; rw [if_neg h1, if_neg h2]; rintro e w' ⟨rfl, rfl⟩)
          go_round
          case rel => exact ⟨k + 1, by omega, by go_num, HE⟩
          case measure => simp [intOf]; omega
    · have HE : Hid (cmpL a b = 0) := by
        show cmpL a b = 0
        rw [hc.out, List.drop_eq_nil_of_le (by omega)]
        unfold cmpL
        rfl
      go_wp2
      go_ret
      exact ⟨ret_int HE.out.symm, rfl⟩

theorem range_new (w : World) (cs : List Value) (t : TypeId) : (w.alloc (.cells cs.toArray t)).rangeAt w.heap.size 0 cs := fun j v hv => by
  simp [hv]

set_option maxHeartbeats 800000 in
/-- compareKeys. -/
theorem compareKeys_any (a b : List UInt8) (w : World) (ha : a.length = 32) (hb : b.length = 32) :
    Calls Ybad.prog 20 #[.agg (kcl a).toArray, .agg (kcl b).toArray] w fun e w' => e = .returned (.int .i64 (cmpL a b)) ∧ Below w.heap.size w w' := by
  have r1 := World.rangeAt_alloc (range_new w (kcl a) 27) (.cells (kcl b).toArray 27)
  have r2 := range_new (w.alloc (.cells (kcl a).toArray 27)) (kcl b) 27
  rw [show (w.alloc (.cells (kcl a).toArray 27)).heap.size = w.heap.size + 1 by simp] at r2
  have hB : Below w.heap.size w ((w.alloc (.cells (kcl a).toArray 27)).alloc (.cells (kcl b).toArray 27)) := ((Below.refl _ _).alloc (Nat.le_refl _) _).alloc (by simp) _
  go_enter Ybad.func20, Ybad.ntmps20
  go_wp2
  go_quiet ((go_at_call 40; exact Calls.quiet_of_same (compare_any a b _ _ _ ha hb (by exact r1) (by exact r2))))
  go_wp2
  go_ret
  exact ⟨rfl, below_drewN hB _⟩
end Go.Proofs.YbulkdaeyDoor
