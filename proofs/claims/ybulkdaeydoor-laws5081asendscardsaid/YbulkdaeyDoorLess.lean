import Derived.Test.YbulkdaeyDoorKeys
/-
  zzs5081aless.
-/
namespace Go.Proofs.YbulkdaeyDoor
open Go.RowKit

theorem ret_bool {a b : Bool} (h : a = b) : Ending.returned (.bool a) = .returned (.bool b) := by rw [h]

set_option maxHeartbeats 800000 in
theorem less_any (a b : List UInt8) (w : World) (ha : a.length = 32) (hb : b.length = 32) :
    Calls Ybad.prog 10 #[.agg (kcl a).toArray, .agg (kcl b).toArray] w fun e w' => e = .returned (.bool (decide (cmpL a b < 0))) ∧ Below w.heap.size w w' := by
  have r1 := World.rangeAt_alloc (range_new w (kcl a) 27) (.cells (kcl b).toArray 27)
  have r2 := range_new (w.alloc (.cells (kcl a).toArray 27)) (kcl b) 27
  rw [show (w.alloc (.cells (kcl a).toArray 27)).heap.size = w.heap.size + 1 by simp] at r2
  have hB : Below w.heap.size w ((w.alloc (.cells (kcl a).toArray 27)).alloc (.cells (kcl b).toArray 27)) := ((Below.refl _ _).alloc (Nat.le_refl _) _).alloc (by simp) _
  go_enter Ybad.func10, Ybad.ntmps10
  go_wp2
  generalize (w.alloc (.cells (kcl a).toArray 27)).alloc (.cells (kcl b).toArray 27) = W at *
  go_loopw [5] (fun i wr => ∃ k n : Nat, k ≤ 32 ∧ i = .int .i64 k ∧ wr = W.drewN n ∧ Hid (cmpL a b = cmpL (a.drop k) (b.drop k))) (fun i _ => 32 - (intOf i).toNat)
  case atStart => exact ⟨0, 0, by omega, rfl, rfl, by show cmpL a b = _; simp⟩
  case round =>
    obtain ⟨k, n, hk, rfl, rfl, hc⟩ := hrel
    by_cases hlt : k < 32
    · have ca : W.cell? ⟨w.heap.size, k, none⟩ = some (.int .u8 (a[k].toNat : Int)) := by have := r1 k _ (kcl_at a k (by omega)); simpa using this
      have cb : W.cell? ⟨w.heap.size + 1, k, none⟩ = some (.int .u8 (b[k].toNat : Int)) := by have := r2 k _ (kcl_at b k (by omega)); simpa using this
      have hd : Hid (cmpL (a.drop k) (b.drop k) = if (a[k].toNat : Int) < (b[k].toNat : Int) then -1 else if (b[k].toNat : Int) < (a[k].toNat : Int) then 1 else cmpL (a.drop (k + 1)) (b.drop (k + 1))) := cmpL_drop a b k (by omega) (by omega)
      generalize (a[k].toNat : Int) = x at *
      generalize (b[k].toNat : Int) = y at *
      have hI0 : (0 : Int) ≤ (k : Int) := by omega
      have hI1 : (k : Int) < 32 := by omega
      have HB : Hid (Below w.heap.size w W) := hB
      clear r1 r2 hB
      by_cases hne : x = y
      · have HE : Hid (cmpL a b = cmpL (a.drop (k + 1)) (b.drop (k + 1))) := by show cmpL a b = _; rw [hc.out, hd.out, if_neg (by omega), if_neg (by omega)]
        have hnb : (x != y) = false := by simp [hne]
        have HN : Hid (x = y) := hne
        clear hne
        go_wp2
        go_quiet (fail)
        go_wp2
        go_roundw
        case rel => exact ⟨k + 1, _, by omega, by go_num, rfl, HE⟩
        case measure => simp [intOf]; omega
      · have hnb : (x != y) = true := by simp [hne]
        have HE : Hid (decide (x < y) = decide (cmpL a b < 0)) := by
          show decide (x < y) = _
          rw [hc.out, hd.out]
          by_cases h1 : x < y
          · rw [if_pos h1]; simp [h1]
          · rw [if_neg h1, if_pos (by omega)]; simp [h1]
        clear hne
        go_wp2
        go_quiet (fail)
        go_wp2
        go_quiet (fail)
        go_wp2
        go_ret
        exact ⟨ret_bool HE.out, below_drewN (below_drewN (below_drewN HB.out _) _) _⟩
    · have HE : Hid (cmpL a b = 0) := by
        show cmpL a b = 0
        rw [hc.out, List.drop_eq_nil_of_le (by omega)]
        unfold cmpL
        rfl
      go_wp2
      go_ret
      exact ⟨ret_bool (by rw [HE.out]; rfl), below_drewN hB _⟩
end Go.Proofs.YbulkdaeyDoor
