import Derived.Test.YbulkdaeyDoorGrafts
import Derived.Laws.BytesArg
/-
  bytes.Equal; zzs5081asame.
-/
namespace Go.Proofs.YbulkdaeyDoor
open Go.RowKit

theorem conv_bytes {w : World} {g n cap : Nat} {bs : List Int} (hn : bs.length = n) (h : w.rangeAt g 0 (bv bs)) : (convert 77 9 (.slice (some ⟨g, 0, none⟩) n cap)).run Ybad.prog w = .ok (.string (strOfNums bs)) w :=
  run_convert_bytes_arg w 77 5 Ybad.underlying77 Ybad.underlying5 g 0 n cap bs hn (fun i hi => h i _ (by
    have hi' : i < bs.length := by omega
    simp [bv, List.getD, List.getElem?_eq_getElem hi'])) 9 Ybad.underlying9

set_option maxHeartbeats 800000 in
theorem equal_same (g g' n cap cap' : Nat) (bs : List Int) (w : World) (hn : bs.length = n) (h : w.rangeAt g 0 (bv bs)) (h' : w.rangeAt g' 0 (bv bs)) :
    Calls Ybad.prog 26 #[.slice (some ⟨g, 0, none⟩) n cap, .slice (some ⟨g', 0, none⟩) n cap'] w fun e w' => e = .returned (.bool true) ∧ w' = w := by
  have e1 := conv_bytes (cap := cap) hn h
  have e2 := conv_bytes (cap := cap') hn h'
  go_enter Ybad.func26, Ybad.ntmps26
  go_wp2
  go_ret
  exact ⟨by simp, rfl⟩

theorem SN.at {w : World} {B : Nat} {av : List Nat} : ∀ {xs : List Value} {l : List (Int × List Int)}, SN w B av xs l → ∀ (k : Nat) (h : k < l.length),
    ∃ g cap, xs[k * 3]? = some (.int .i64 l[k].1) ∧ xs[k * 3 + 1]? = some (.slice (some ⟨g, 0, none⟩) l[k].2.length cap) ∧ xs[k * 3 + 2]? = some (.bool false) ∧ g < w.heap.size ∧ w.rangeAt g 0 (bv l[k].2)
  | [], [], _, k, h => by simp at h
  | _ :: _ :: _ :: _, _ :: _, ⟨⟨h1, ⟨g, cap, h2, _, h4, _, h6⟩, h7⟩, _⟩, 0, _ => ⟨g, cap, by simp [h1], by simp [h2], by simp [h7], h4, h6⟩
  | _ :: _ :: _ :: _, _ :: _, ⟨_, h8⟩, k + 1, h => by
    obtain ⟨g, cap, e1, e2, e3, e4, e5⟩ := SN.at h8 k (by simpa using h)
    refine ⟨g, cap, ?_, ?_, ?_, e4, e5⟩
    · rw [show (k + 1) * 3 = k * 3 + 1 + 1 + 1 by omega]; simpa using e1
    · rw [show (k + 1) * 3 + 1 = k * 3 + 1 + 1 + 1 + 1 by omega]; simpa using e2
    · rw [show (k + 1) * 3 + 2 = k * 3 + 2 + 1 + 1 + 1 by omega]; simpa using e3

theorem GotS.at {w w' : World} {gg n c : Nat} {l : List (Int × List Int)} (h : GotS w (.slice (some ⟨gg, 0, none⟩) n c) l) (K : Kp [] w w') (k : Nat) (hk : k < l.length) :
    ∃ g cap, w'.cell? ⟨gg, k * 3, none⟩ = some (.int .i64 l[k].1) ∧ w'.cell? ⟨gg, k * 3 + 1, none⟩ = some (.slice (some ⟨g, 0, none⟩) l[k].2.length cap) ∧ w'.cell? ⟨gg, k * 3 + 2, none⟩ = some (.bool false) ∧ w'.rangeAt g 0 (bv l[k].2) := by
  obtain ⟨gg', c', xs, B, he, hr, hs, _⟩ := h
  obtain ⟨rfl, rfl, rfl⟩ : gg = gg' ∧ n = l.length ∧ c = c' := by simpa using he
  obtain ⟨g, cap, e1, e2, e3, e4, e5⟩ := hs.at k hk
  have f1 := hr _ _ e1
  have f2 := hr _ _ e2
  have f3 := hr _ _ e3
  rw [Nat.zero_add] at f1 f2 f3
  exact ⟨g, cap, (K.cell (lt_of_cell f1) (by simp)).trans f1, (K.cell (lt_of_cell f2) (by simp)).trans f2, (K.cell (lt_of_cell f3) (by simp)).trans f3, range_kp e5 K e4⟩

set_option maxRecDepth 20000 in
set_option maxHeartbeats 1600000 in
theorem asame_any (gg gg' n c c' : Nat) (l : List (Int × List Int)) (w : World) (hn : l.length = n) (hl : n ≤ 4096) (h : GotS w (.slice (some ⟨gg, 0, none⟩) n c) l) (h' : GotS w (.slice (some ⟨gg', 0, none⟩) n c') l) :
    Calls Ybad.prog 11 #[.slice (some ⟨gg, 0, none⟩) n c, .slice (some ⟨gg', 0, none⟩) n c'] w fun e w' => e = .returned (.bool true) ∧ Kp [] w w' := by
  go_enter Ybad.func11, Ybad.ntmps11
  go_wp2
  go_loopw [13] (fun i wr => ∃ k : Nat, k ≤ n ∧ i = .int .i64 k ∧ Kp [] w wr) (fun i _ => n - (intOf i).toNat)
  case atStart => exact ⟨0, by omega, rfl, Kp.refl _ _⟩
  case round =>
    obtain ⟨k, hk, rfl, K⟩ := hrel
    by_cases hlt : k < n
    · obtain ⟨g, cap, a1, a2, a3, a4⟩ := h.at K k (by omega)
      obtain ⟨g', cap', b1, b2, b3, b4⟩ := h'.at K k (by omega)
      have hlt' : (k : Int) < n := by omega
      generalize l[k].1 = xk at *
      generalize l[k].2 = bs at *
      clear h h'
      go_wp2_with fail
      go_quiet ((go_at_call 26; exact Calls.quiet_of_same (equal_same g g' _ cap cap' bs _ rfl (by exact a4) (by exact b4))))
      go_wp2
      go_roundw
      case rel => exact ⟨k + 1, by omega, by go_num, K.drewN _⟩
      case measure => simp [intOf]; omega
    · go_wp2
      go_ret
      exact ⟨rfl, K⟩
end Go.Proofs.YbulkdaeyDoor
