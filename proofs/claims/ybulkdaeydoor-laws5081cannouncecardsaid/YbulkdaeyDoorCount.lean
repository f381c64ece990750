import Derived.Test.YbulkdaeyDoorNames
import Derived.Test.YbulkdaeyDoorSame
/-
  LawS5081CAnnounce: what its second loop counts.
-/
namespace Go.Proofs.YbulkdaeyDoor
open Go.RowKit Go.BigFrame

theorem stepA_pre (pl : Int → Option Int) (bf : Int) (kp : Bool) (st : List Int × List (Int × List Int)) (p : Int × Int) : ∃ t, (stepA pl bf kp st p).2 = st.2 ++ t := by
  unfold stepA
  cases pl p.1 with
  | none => exact ⟨[], by simp⟩
  | some q =>
    simp only
    by_cases h : q < bf
    · exact ⟨_, by rw [if_pos h]⟩
    · exact ⟨[], by rw [if_neg h]; simp⟩
theorem foldA_pre (pl : Int → Option Int) (bf : Int) (kp : Bool) : ∀ (ns : List (Int × Int)) (st : List Int × List (Int × List Int)), ∃ t, (ns.foldl (stepA pl bf kp) st).2 = st.2 ++ t
  | [], st => ⟨[], by simp⟩
  | p :: ns, st => by
    obtain ⟨t1, h1⟩ := stepA_pre pl bf kp st p
    obtain ⟨t2, h2⟩ := foldA_pre pl bf kp ns (stepA pl bf kp st p)
    exact ⟨t1 ++ t2, by rw [List.foldl_cons, h2, h1, List.append_assoc]⟩

/-- The state behind the first i names. -/
def stA (pl : Int → Option Int) (bf : Int) (kp : Bool) (ns : List (Int × Int)) (i : Nat) : List Int × List (Int × List Int) := (ns.take i).foldl (stepA pl bf kp) ([], [])
theorem stA_zero (pl : Int → Option Int) (bf : Int) (kp : Bool) (ns : List (Int × Int)) : stA pl bf kp ns 0 = ([], []) := rfl
theorem stA_all (pl : Int → Option Int) (bf : Int) (kp : Bool) (ns : List (Int × Int)) : stA pl bf kp ns ns.length = ns.foldl (stepA pl bf kp) ([], []) := by simp [stA]
theorem stA_succ (pl : Int → Option Int) (bf : Int) (kp : Bool) (ns : List (Int × Int)) (i : Nat) (h : i < ns.length) : stA pl bf kp ns (i + 1) = stepA pl bf kp (stA pl bf kp ns i) ns[i] := by
  unfold stA
  rw [List.take_succ_eq_append_getElem h, List.foldl_append]
  rfl
theorem stA_none {pl : Int → Option Int} {bf : Int} {kp : Bool} {ns : List (Int × Int)} {i : Nat} (h : i < ns.length) {m : Int} (hm : ns[i].1 = m) (hp : pl m = none) : stA pl bf kp ns (i + 1) = (if m ∈ (stA pl bf kp ns i).1 then (stA pl bf kp ns i).1 else (stA pl bf kp ns i).1 ++ [m], (stA pl bf kp ns i).2) := by
  rw [stA_succ _ _ _ _ _ h]
  unfold stepA
  rw [hm, hp]
theorem stA_less {pl : Int → Option Int} {bf : Int} {kp : Bool} {ns : List (Int × Int)} {i : Nat} (h : i < ns.length) {m q : Int} (hm : ns[i].1 = m) (hp : pl m = some q) (hq : q < bf) : stA pl bf kp ns (i + 1) = ((stA pl bf kp ns i).1, (stA pl bf kp ns i).2 ++ [(7, frameA kp m)]) := by
  rw [stA_succ _ _ _ _ _ h]
  unfold stepA
  rw [hm, hp]
  simp only
  rw [if_pos hq]
theorem stA_more {pl : Int → Option Int} {bf : Int} {kp : Bool} {ns : List (Int × Int)} {i : Nat} (h : i < ns.length) {m q : Int} (hm : ns[i].1 = m) (hp : pl m = some q) (hq : ¬ q < bf) : stA pl bf kp ns (i + 1) = stA pl bf kp ns i := by
  rw [stA_succ _ _ _ _ _ h]
  unfold stepA
  rw [hm, hp]
  simp only
  rw [if_neg hq]
/-- The send that stands at the count. -/
theorem stA_at {pl : Int → Option Int} {bf : Int} {kp : Bool} {ns : List (Int × Int)} {i : Nat} (h : i < ns.length) {m q : Int} (hm : ns[i].1 = m) (hp : pl m = some q) (hq : q < bf) {l : List (Int × List Int)} (hl : (ns.foldl (stepA pl bf kp) ([], [])).2 = l) : ∃ hlt : (stA pl bf kp ns i).2.length < l.length, l[(stA pl bf kp ns i).2.length] = (7, frameA kp m) := by
  obtain ⟨t, ht⟩ := foldA_pre pl bf kp (ns.drop (i + 1)) (stA pl bf kp ns (i + 1))
  have he : ns.foldl (stepA pl bf kp) ([], []) = (ns.drop (i + 1)).foldl (stepA pl bf kp) (stA pl bf kp ns (i + 1)) := by
    unfold stA
    rw [← List.foldl_append, List.take_append_drop]
  rw [he, ht, stA_less h hm hp hq] at hl
  subst hl
  simp
theorem stA_us {pl : Int → Option Int} {bf : Int} {kp : Bool} {ns : List (Int × Int)} : ∀ (i : Nat), (stA pl bf kp ns i).1.length ≤ i ∧ (stA pl bf kp ns i).2.length ≤ i
  | 0 => by simp [stA_zero]
  | i + 1 => by
    obtain ⟨h1, h2⟩ := stA_us (pl := pl) (bf := bf) (kp := kp) (ns := ns) i
    by_cases h : i < ns.length
    · cases hp : pl ns[i].1 with
      | none =>
        rw [stA_none h rfl hp]
        simp only
        constructor
        · split
          · omega
          · simp; omega
        · omega
      | some q =>
        by_cases hq : q < bf
        · rw [stA_less h rfl hp hq]; simp; omega
        · rw [stA_more h rfl hp hq]; omega
    · have : stA pl bf kp ns (i + 1) = stA pl bf kp ns i := by
        unfold stA
        rw [List.take_of_length_le (by omega), List.take_of_length_le (by omega)]
      rw [this]; omega

theorem pU_wf (xs : List Int) : ∀ (k : Nat) (m q : Int), pU xs k m = some q → 0 ≤ q ∧ q < k
  | 0, _, _, h => by simp [pU] at h
  | k + 1, m, q, h => by
    unfold pU at h
    split at h
    · obtain rfl := Option.some.inj h
      omega
    · have := pU_wf xs k m q h
      omega

theorem info104 : (Ybad.prog.info? 104).map (·.size) = some 16 := by kernel_rfl
theorem alloc104 (w : World) : (Instr.alloc 104 true (.tuple #[])).run Ybad.prog w = .ok (.pointer (some ⟨w.heap.size, 0, none⟩)) (w.alloc (.cells #[.bool false, .bool false, .bool false, .bool false, .bool false, .bool false, .bool false, .bool false, .bool false, .bool false, .bool false, .bool false, .bool false, .bool false, .bool false, .bool false] 104)) := by simp [go_sem]
theorem alloc79 (w : World) : (Instr.alloc 79 true (.tuple #[])).run Ybad.prog w = .ok (.pointer (some ⟨w.heap.size, 0, none⟩)) (w.alloc (.cells #[.int .i64 0, .slice none 0 0, .bool false] 79)) := by simp [go_sem]
theorem size79 : (Ybad.prog.info? 79).map (·.size) = some 3 := by kernel_rfl
theorem there79 {w w' : World} (N : New1 w w' (.cells #[.int .i64 0, .slice none 0 0, .bool false] 79)) : w'.there w.heap.size 0 3 := by
  intro j hj
  refine ⟨?_, Plain.thaw ⟨_, _, N.at'⟩ _⟩
  simp [World.cell?, N.at']
  omega

/-- Which messages were not seen: sixteen marks. -/
structure UB (w : World) (ub : Nat) (us : List Int) : Prop where
  bit : ∀ j : Nat, j < 16 → w.cell? ⟨ub, j, none⟩ = some (.bool (decide ((j : Int) ∈ us)))
  thaw : ∀ o, w.frozen? ⟨ub, o, none⟩ = false
theorem UB.new {w w' : World} (N : New1 w w' (.cells #[.bool false, .bool false, .bool false, .bool false, .bool false, .bool false, .bool false, .bool false, .bool false, .bool false, .bool false, .bool false, .bool false, .bool false, .bool false, .bool false] 104)) : UB w' w.heap.size [] := by
  refine ⟨fun j hj => ?_, fun o => Plain.thaw ⟨_, _, N.at'⟩ o⟩
  match j, hj with
  | 0, _ | 1, _ | 2, _ | 3, _ | 4, _ | 5, _ | 6, _ | 7, _ | 8, _ | 9, _ | 10, _ | 11, _ | 12, _ | 13, _ | 14, _ | 15, _ => simp [World.cell?, N.at']
  | _ + 16, h => omega
theorem UB.kp {w w' : World} {ub : Nat} {us : List Int} {L : List Nat} (h : UB w ub us) (k : Kp L w w') (hn : ub ∉ L) : UB w' ub us := by
  have hb : ub < w.heap.size := lt_of_cell (h.bit 0 (by omega))
  exact ⟨fun j hj => (k.cell (p := ⟨ub, j, none⟩) hb hn).trans (h.bit j hj), fun o => (k.frozen (p := ⟨ub, o, none⟩) hb hn).trans (h.thaw o)⟩
theorem UB.mark {w w' : World} {ub : Nat} {us : List Int} {m : Nat} (h : UB w ub us) (P : Put1 w w' ub m (.bool true)) : UB w' ub (us ++ [(m : Int)]) := by
  refine ⟨fun j hj => ?_, fun o => (P.thaw _).trans (h.thaw o)⟩
  by_cases e : j = m
  · subst e
    rw [P.same]
    simp
  · rw [P.other j e, h.bit j hj]
    have : ((j : Int) ∈ us ++ [(m : Int)]) ↔ (j : Int) ∈ us := by simp; omega
    simp only [this]
end Go.Proofs.YbulkdaeyDoor
