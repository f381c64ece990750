import Derived.Test.YbulkdaeyDoorAnnounced
/-
  The outbox beside what is awaited.
-/
namespace Go.Proofs.YbulkdaeyDoor
open Go.RowKit

/-- An outbox with the sends l, apart from the blocks A. -/
def BXA (w : World) (ob B : Nat) (sv : Value) (l : List (Int × List Int)) (A : List Nat) : Prop := ∃ xs, OB w ob B sv l.length xs ∧ SN w B (ob :: (sv.ownBlock.toList ++ A)) xs l ∧ ob ∉ A ∧ (∀ k, sv.ownBlock = some k → k ∉ A) ∧ B ≤ ob

theorem BXA.obl {w : World} {ob B : Nat} {sv : Value} {l : List (Int × List Int)} {A : List Nat} (h : BXA w ob B sv l A) : ob < w.heap.size := by
  obtain ⟨xs, ho, _⟩ := h
  exact lt_of_cell ho.cell
theorem BXA.cell {w : World} {ob B : Nat} {sv : Value} {l : List (Int × List Int)} {A : List Nat} (h : BXA w ob B sv l A) : w.cell? ⟨ob, 0, none⟩ = some sv := by
  obtain ⟨xs, ho, _⟩ := h
  exact ho.cell
theorem BXA.ob_ge {w : World} {ob B : Nat} {sv : Value} {l : List (Int × List Int)} {A : List Nat} (h : BXA w ob B sv l A) : B ≤ ob := by
  obtain ⟨xs, _, _, _, _, h⟩ := h
  exact h

theorem BXA.kp {w w' : World} {ob B : Nat} {sv : Value} {l : List (Int × List Int)} {A A' L : List Nat} (h : BXA w ob B sv l A) (k : Kp L w w') (hL : ∀ i ∈ L, B ≤ i → i ∈ A) (hA : ∀ i ∈ A', i ∈ A ∨ w.heap.size ≤ i) : BXA w' ob B sv l A' := by
  have hob := h.obl
  obtain ⟨xs, ⟨h1, h2, h3, h4, h5⟩, hs, h6, h7, h8⟩ := h
  have hn : ob ∉ L := fun e => h6 (hL ob e h8)
  refine ⟨xs, ⟨(k.cell hob hn).trans h1, (k.frozen hob hn).trans h2, ownsRow_of_block h3 (fun i hi => ?_), h4, Nat.le_trans h5 k.size⟩, ?_, ?_, ?_, h8⟩
  · have := h3.lt i hi
    exact k.block i this.2 (fun e => h7 i hi (hL i e this.1))
  · refine hs.kp k (fun i hB _ hm => ?_) (fun i hB hlt hm => ?_)
    · simp [hL i hm hB]
    · simp only [List.mem_cons, List.mem_append] at hm ⊢
      rcases hm with e | e | e
      · exact .inl e
      · exact .inr (.inl e)
      · rcases hA i e with e | e
        · exact .inr (.inr e)
        · omega
  · intro e
    rcases hA ob e with e | e
    · exact h6 e
    · omega
  · intro i hi e
    have := h3.lt i hi
    rcases hA i e with e | e
    · exact h7 i hi e
    · omega

theorem BXA.new (w : World) {w' : World} (N : New1 w w' (.cells #[.slice none 0 0] 116)) {B : Nat} (hB : B ≤ w.heap.size) : BXA w' w.heap.size B (.slice none 0 0) [] [] := by
  have s := N.size
  exact ⟨[], ⟨by simp [World.cell?, N.at'], Plain.thaw ⟨_, _, N.at'⟩ 0, World.ownsRow_nil _ _ _ _, by simp [Value.ownBlock], by omega⟩, trivial, by simp, by simp, hB⟩

theorem send_a (ob lb B : Nat) (sv : Value) (hd : Int) (g cap n : Nat) (bs : List Int) (l : List (Int × List Int)) (A : List Nat) (w : World) (h : BXA w ob B sv l A) (hl : w.cell? ⟨lb, 0, none⟩ = some (.int .i64 hd)) (hn : l.length ≤ 4096)
    (hbs : bs.length = n) (hg : B ≤ g) (hg1 : g < w.heap.size) (hg2 : g ≠ ob) (hg3 : sv.ownBlock ≠ some g) (hgA : g ∉ A) (hA : ∀ i ∈ A, i < w.heap.size) (hr : w.rangeAt g 0 (bv bs)) :
    Calls Ybad.prog 21 #[.pointer (some ⟨ob, 0, none⟩), .pointer (some ⟨lb, 0, none⟩), .slice (some ⟨g, 0, none⟩) n cap] w fun e w' => e = .returned (.tuple #[]) ∧
      ∃ gg c, BXA w' ob B (.slice (some ⟨gg, 0, none⟩) (l.length + 1) c) (l ++ [(hd, bs)]) A ∧ Kp (ob :: sv.ownBlock.toList) w w' ∧ (sv.ownBlock = some gg ∨ w.heap.size ≤ gg) := by
  subst hbs
  obtain ⟨xs, ho, hs, h6, h7, h8⟩ := h
  refine (send_any ob lb B l.length sv hd (some ⟨g, 0, none⟩) bs.length cap xs w ho hl hn).mono ?_
  rintro e w' ⟨rfl, gg, c, h1, h2, h3⟩
  have hat : sv.ownBlock = some gg ∨ w.heap.size ≤ gg := h3.imp id (fun e => by omega)
  have hgg : gg ∉ A := fun e => by
    rcases h3 with e2 | e2
    · exact h7 gg e2 e
    · have := hA gg e; omega
  have hav : ∀ i, B ≤ i → i < w.heap.size → i ∈ (ob :: (((Value.slice (some ⟨gg, 0, none⟩) (l.length + 1) c).ownBlock).toList ++ A)) → i ∈ ob :: (sv.ownBlock.toList ++ A) := by
    intro i _ hi hm
    simp only [Value.ownBlock, Option.toList_some, List.mem_cons, List.mem_append, List.not_mem_nil, or_false] at hm
    simp only [List.mem_cons, List.mem_append]
    rcases hm with rfl | rfl | hm
    · exact .inl rfl
    · rcases h3 with e | e
      · rw [e]; simp
      · omega
    · exact .inr (.inr hm)
  have hgo : g ∉ sv.ownBlock.toList := fun hm => by
    cases hsv : sv.ownBlock with
    | none => simp [hsv] at hm
    | some k => simp [hsv] at hm; exact hg3 (by rw [hsv, hm])
  refine ⟨rfl, gg, c, ⟨_, by simpa using h1, ?_, h6, ?_, h8⟩, h2, hat⟩
  · refine SN.snoc hg (Nat.lt_of_lt_of_le hg1 h2.size) ?_ ?_ (hs.kp h2 (fun i _ _ hm => by simp only [List.mem_cons, List.mem_append] at hm ⊢; rcases hm with e | e; exact .inl e; exact .inr (.inl e)) hav)
    · intro hm
      have := hav g hg hg1 hm
      simp only [List.mem_cons, List.mem_append] at this
      rcases this with e | e | e
      · exact hg2 e
      · exact hgo e
      · exact hgA e
    · intro j v hv
      refine (h2.cell hg1 ?_).trans (hr j v hv)
      intro hm
      rcases List.mem_cons.1 hm with e | e
      · exact hg2 e
      · exact hgo e
  · intro k hk
    obtain rfl : k = gg := by simpa [Value.ownBlock] using hk.symm
    exact hgg

/-- What is sent, handed back. -/
def Sent (w : World) (sv : Value) (l : List (Int × List Int)) : Prop := (l = [] ∧ sv = .slice none 0 0) ∨ GotS w sv l
theorem BXA.sent {w : World} {ob B : Nat} {gg c : Nat} {l : List (Int × List Int)} {A : List Nat} (h : BXA w ob B (.slice (some ⟨gg, 0, none⟩) l.length c) l A) : GotS w (.slice (some ⟨gg, 0, none⟩) l.length c) l := by
  obtain ⟨xs, ho, hs, _⟩ := h
  refine ⟨gg, c, xs, B, rfl, fun j v hv => ?_, hs.kp (Kp.refl [] w) (fun i _ _ hm => by simp at hm) (fun i _ _ hm => by simp at hm), ho.own.1⟩
  have hj : j < l.length * 3 := by
    rw [← ho.own.1]
    rcases Nat.lt_or_ge j xs.length with h | h
    · exact h
    · rw [List.getElem?_eq_none h] at hv
      cases hv
  rw [Nat.zero_add, ho.own.cellAt j hj]
  exact hv
end Go.Proofs.YbulkdaeyDoor
