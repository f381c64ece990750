import Derived.Test.YbulkdaeyDoorGrafts
/-
  The law's own list of sends, built by append.
-/
namespace Go.Proofs.YbulkdaeyDoor
open Go.RowKit

/-- A slice of sends of the call's own (blocks from B on). -/
def WX (w : World) (B : Nat) (sv : Value) (l : List (Int × List Int)) : Prop := ∃ xs, w.ownsRow B 79 3 sv l.length xs ∧ SN w B sv.ownBlock.toList xs l ∧ B ≤ w.heap.size

theorem WX.nil {w : World} {B : Nat} (h : B ≤ w.heap.size) : WX w B (.slice none 0 0) [] := ⟨[], World.ownsRow_nil _ _ _ _, trivial, h⟩

theorem WX.kp {w w' : World} {B : Nat} {sv : Value} {l : List (Int × List Int)} (h : WX w B sv l) (k : Kp [] w w') : WX w' B sv l := by
  obtain ⟨xs, h1, h2, h3⟩ := h
  exact ⟨xs, ownsRow_of_block h1 (fun i hi => k.block i (h1.lt i hi).2 (by simp)), h2.kp k (fun i _ _ hm => by simp at hm) (fun i _ _ hm => hm), Nat.le_trans h3 k.size⟩

/-- Behind one append. -/
theorem WX.push {W w1 : World} {B gg cap g c : Nat} {sv : Value} {l : List (Int × List Int)} {hd : Int} {bs : List Int} {xs : List Value} (hs : SN W B sv.ownBlock.toList xs l) (hB : B ≤ W.heap.size)
    (ho : w1.ownsRow B 79 3 (.slice (some ⟨gg, 0, none⟩) (l.length + 1) cap) (l.length + 1) (xs ++ [.int .i64 hd, .slice (some ⟨g, 0, none⟩) bs.length c, .bool false])) (hgrow : W.grownBy w1 sv.ownBlock) (hat : sv.ownBlock = some gg ∨ gg = W.heap.size)
    (hg : B ≤ g) (hg1 : g < W.heap.size) (hg3 : sv.ownBlock ≠ some g) (hr : W.rangeAt g 0 (bv bs)) : WX w1 B (.slice (some ⟨gg, 0, none⟩) (l.length + 1) cap) (l ++ [(hd, bs)]) ∧ Kp sv.ownBlock.toList W w1 := by
  have k : Kp sv.ownBlock.toList W w1 := ⟨hgrow.os, hgrow.tape, hgrow.output, hgrow.size, fun i hi hn => hgrow.block i hi (fun e => hn (by rw [← e]; simp))⟩
  have hav : ∀ i, B ≤ i → i < W.heap.size → i ∈ (Value.slice (some ⟨gg, 0, none⟩) (l.length + 1) cap).ownBlock.toList → i ∈ sv.ownBlock.toList := by
    intro i _ hi hm
    simp only [Value.ownBlock, Option.toList_some, List.mem_cons, List.not_mem_nil, or_false] at hm
    subst hm
    rcases hat with e | e
    · rw [e]; simp
    · omega
  have hng : g ∉ sv.ownBlock.toList := by
    intro hm
    cases hsv : sv.ownBlock with
    | none => simp [hsv] at hm
    | some j => simp [hsv] at hm; exact hg3 (by rw [hsv, hm])
  refine ⟨⟨_, by simpa using ho, SN.snoc hg (Nat.lt_of_lt_of_le hg1 k.size) (fun hm => hng (hav g hg hg1 hm)) (fun j v hv => (k.cell (p := ⟨g, 0 + j, none⟩) hg1 hng).trans (hr j v hv)) (hs.kp k (fun i _ _ hm => hm) hav), Nat.le_trans hB k.size⟩, k⟩

theorem WX.got {w : World} {B gg c : Nat} {l : List (Int × List Int)} (h : WX w B (.slice (some ⟨gg, 0, none⟩) l.length c) l) : GotS w (.slice (some ⟨gg, 0, none⟩) l.length c) l := by
  obtain ⟨xs, ho, hs, _⟩ := h
  refine ⟨gg, c, xs, B, rfl, fun j v hv => ?_, hs.kp (Kp.refl [] w) (fun i _ _ hm => by simp at hm) (fun i _ _ hm => by simp at hm), ho.1⟩
  have hj : j < l.length * 3 := by
    rw [← ho.1]
    rcases Nat.lt_or_ge j xs.length with h | h
    · exact h
    · rw [List.getElem?_eq_none h] at hv
      cases hv
  rw [Nat.zero_add, ho.cellAt j hj]
  exact hv

theorem GotS.kp {w w' : World} {sv : Value} {l : List (Int × List Int)} (h : GotS w sv l) (k : Kp [] w w') : GotS w' sv l := by
  obtain ⟨gg, c, xs, B, rfl, hr, hs, hl⟩ := h
  refine ⟨gg, c, xs, B, rfl, fun j v hv => ?_, hs.kp k (fun i _ _ hm => by simp at hm) (fun i _ _ hm => hm), hl⟩
  have := hr j v hv
  exact (k.cell (lt_of_cell this) (by simp)).trans this

/-- THE OPERATION: one send appended. -/
theorem wpList_push {ops : Array Oper} {rest : List Oper} {o : Oper} {a : Act} {Q : Exit → Act → World → Prop} {W : World} {B : Nat} {sv : Value} {l : List (Int × List Int)} (hd : Int) (bs : List Int) (g k c sb c1 m : Nat) (hbk : bs.length = k) (hm : l.length + 1 = m) (hgd : o.guard = none) (s x : Operand)
    (ho : o.op = .call { callee := .builtin .append, args := #[s, x], argTypes := #[70, 70] }) (hv : a.eval s = sv) (hx : a.eval x = .slice (some ⟨sb, 0, none⟩) 1 c1) (hX : WX W B sv l) {t : TypeId} {fr : Nat × Nat} (hb : W.heap[sb]? = some (.cells #[.int .i64 hd, .slice (some ⟨g, 0, none⟩) k c, .bool false] t fr))
    (hl : l.length ≤ 4096) (hg : B ≤ g) (hg1 : g < W.heap.size) (hg3 : sv.ownBlock ≠ some g) (hr : W.rangeAt g 0 (bv bs))
    (h : ∀ gg cap w', WX w' B (.slice (some ⟨gg, 0, none⟩) m cap) (l ++ [(hd, bs)]) → Kp sv.ownBlock.toList W w' → (sv.ownBlock = some gg ∨ gg = W.heap.size) → wpList Ybad.prog ops Q rest (a.put o.dst (.slice (some ⟨gg, 0, none⟩) m cap)) w') : wpList Ybad.prog ops Q (o :: rest) a W := by
  subst hbk hm
  obtain ⟨i0, hi0, hz0, hz1, hz2⟩ := info_parts info79
  obtain ⟨xs, ho', hs, hB⟩ := hX
  refine wpList_append_lies W hgd s x 70 ho B 79 i0 _ 3 40 Ybad.underlying70 hi0 hz0 hz1 hz2 rfl (by omega) sv l.length xs hv ho' ⟨sb, 0, none⟩ 1 c1 [.int .i64 hd, .slice (some ⟨g, 0, none⟩) bs.length c, .bool false] hx rfl (World.news_of_block (cs := #[.int .i64 hd, .slice (some ⟨g, 0, none⟩) bs.length c, .bool false]) hb) (by simp [Value.oneCell']) (by omega) (by unfold maxLen; omega) (by omega) hB _ rfl ?_
  intro gg cap w' h1 h2 h3 _
  obtain ⟨r1, r2⟩ := WX.push hs hB h1 h2 h3 hg hg1 hg3 hr
  exact h gg cap w' r1 r2 h3

/-- A literal send, ahead of its append: the frame's block and the send's. -/
theorem lit_send (w : World) (hd c : Int) : Kp [] w ((w.alloc (.cells #[.int .u8 c] 5)).alloc (.cells #[.int .i64 hd, .slice (some ⟨w.heap.size, 0, none⟩) 1 1, .bool false] 79)) ∧
    ((w.alloc (.cells #[.int .u8 c] 5)).alloc (.cells #[.int .i64 hd, .slice (some ⟨w.heap.size, 0, none⟩) 1 1, .bool false] 79)).heap[w.heap.size + 1]? = some (.cells #[.int .i64 hd, .slice (some ⟨w.heap.size, 0, none⟩) 1 1, .bool false] 79 (0, 0)) ∧
    ((w.alloc (.cells #[.int .u8 c] 5)).alloc (.cells #[.int .i64 hd, .slice (some ⟨w.heap.size, 0, none⟩) 1 1, .bool false] 79)).rangeAt w.heap.size 0 (bv [c]) ∧
    ((w.alloc (.cells #[.int .u8 c] 5)).alloc (.cells #[.int .i64 hd, .slice (some ⟨w.heap.size, 0, none⟩) 1 1, .bool false] 79)).heap.size = w.heap.size + 1 + 1 := by
  refine ⟨((Kp.refl _ w).alloc _).alloc _, ?_, World.rangeAt_alloc (range_new w (bv [c]) 5) _, by simp⟩
  have := heap_alloc_new (w.alloc (.cells #[.int .u8 c] 5)) (.cells #[.int .i64 hd, .slice (some ⟨w.heap.size, 0, none⟩) 1 1, .bool false] 79)
  simpa using this

/-- A send whose frame was made ahead of it. -/
theorem made_send (w : World) (hd : Int) (g n c : Nat) : Kp [] w (w.alloc (.cells #[.int .i64 hd, .slice (some ⟨g, 0, none⟩) n c, .bool false] 79)) ∧
    (w.alloc (.cells #[.int .i64 hd, .slice (some ⟨g, 0, none⟩) n c, .bool false] 79)).heap[w.heap.size]? = some (.cells #[.int .i64 hd, .slice (some ⟨g, 0, none⟩) n c, .bool false] 79 (0, 0)) ∧
    (w.alloc (.cells #[.int .i64 hd, .slice (some ⟨g, 0, none⟩) n c, .bool false] 79)).heap.size = w.heap.size + 1 :=
  ⟨(Kp.refl _ w).alloc _, heap_alloc_new w _, by simp⟩
end Go.Proofs.YbulkdaeyDoor
