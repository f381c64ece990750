import Derived.Test.YbulkdaeyDoorLinks
import Derived.Deep.RegionHeld3
import Derived.LaidEqlPtr
/-
  The tree in memory; takeParent.
-/
namespace Go.Proofs.YbulkdaeyDoor
open Go.RowKit

/-- A block of cells, none of them frozen. -/
def Plain (w : World) (b : Nat) : Prop := ∃ ca ta, w.heap[b]? = some (.cells ca ta (0, 0))

theorem Plain.setCell {w : World} {b : Nat} (h : Plain w b) (p : Addr) (u : Value) : Plain (w.setCell p u) b := by
  obtain ⟨ca, ta, h⟩ := h
  by_cases e : b = p.block
  · subst e
    exact ⟨_, ta, by simp only [World.setCell, Array.getElem?_modify, if_pos, h]; rfl⟩
  · exact ⟨ca, ta, by rw [Below.heap_setCell _ _ _ _ e]; exact h⟩
theorem Plain.lt {w : World} {b : Nat} (h : Plain w b) : b < w.heap.size := by
  obtain ⟨ca, ta, h⟩ := h
  exact (Array.getElem?_eq_some_iff.1 h).1
theorem Plain.kp {w w' : World} {b : Nat} {L : List Nat} (h : Plain w b) (k : Kp L w w') (hb : b ∉ L) : Plain w' b := by
  have := h.lt
  obtain ⟨ca, ta, h⟩ := h
  exact ⟨ca, ta, (k.block b this hb).trans h⟩

theorem info87 : (Ybad.prog.info? 87).map (fun i => i.size) = some 7 := by kernel_rfl
theorem und24 : Ybad.prog.underlying 24 = some (.pointer 87) := by kernel_rfl

/-- Pointers to links, compared. -/
theorem equal_nil_l (w : World) (a : Addr) : (Op.equal 24 (.pointer none) (.pointer (some a))).run Ybad.prog w = .ok false w := by
  have h : ∀ d : Nat, (Op.equalIn (d + 1) 24 (.pointer none) (.pointer (some a))).run Ybad.prog w = .ok false w := fun d => by
    simp [Op.equalIn, run_underlying und24]
  simp [Op.equal, Op.maxDepth, h 9999]
theorem equal_ptr_same (w : World) (a : Addr) : (Op.equal 24 (.pointer (some a)) (.pointer (some a))).run Ybad.prog w = .ok true w := by
  obtain ⟨j, hj, _⟩ := Option.map_eq_some_iff.1 info87
  have h : ∀ d : Nat, (Op.equalIn (d + 1) 24 (.pointer (some a)) (.pointer (some a))).run Ybad.prog w = .ok true w := fun d => by
    simp [Op.equalIn, run_underlying und24, sizeOf, typeInfo, hj, run_sameAddr_same]
  simp [Op.equal, Op.maxDepth, h 9999]
theorem equal_ptr_other {w : World} {a b : Nat} (hne : a ≠ b) (ha : Plain w a) (hb : Plain w b) : (Op.equal 24 (.pointer (some ⟨a, 0, none⟩)) (.pointer (some ⟨b, 0, none⟩))).run Ybad.prog w = .ok false w := by
  obtain ⟨j, hj, hs⟩ := Option.map_eq_some_iff.1 info87
  obtain ⟨ca, ta, ha⟩ := ha
  obtain ⟨cb, tb, hb⟩ := hb
  have h : ∀ d : Nat, (Op.equalIn (d + 1) 24 (.pointer (some ⟨a, 0, none⟩)) (.pointer (some ⟨b, 0, none⟩))).run Ybad.prog w = .ok false w := fun d => by
    simp [Op.equalIn, run_underlying und24, sizeOf, typeInfo, hj, hs, run_sameAddr_other w (a := ⟨a, 0, none⟩) (b := ⟨b, 0, none⟩) (by simp) ha hb]
  simp [Op.equal, Op.maxDepth, h 9999]
theorem eql_nil_l (w : World) (a : Addr) : (binOp .eql 24 (.pointer none) (.pointer (some a))).run Ybad.prog w = .ok (.bool false) w := by simp [binOp, equal_nil_l]
theorem neq_nil_l (w : World) (a : Addr) : (binOp .neq 24 (.pointer none) (.pointer (some a))).run Ybad.prog w = .ok (.bool true) w := by simp [binOp, equal_nil_l]
theorem eql_ptr_same (w : World) (a : Addr) : (binOp .eql 24 (.pointer (some a)) (.pointer (some a))).run Ybad.prog w = .ok (.bool true) w := by simp [binOp, equal_ptr_same]
theorem neq_ptr_same (w : World) (a : Addr) : (binOp .neq 24 (.pointer (some a)) (.pointer (some a))).run Ybad.prog w = .ok (.bool false) w := by simp [binOp, equal_ptr_same]
theorem eql_ptr_other {w : World} {a b : Nat} (hne : a ≠ b) (ha : Plain w a) (hb : Plain w b) : (binOp .eql 24 (.pointer (some ⟨a, 0, none⟩)) (.pointer (some ⟨b, 0, none⟩))).run Ybad.prog w = .ok (.bool false) w := by simp [binOp, equal_ptr_other hne ha hb]
theorem neq_ptr_other {w : World} {a b : Nat} (hne : a ≠ b) (ha : Plain w a) (hb : Plain w b) : (binOp .neq 24 (.pointer (some ⟨a, 0, none⟩)) (.pointer (some ⟨b, 0, none⟩))).run Ybad.prog w = .ok (.bool true) w := by simp [binOp, equal_ptr_other hne ha hb]

/-- The tree's block tb, its two links l1 and l2: what the road looks at. -/
structure TW (w : World) (tb l1 l2 : Nat) (sk : List UInt8) (m : Int) (pv : Value) (z1 c1 z2 c2 : Bool) : Prop where
  key : w.rangeAt tb 0 (kcl sk)
  fr : w.cell? ⟨tb, 32, none⟩ = some (.iface 107 (.agg #[]))
  mu : w.cell? ⟨tb, 33, none⟩ = some (.int .i32 m)
  par : w.cell? ⟨tb, 37, none⟩ = some pv
  h1 : w.cell? ⟨l1, 0, none⟩ = some (.int .i64 1)
  lazy1 : w.cell? ⟨l1, 2, none⟩ = some (.bool z1)
  child1 : w.cell? ⟨l1, 3, none⟩ = some (.bool c1)
  h2 : w.cell? ⟨l2, 0, none⟩ = some (.int .i64 2)
  lazy2 : w.cell? ⟨l2, 2, none⟩ = some (.bool z2)
  child2 : w.cell? ⟨l2, 3, none⟩ = some (.bool c2)
  nbh2 : w.cell? ⟨l2, 4, none⟩ = some (.pointer none)
  ft : ∀ o, w.frozen? ⟨tb, o, none⟩ = false
  f1 : ∀ o, w.frozen? ⟨l1, o, none⟩ = false
  f2 : ∀ o, w.frozen? ⟨l2, o, none⟩ = false
  p1 : Plain w l1
  p2 : Plain w l2

theorem TW.kp {w w' : World} {tb l1 l2 : Nat} {sk : List UInt8} {m : Int} {pv : Value} {z1 c1 z2 c2 : Bool} {L : List Nat} (h : TW w tb l1 l2 sk m pv z1 c1 z2 c2) (k : Kp L w w') (ht : tb ∉ L) (h1 : l1 ∉ L) (h2 : l2 ∉ L) :
    TW w' tb l1 l2 sk m pv z1 c1 z2 c2 := by
  have bt : tb < w.heap.size := lt_of_cell h.fr
  have b1 : l1 < w.heap.size := lt_of_cell h.h1
  have b2 : l2 < w.heap.size := lt_of_cell h.h2
  exact ⟨fun j v hv => (k.cell bt ht).trans (h.key j v hv), (k.cell bt ht).trans h.fr, (k.cell bt ht).trans h.mu, (k.cell bt ht).trans h.par, (k.cell b1 h1).trans h.h1, (k.cell b1 h1).trans h.lazy1, (k.cell b1 h1).trans h.child1,
    (k.cell b2 h2).trans h.h2, (k.cell b2 h2).trans h.lazy2, (k.cell b2 h2).trans h.child2, (k.cell b2 h2).trans h.nbh2, fun o => (k.frozen bt ht).trans (h.ft o), fun o => (k.frozen b1 h1).trans (h.f1 o), fun o => (k.frozen b2 h2).trans (h.f2 o), h.p1.kp k h1, h.p2.kp k h2⟩

theorem TW.bel {w w' : World} {tb l1 l2 : Nat} {sk : List UInt8} {m : Int} {pv : Value} {z1 c1 z2 c2 : Bool} (h : TW w tb l1 l2 sk m pv z1 c1 z2 c2) (k : Below w.heap.size w w') : TW w' tb l1 l2 sk m pv z1 c1 z2 c2 :=
  h.kp (Kp.ofBelow k []) (by simp) (by simp) (by simp)

theorem cell_put {w : World} {p q : Addr} {v u : Value} (h : w.cell? q = some v) (hne : q ≠ p) : (w.setCell p u).cell? q = some v := by
  rw [World.cell?_setCell_other _ _ _ _ (fun e => hne e.symm)]; exact h

theorem TW.setPar {w : World} {tb l1 l2 : Nat} {sk : List UInt8} {m : Int} {pv : Value} {z1 c1 z2 c2 : Bool} (h : TW w tb l1 l2 sk m pv z1 c1 z2 c2) (hk : sk.length = 32) (pv' : Value) :
    TW (w.setCell ⟨tb, 37, none⟩ pv') tb l1 l2 sk m pv' z1 c1 z2 c2 := by
  refine ⟨fun j v hv => cell_put (h.key j v hv) ?_, cell_put h.fr (by simp), cell_put h.mu (by simp), World.cell?_setCell_same _ _ _ h.par, cell_put h.h1 (by simp), cell_put h.lazy1 (by simp), cell_put h.child1 (by simp),
    cell_put h.h2 (by simp), cell_put h.lazy2 (by simp), cell_put h.child2 (by simp), cell_put h.nbh2 (by simp), fun o => by simp [h.ft], fun o => by simp [h.f1], fun o => by simp [h.f2], h.p1.setCell _ _, h.p2.setCell _ _⟩
  have : j < 32 := by
    rcases Nat.lt_or_ge j (kcl sk).length with h | h
    · simpa [kcl_length, hk] using h
    · rw [List.getElem?_eq_none h] at hv
      cases hv
  simp
theorem TW.setMu {w : World} {tb l1 l2 : Nat} {sk : List UInt8} {m : Int} {pv : Value} {z1 c1 z2 c2 : Bool} (h : TW w tb l1 l2 sk m pv z1 c1 z2 c2) (hk : sk.length = 32) (m' : Int) :
    TW (w.setCell ⟨tb, 33, none⟩ (.int .i32 m')) tb l1 l2 sk m' pv z1 c1 z2 c2 := by
  refine ⟨fun j v hv => cell_put (h.key j v hv) ?_, cell_put h.fr (by simp), World.cell?_setCell_same _ _ _ h.mu, cell_put h.par (by simp), cell_put h.h1 (by simp), cell_put h.lazy1 (by simp), cell_put h.child1 (by simp),
    cell_put h.h2 (by simp), cell_put h.lazy2 (by simp), cell_put h.child2 (by simp), cell_put h.nbh2 (by simp), fun o => by simp [h.ft], fun o => by simp [h.f1], fun o => by simp [h.f2], h.p1.setCell _ _, h.p2.setCell _ _⟩
  have : j < 32 := by
    rcases Nat.lt_or_ge j (kcl sk).length with h | h
    · simpa [kcl_length, hk] using h
    · rw [List.getElem?_eq_none h] at hv
      cases hv
  simp
theorem TW.setLazy1 {w : World} {tb l1 l2 : Nat} {sk : List UInt8} {m : Int} {pv : Value} {z1 c1 z2 c2 : Bool} (h : TW w tb l1 l2 sk m pv z1 c1 z2 c2) (n1 : tb ≠ l1) (n2 : l2 ≠ l1) (z : Bool) :
    TW (w.setCell ⟨l1, 2, none⟩ (.bool z)) tb l1 l2 sk m pv z c1 z2 c2 :=
  ⟨fun j v hv => cell_put (h.key j v hv) (by simp), cell_put h.fr (by simp), cell_put h.mu (by simp), cell_put h.par (by simp), cell_put h.h1 (by simp), World.cell?_setCell_same _ _ _ h.lazy1, cell_put h.child1 (by simp),
    cell_put h.h2 (by simp), cell_put h.lazy2 (by simp), cell_put h.child2 (by simp), cell_put h.nbh2 (by simp), fun o => by simp [h.ft], fun o => by simp [h.f1], fun o => by simp [h.f2], h.p1.setCell _ _, h.p2.setCell _ _⟩
theorem TW.setLazy2 {w : World} {tb l1 l2 : Nat} {sk : List UInt8} {m : Int} {pv : Value} {z1 c1 z2 c2 : Bool} (h : TW w tb l1 l2 sk m pv z1 c1 z2 c2) (n1 : tb ≠ l2) (n2 : l1 ≠ l2) (z : Bool) :
    TW (w.setCell ⟨l2, 2, none⟩ (.bool z)) tb l1 l2 sk m pv z1 c1 z c2 :=
  ⟨fun j v hv => cell_put (h.key j v hv) (by simp), cell_put h.fr (by simp), cell_put h.mu (by simp), cell_put h.par (by simp), cell_put h.h1 (by simp), cell_put h.lazy1 (by simp), cell_put h.child1 (by simp),
    cell_put h.h2 (by simp), World.cell?_setCell_same _ _ _ h.lazy2, cell_put h.child2 (by simp), cell_put h.nbh2 (by simp), fun o => by simp [h.ft], fun o => by simp [h.f1], fun o => by simp [h.f2], h.p1.setCell _ _, h.p2.setCell _ _⟩
theorem TW.setChild2 {w : World} {tb l1 l2 : Nat} {sk : List UInt8} {m : Int} {pv : Value} {z1 c1 z2 c2 : Bool} (h : TW w tb l1 l2 sk m pv z1 c1 z2 c2) (n1 : tb ≠ l2) (n2 : l1 ≠ l2) (z : Bool) :
    TW (w.setCell ⟨l2, 3, none⟩ (.bool z)) tb l1 l2 sk m pv z1 c1 z2 z :=
  ⟨fun j v hv => cell_put (h.key j v hv) (by simp), cell_put h.fr (by simp), cell_put h.mu (by simp), cell_put h.par (by simp), cell_put h.h1 (by simp), cell_put h.lazy1 (by simp), cell_put h.child1 (by simp),
    cell_put h.h2 (by simp), cell_put h.lazy2 (by simp), World.cell?_setCell_same _ _ _ h.child2, cell_put h.nbh2 (by simp), fun o => by simp [h.ft], fun o => by simp [h.f1], fun o => by simp [h.f2], h.p1.setCell _ _, h.p2.setCell _ _⟩

/-- The sends in an outbox's cells: each the link's handle and the frame's bytes; the frames' blocks are none of 'av'. -/
def SN (w : World) (B : Nat) (av : List Nat) : List Value → List (Int × List Int) → Prop
  | [], [] => True
  | a :: b :: c :: xs, (k, bs) :: l => (a = .int .i64 k ∧ (∃ g cap, b = .slice (some ⟨g, 0, none⟩) bs.length cap ∧ B ≤ g ∧ g < w.heap.size ∧ g ∉ av ∧ w.rangeAt g 0 (bv bs)) ∧ c = .bool false) ∧ SN w B av xs l
  | _, _ => False

theorem SN.kp {w w' : World} {B : Nat} {av av' L : List Nat} (k : Kp L w w') (hL : ∀ i, B ≤ i → i < w.heap.size → i ∈ L → i ∈ av) (ha : ∀ i, B ≤ i → i < w.heap.size → i ∈ av' → i ∈ av) : ∀ {xs : List Value} {l : List (Int × List Int)}, SN w B av xs l → SN w' B av' xs l
  | [], [], _ => trivial
  | _ :: _ :: _ :: _, _ :: _, ⟨⟨h1, ⟨g, cap, h2, h3, h4, h5, h6⟩, h7⟩, h8⟩ =>
    ⟨⟨h1, ⟨g, cap, h2, h3, Nat.lt_of_lt_of_le h4 k.size, fun e => h5 (ha g h3 h4 e), fun i v hv => (k.cell h4 (fun e => h5 (hL g h3 h4 e))).trans (h6 i v hv)⟩, h7⟩, SN.kp k hL ha h8⟩

theorem SN.snoc {w : World} {B : Nat} {av : List Nat} {k : Int} {bs : List Int} {g cap : Nat} (h3 : B ≤ g) (h4 : g < w.heap.size) (h5 : g ∉ av) (h6 : w.rangeAt g 0 (bv bs)) : ∀ {xs : List Value} {l : List (Int × List Int)}, SN w B av xs l →
    SN w B av (xs ++ [.int .i64 k, .slice (some ⟨g, 0, none⟩) bs.length cap, .bool false]) (l ++ [(k, bs)])
  | [], [], _ => ⟨⟨rfl, ⟨g, cap, rfl, h3, h4, h5, h6⟩, rfl⟩, trivial⟩
  | _ :: _ :: _ :: _, _ :: _, ⟨h, h'⟩ => ⟨h, SN.snoc h3 h4 h5 h6 h'⟩


theorem ownsRow_of_block {w w' : World} {B : Nat} {e : TypeId} {size : Nat} {v : Value} {n : Nat} {xs : List Value} (h : w.ownsRow B e size v n xs) (hb : ∀ k, v.ownBlock = some k → w'.heap[k]? = w.heap[k]?) : w'.ownsRow B e size v n xs := by
  obtain ⟨h0, h1 | ⟨g, cap, cur, rfl, h2, h3, h4⟩⟩ := h
  · exact ⟨h0, .inl h1⟩
  · exact ⟨h0, .inr ⟨g, cap, cur, rfl, h2, (hb g rfl).trans h3, h4⟩⟩

/-- An outbox with the sends l in it. -/
def BX (w : World) (ob B : Nat) (sv : Value) (l : List (Int × List Int)) : Prop := ∃ xs, OB w ob B sv l.length xs ∧ SN w B (ob :: sv.ownBlock.toList) xs l

theorem BX.kp {w w' : World} {ob B : Nat} {sv : Value} {l : List (Int × List Int)} {L : List Nat} (h : BX w ob B sv l) (hB : B ≤ ob) (k : Kp L w w') (hL : ∀ i ∈ L, i < B) : BX w' ob B sv l := by
  obtain ⟨xs, ⟨h1, h2, h3, h4, h5⟩, hs⟩ := h
  have hob : ob < w.heap.size := lt_of_cell h1
  have hn : ob ∉ L := fun e => by have := hL ob e; omega
  refine ⟨xs, ⟨(k.cell hob hn).trans h1, (k.frozen hob hn).trans h2, ownsRow_of_block h3 (fun i hi => ?_), h4, Nat.le_trans h5 k.size⟩, ?_⟩
  · have := h3.lt i hi
    exact k.block i this.2 (fun e => by have := hL i e; omega)
  · exact hs.kp k (fun i hi _ hm => by have := hL i hm; omega) (fun i _ _ hm => hm)

theorem send_bx (ob lb B : Nat) (sv : Value) (hd : Int) (g cap n : Nat) (bs : List Int) (l : List (Int × List Int)) (w : World) (h : BX w ob B sv l) (hB : B ≤ ob) (hl : w.cell? ⟨lb, 0, none⟩ = some (.int .i64 hd)) (hn : l.length ≤ 4096)
    (hbs : bs.length = n) (hg : B ≤ g) (hg1 : g < w.heap.size) (hg2 : g ≠ ob) (hg3 : sv.ownBlock ≠ some g) (hr : w.rangeAt g 0 (bv bs)) :
    Calls Ybad.prog 21 #[.pointer (some ⟨ob, 0, none⟩), .pointer (some ⟨lb, 0, none⟩), .slice (some ⟨g, 0, none⟩) n cap] w fun e w' => e = .returned (.tuple #[]) ∧
      ∃ sv', BX w' ob B sv' (l ++ [(hd, bs)]) ∧ Kp (ob :: sv.ownBlock.toList) w w' ∧ (sv'.ownBlock = sv.ownBlock ∨ ∃ k, sv'.ownBlock = some k ∧ w.heap.size ≤ k) ∧ ∃ gg c, sv' = .slice (some ⟨gg, 0, none⟩) (l.length + 1) c := by
  subst hbs
  obtain ⟨xs, ho, hs⟩ := h
  refine (send_any ob lb B l.length sv hd (some ⟨g, 0, none⟩) bs.length cap xs w ho hl hn).mono ?_
  rintro e w' ⟨rfl, gg, c, h1, h2, h3⟩
  refine ⟨rfl, .slice (some ⟨gg, 0, none⟩) (l.length + 1) c, ⟨_, by simpa using h1, ?_⟩, h2, ?_, gg, c, rfl⟩
  · have hav : ∀ i, B ≤ i → i < w.heap.size → i ∈ (ob :: ((Value.slice (some ⟨gg, 0, none⟩) (l.length + 1) c).ownBlock).toList) → i ∈ ob :: sv.ownBlock.toList := by
      intro i _ hi hm
      simp only [Value.ownBlock, Option.toList_some, List.mem_cons, List.not_mem_nil, or_false] at hm
      rcases hm with rfl | rfl
      · exact List.mem_cons_self
      · rcases h3 with e | e
        · rw [e]; simp
        · omega
    refine SN.snoc hg (Nat.lt_of_lt_of_le hg1 h2.size) ?_ ?_ (hs.kp h2 (fun i _ _ hm => hm) hav)
    · intro hm
      have := hav g hg hg1 hm
      simp [hg2] at this
      cases hsv : sv.ownBlock with
      | none => simp [hsv] at this
      | some k => simp [hsv] at this; exact hg3 (by rw [hsv, this])
    · intro j v hv
      refine (h2.cell hg1 ?_).trans (hr j v hv)
      intro hm
      simp [hg2] at hm
      cases hsv : sv.ownBlock with
      | none => simp [hsv] at hm
      | some k => simp [hsv] at hm; exact hg3 (by rw [hsv, hm])
  · rcases h3 with e | e
    · exact .inl (by rw [e]; rfl)
    · exact .inr ⟨gg, rfl, by omega⟩

end Go.Proofs.YbulkdaeyDoor
