import Derived.Test.YbulkdaeyDoorKeys
import Derived.Deep.AppendLies
import Derived.OwnWalk
import Derived.Lib.Hide
/-
  zzs5081aprobe: a new slice of 41 bytes.
-/
namespace Go.Proofs.YbulkdaeyDoor
open Go.RowKit

theorem info5 : (Ybad.prog.info? 5).map (fun i => (i.zero, i.size, i.bytes)) = some (some (.int .u8 0), 1, 1) := by kernel_rfl

/-- In the midst of zzs5081aprobe: the slice b holds xs; the key's box stands. -/
structure PI (w wr : World) (k : List UInt8) (b : Value) (n : Nat) (xs : List Value) : Prop where
  own : wr.ownsRow w.heap.size 5 1 b n xs
  key : wr.rangeAt w.heap.size 0 (kcl k)
  bel : Below w.heap.size w wr
  ne : b.ownBlock ≠ some w.heap.size
  lt : w.heap.size < wr.heap.size

theorem PI.make {w w1 : World} {k : List UInt8} {n : Nat} (ho : w1.ownsRow w.heap.size 5 1 (.slice (some ⟨(w.alloc (.cells (kcl k).toArray 27)).heap.size, 0, none⟩) 0 n) 0 []) (hg : (w.alloc (.cells (kcl k).toArray 27)).grownBy w1 none) :
    PI w w1 k (.slice (some ⟨w.heap.size + 1, 0, none⟩) 0 n) 0 [] := by
  rw [show (w.alloc (.cells (kcl k).toArray 27)).heap.size = w.heap.size + 1 by simp] at ho
  refine ⟨ho, fun j v hv => ?_, ((Below.refl _ _).alloc (Nat.le_refl _) _).grown hg (by simp) (fun k e => by cases e), by simp [Value.ownBlock], by have := hg.size; simp at this; omega⟩
  exact hg.cell (range_new w (kcl k) 27 j v hv) (by simp)

theorem PI.push {w wr w' : World} {k : List UInt8} {b : Value} {n m cap g : Nat} {xs news : List Value} (h : PI w wr k b n xs) (o : Obj)
    (ho : w'.ownsRow w.heap.size 5 1 (.slice (some ⟨g, 0, none⟩) (n + m) cap) (n + m) (xs ++ news)) (hg : (wr.alloc o).grownBy w' b.ownBlock) (hat : b.ownBlock = some g ∨ g = wr.heap.size + 1) :
    PI w w' k (.slice (some ⟨g, 0, none⟩) (n + m) cap) (n + m) (xs ++ news) := by
  have hl := h.lt
  refine ⟨ho, fun j v hv => ?_, (h.bel.alloc h.bel.size _).grown hg (by have := h.bel.size; simp; omega) (fun k e => ((h.own.alloc o).lt k e).1), ?_, by have := hg.size; simp at this; omega⟩
  · exact hg.cell (World.rangeAt_alloc h.key o j v hv) (fun e => h.ne e.symm)
  · rcases hat with e | e
    · simp only [Value.ownBlock]
      intro e'
      exact h.ne (by rw [e, ← e'])
    · simp only [Value.ownBlock]
      intro e'
      have := Option.some.inj e'
      omega

theorem PI.push0 {w wr w' : World} {k : List UInt8} {b : Value} {n m cap g : Nat} {xs news : List Value} (h : PI w wr k b n xs)
    (ho : w'.ownsRow w.heap.size 5 1 (.slice (some ⟨g, 0, none⟩) (n + m) cap) (n + m) (xs ++ news)) (hg : wr.grownBy w' b.ownBlock) (hat : b.ownBlock = some g ∨ g = wr.heap.size) :
    PI w w' k (.slice (some ⟨g, 0, none⟩) (n + m) cap) (n + m) (xs ++ news) := by
  have hl := h.lt
  refine ⟨ho, fun j v hv => ?_, h.bel.grown hg h.bel.size (fun k e => (h.own.lt k e).1), ?_, by have := hg.size; omega⟩
  · exact hg.cell (h.key j v hv) (fun e => h.ne e.symm)
  · rcases hat with e | e
    · simp only [Value.ownBlock]
      intro e'
      exact h.ne (by rw [e, ← e'])
    · simp only [Value.ownBlock]
      intro e'
      have := Option.some.inj e'
      omega

/-- The hop count's j-th byte. -/
def hopB (h : Int) (j : Nat) : Int := IntKind.u64.wrap h / 2 ^ (8 * j) % 256
/-- The probe frame's bytes, j of its hop count's. -/
def pbs (k : List UInt8) (h : Int) (j : Nat) : List Int := (82 : Int) :: (k.map fun c => (c.toNat : Int)) ++ (List.range j).map (hopB h)
/-- Numbers as byte cells. -/
def bv (xs : List Int) : List Value := xs.map (Value.int .u8)

theorem pbs_zero (k : List UInt8) (h : Int) : bv (pbs k h 0) = [.int .u8 82] ++ kcl k := by
  simp [bv, pbs, kcl, Extern.Stop.cell]
theorem pbs_succ (k : List UInt8) (h : Int) (j : Nat) : bv (pbs k h (j + 1)) = bv (pbs k h j) ++ [.int .u8 (IntKind.u64.wrap h / 2 ^ (8 * j) % 256)] := by
  simp [bv, pbs, List.range_succ, hopB]
theorem pbs_length (k : List UInt8) (h : Int) (j : Nat) (hk : k.length = 32) : (pbs k h j).length = 33 + j := by
  simp [pbs, hk]
  omega

set_option maxHeartbeats 800000 in
theorem probe_any (k : List UInt8) (h : Int) (w : World) (hk : k.length = 32) :
    Calls Ybad.prog 9 #[.agg (kcl k).toArray, .int .i64 h] w fun e w' => ∃ g cap, e = .returned (.slice (some ⟨g, 0, none⟩) 41 cap) ∧ w'.ownsRow w.heap.size 5 1 (.slice (some ⟨g, 0, none⟩) 41 cap) 41 (bv (pbs k h 8)) ∧ Below w.heap.size w w' := by
  obtain ⟨i0, hi, hzz⟩ := Option.map_eq_some_iff.1 info5
  simp only [Prod.mk.injEq] at hzz
  obtain ⟨hz0, hz1, hz2⟩ := hzz
  go_enter Ybad.func9, Ybad.ntmps9
  go_wp2_with (at_make; refine wpList_make_own _ rfl _ _ 77 rfl w.heap.size 5 i0 (.int .u8 0) 1 Ybad.underlying77 hi hz0 hz1 .i64 .i64 41 41 rfl rfl rfl (by rw [hz2]; decide) (by unfold maxLen; decide) (by simp) ?_; intro w1 hown1 hgrow1; refine Hid.out ?_)
  refine Lib.hid ?_
  have P1 := PI.make hown1 hgrow1
  clear hown1 hgrow1
  -- append(b, 'R')
  go_wp2_with (at_builtin; refine wpList_append_lies _ rfl _ _ 77 rfl w.heap.size 5 i0 (.int .u8 0) 1 1 Ybad.underlying77 hi hz0 hz1 hz2 rfl (by omega) _ 0 [] (by rfl) (P1.own.alloc _) ⟨w1.heap.size, 0, none⟩ 1 1 [.int .u8 82] (by rfl) rfl (cell_one_new _ _ _) (by simp [Value.oneCell']) (by omega) (by unfold maxLen; omega) (by omega) (by have := P1.bel.size; simp; omega) (w1.heap.size + 1) (by simp) ?_; intro g2 cap2 w2 ho2 hg2 hat2 hlt2; refine Hid.out ?_)
  refine Lib.hid ?_
  have P2 := P1.push _ ho2 hg2 hat2
  clear P1 ho2 hg2 hat2
  simp only [Nat.zero_add, List.nil_append] at P2
  -- append(b, low[:]...)
  go_wp2_with (at_builtin; refine wpList_append_lies _ rfl _ _ 77 rfl w.heap.size 5 i0 (.int .u8 0) 1 1 Ybad.underlying77 hi hz0 hz1 hz2 rfl (by omega) _ 1 [.int .u8 82] (by rfl) P2.own ⟨w.heap.size, 0, none⟩ 32 32 (kcl k) (by rfl) (by rw [kcl_length, hk]) (fun j u hu => by rw [Addr.add_mid]; exact P2.key j u hu) (kcl_one k) (by omega) (by unfold maxLen; omega) (by omega) P2.bel.size w2.heap.size rfl ?_; intro g3 cap3 w3 ho3 hg3 hat3 hlt3; refine Hid.out ?_)
  refine Lib.hid ?_
  have P3 := P2.push0 ho3 hg3 hat3
  clear P2 ho3 hg3 hat3
  go_wp2
  go_loopw [5, 7] (fun sl i wr => ∃ (j g cap : Nat), j ≤ 8 ∧ i = .int .i64 j ∧ sl = .slice (some ⟨g, 0, none⟩) (33 + j) cap ∧ PI w wr k (.slice (some ⟨g, 0, none⟩) (33 + j) cap) (33 + j) (bv (pbs k h j))) (fun _ i _ => 8 - (intOf i).toNat)
  case atStart => exact ⟨0, g3, cap3, by omega, rfl, rfl, by rw [pbs_zero]; exact P3⟩
  case round =>
    obtain ⟨j, g, cap, hj, rfl, rfl, P⟩ := hrel
    by_cases hlt : j < 8
    · have hj0 : (j : Int) < 8 := by omega
      go_wp2_with (at_builtin; refine wpList_append_lies _ rfl _ _ 77 rfl w.heap.size 5 i0 (.int .u8 0) 1 1 Ybad.underlying77 hi hz0 hz1 hz2 rfl (by omega) _ (33 + j) _ (by rfl) (P.own.alloc _) ⟨wr.heap.size, 0, none⟩ 1 1 [_] (by rfl) rfl (cell_one_new _ _ _) (by simp [Value.oneCell']) (by omega) (by unfold maxLen; omega) (by omega) (by have := P.bel.size; simp; omega) (wr.heap.size + 1) (by simp) ?_; intro g2 cap2 w2 ho2 hg2 hat2 hlt2; refine Hid.out ?_)
      refine Lib.hid ?_
      have P' := P.push _ ho2 hg2 hat2
      rw [← pbs_succ] at P'
      clear P ho2 hg2 hat2
      go_wp2
      go_roundw
      case rel => exact ⟨j + 1, g2, cap2, by omega, by go_num, rfl, P'⟩
      case measure => simp [intOf]; omega
    · obtain rfl : j = 8 := by omega
      go_wp2
      go_ret
      exact ⟨g, cap, rfl, P.own, P.bel⟩
end Go.Proofs.YbulkdaeyDoor
