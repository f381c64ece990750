import Derived.Test.YbulkdaeyDoorPresent
import Derived.Laws.Tables
/-
  New.
-/
namespace Go.Proofs.YbulkdaeyDoor
open Go.RowKit

theorem built69_raw (c0 c1 c2 c3 c4 c5 c6 c7 c8 c9 c10 c11 c12 c13 c14 c15 c16 c17 c18 c19 c20 c21 c22 c23 c24 c25 c26 c27 c28 c29 c30 c31 f : Value) (ma mb : Nat) : (Ybad.prog.built 69 [(0, .agg #[c0, c1, c2, c3, c4, c5, c6, c7, c8, c9, c10, c11, c12, c13, c14, c15, c16, c17, c18, c19, c20, c21, c22, c23, c24, c25, c26, c27, c28, c29, c30, c31]), (1, .iface 107 f), (3, .map (some ma)), (4, .map (some mb))]).map (fun S => (S.toList.take 32, S[32]?, S[33]?, S[35]?, S[36]?, S[37]?)) =
    some ([c0, c1, c2, c3, c4, c5, c6, c7, c8, c9, c10, c11, c12, c13, c14, c15, c16, c17, c18, c19, c20, c21, c22, c23, c24, c25, c26, c27, c28, c29, c30, c31], some (.iface 107 f), some (.int .i32 0), some (.map (some ma)), some (.map (some mb)), some (.pointer none)) := by kernel_rfl

theorem list32 {α : Type} (l : List α) (h : l.length = 32) : ∃ c0 c1 c2 c3 c4 c5 c6 c7 c8 c9 c10 c11 c12 c13 c14 c15 c16 c17 c18 c19 c20 c21 c22 c23 c24 c25 c26 c27 c28 c29 c30 c31, l = [c0, c1, c2, c3, c4, c5, c6, c7, c8, c9, c10, c11, c12, c13, c14, c15, c16, c17, c18, c19, c20, c21, c22, c23, c24, c25, c26, c27, c28, c29, c30, c31] := by
  match l, h with
  | [c0, c1, c2, c3, c4, c5, c6, c7, c8, c9, c10, c11, c12, c13, c14, c15, c16, c17, c18, c19, c20, c21, c22, c23, c24, c25, c26, c27, c28, c29, c30, c31], _ => exact ⟨c0, c1, c2, c3, c4, c5, c6, c7, c8, c9, c10, c11, c12, c13, c14, c15, c16, c17, c18, c19, c20, c21, c22, c23, c24, c25, c26, c27, c28, c29, c30, c31, rfl⟩

/-- What is known of a new tree's cells. -/
structure NewS (k : List UInt8) (ma : Nat) (S : Array Value) : Prop where
  key : S.toList.take 32 = kcl k
  fr : S[32]? = some (.iface 107 (.agg #[]))
  mu : S[33]? = some (.int .i32 0)
  links : S[35]? = some (.map (some ma))
  par : S[37]? = some (.pointer none)

theorem built69 (k : List UInt8) (hk : k.length = 32) (ma mb : Nat) : ∃ S, Ybad.prog.built 69 [(0, .agg (kcl k).toArray), (1, .iface 107 (.agg #[])), (3, .map (some ma)), (4, .map (some mb))] = some S ∧ NewS k ma S := by
  obtain ⟨c0, c1, c2, c3, c4, c5, c6, c7, c8, c9, c10, c11, c12, c13, c14, c15, c16, c17, c18, c19, c20, c21, c22, c23, c24, c25, c26, c27, c28, c29, c30, c31, e⟩ := list32 (kcl k) (by rw [kcl_length, hk])
  obtain ⟨S, hS, h⟩ := Option.map_eq_some_iff.1 (built69_raw c0 c1 c2 c3 c4 c5 c6 c7 c8 c9 c10 c11 c12 c13 c14 c15 c16 c17 c18 c19 c20 c21 c22 c23 c24 c25 c26 c27 c28 c29 c30 c31 (.agg #[]) ma mb)
  simp only [Prod.mk.injEq] at h
  obtain ⟨h1, h2, h3, h4, _, h6⟩ := h
  exact ⟨S, by rw [e]; exact hS, by rw [h1, e], h2, h3, h4, h6⟩

theorem wpList_build {ops : Array Oper} {rest : List Oper} {op : Oper} {a : Act} {w : World} {Q : Exit → Act → World → Prop} (hgd : op.guard = none) (t : TypeId) (parts : Array (Nat × Operand)) (ho : op.op = .build t parts)
    (vs : Array (Nat × Value)) (hv : (parts.map fun (i, x) => (i, a.eval x)) = vs) (S : Array Value) (hS : Ybad.prog.built t vs.toList = some S)
    (h : wpList Ybad.prog ops Q rest (a.put op.dst (.agg S)) w) : wpList Ybad.prog ops Q (op :: rest) a w :=
  wpList_plain hgd fun _ hK => by
    unfold Oper.wp execOp
    simp only [ho, hv, Sem.run_bind, run_build (P := Ybad.prog) w t vs S hS, Result.andThen_ok, Sem.run_pure]
    exact hK _ _ h

set_option maxRecDepth 20000 in
set_option maxHeartbeats 800000 in
theorem new_any (k : List UInt8) (hk : k.length = 32) (w : World) (S : Array Value) (hS : Ybad.prog.built 69 [(0, .agg (kcl k).toArray), (1, .iface 107 (.agg #[])), (3, .map (some (w.heap.size + 1))), (4, .map (some (w.heap.size + 1 + 1)))] = some S) :
    Calls Ybad.prog 14 #[.agg (kcl k).toArray, .iface 107 (.agg #[])] w fun e w' => e = .returned (.pointer (some ⟨w.heap.size + 1 + 1 + 1, 0, none⟩)) ∧
      w' = (((w.alloc (.cells (kcl k).toArray 27)).alloc (.map #[] 0)).alloc (.map #[] 0)).alloc (.cells S 69) := by
  have r1 := range_new w (kcl k) 27
  have hm := @run_makeMap Ybad.prog
  go_enter Ybad.func14, Ybad.ntmps14
  go_wp2_with (first
    | (refine wpList_load_mid rfl 27 _ rfl _ _ rfl (kcl k) _ (by exact r1) Ybad.underlying27 rfl (size_key hk) ?_)
    | (refine wpList_build rfl 69 _ rfl #[(0, .agg (kcl k).toArray), (1, .iface 107 (.agg #[])), (3, .map (some (w.heap.size + 1))), (4, .map (some (w.heap.size + 1 + 1)))] (by go_simp) S hS ?_))
  go_ret
  exact ⟨rfl, rfl⟩
end Go.Proofs.YbulkdaeyDoor
