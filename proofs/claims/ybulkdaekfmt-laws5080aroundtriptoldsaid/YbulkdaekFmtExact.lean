import Derived.Test.YbulkdaekFmtParts
/-
  The walk of LawS5080AExact.
-/
namespace Go.Proofs.YbulkdaekFmt
open Go.RowKit Go.Extern.Stop Go.Stop Go.Extern
theorem below_drewN {B : Nat} {a w : World} (h : Below B a w) (n : Nat) : Below B a (w.drewN n) := h.trans ⟨rfl, rfl, rfl, Nat.le_refl _, fun _ _ => rfl⟩

theorem conv_back (w : World) (s : ByteArray) (cap n : Nat) :
    (convert 23 9 (.slice (some ⟨w.heap.size, 0, none⟩) s.size cap)).run Ybaf.prog ((Lib.bytesWorld w 5 s).drewN n) = .ok (.string s) ((Lib.bytesWorld w 5 s).drewN n) := by
  have h := run_convert_bytes_back (P := Ybaf.prog) ((Lib.bytesWorld w 5 s).drewN n) 23 9 5 ⟨w.heap.size, 0, none⟩ cap s.data.toList Ybaf.underlying23 Ybaf.underlying5 Ybaf.underlying9
    (fun j hj => by
      have hj' : j < s.size := by simpa using hj
      have := Lib.bytesWorld_cell w 5 s j hj'
      have e : (⟨w.heap.size, 0, none⟩ : Addr).add j = ⟨w.heap.size, j, none⟩ := by unfold Addr.add; split <;> simp_all
      rw [e]
      simp [this, List.getElem?_eq_getElem hj])
  simpa using h

set_option maxHeartbeats 800000 in
theorem exact_zero (F : Interp) (w : World) (hF : F.answers w.tape) :
    Calls Ybaf.prog 3 #[.int .u8 0] w fun e w' => e = .returned (.bool true) ∧ Below w.heap.size w w' := by
  have hsn := fun w l c => Lib.run_eql_slice_nil (P := Ybaf.prog) w 23 5 none l c 0 0 Ybaf.underlying23
  go_enter Ybaf.func3, Ybaf.ntmps3
  go_wp2_with (go_at_call 5; refine (marshal_zero F _ (by exact hF)).mono ?_; rintro e w' ⟨⟨u, x, rfl⟩, hb⟩)
  go_ret
  exact ⟨rfl, hb⟩
set_option maxHeartbeats 800000 in
theorem exact_big (F : Interp) (t : Int) (a : Addr) (w : World) (hF : F.answers w.tape) (h0 : 20 < t) (h1 : t ≤ 255) (hg : w.cell? ⟨0, 0, none⟩ = some (.slice (some a) 21 21)) :
    Calls Ybaf.prog 3 #[.int .u8 t] w fun e w' => e = .returned (.bool true) ∧ Below w.heap.size w w' := by
  have hsn := fun w l c => Lib.run_eql_slice_nil (P := Ybaf.prog) w 23 5 none l c 0 0 Ybaf.underlying23
  have hz : (t == 0) = false := beq_eq_false_iff_ne.2 (by omega)
  go_enter Ybaf.func3, Ybaf.ntmps3
  go_wp2_with (go_at_call 5; refine (marshal_big F t a _ (by exact hF) h0 h1 (by exact hg)).mono ?_; rintro e w' ⟨⟨u, x, rfl⟩, hb⟩)
  go_ret
  exact ⟨rfl, hb⟩
set_option maxHeartbeats 800000 in
theorem exact_ok (t : Nat) (b o : Nat) (w : World) (h0 : 0 < t) (h1 : t ≤ 20) (hg : w.cell? ⟨0, 0, none⟩ = some (.slice (some ⟨b, o, none⟩) 21 21))
    (hc : w.cell? ⟨b, o + t, none⟩ = some (.string (nm t))) :
    Calls Ybaf.prog 3 #[.int .u8 t] w fun e w' => e = .returned (.bool true) ∧ Below w.heap.size w w' := by
  have hz : ((t : Int) == 0) = false := beq_eq_false_iff_ne.2 (by omega)
  have hlt : (t : Int) ≤ 20 := by omega
  have hcv := conv_back w (nm t)
  go_enter Ybaf.func3, Ybaf.ntmps3
  go_wp2_with (go_at_call 5; refine (marshal_ok t b o (nm t) _ h0 h1 hg hc).mono ?_; rintro e w' ⟨cap, rfl, rfl⟩)
  go_quiet ((go_at_call 6; exact Calls.quiet_of_same (name_any t _ h0 h1)))
  go_wp2
  go_ret
  exact ⟨rfl, below_drewN (Lib.bytesWorld_below w 5 (nm t)) _⟩
end Go.Proofs.YbulkdaekFmt
