import Derived.Test.YbulkdaekDoorParse
import Derived.Lib.ItoaLen
import Derived.Lib.LaidTab
/-
  The walk of LawS5080BRoundTrip.
-/
namespace Go.Proofs.YbulkdaekDoor
open Go.RowKit

/-- The name of the table of powers of ten, off the row. -/
def powName : String := (Rows.lawS5080BRoundTripRow.laid.getD 2 ("", .nil)).1

theorem format_any (n : Int) (h0 : -9223372036854775808 ≤ n) (h1 : n ≤ 9223372036854775807) (w : World) (htab : Lib.TabIs Ybad.prog w powName .u64 Lib.pow10Tab) :
    Calls Ybad.prog 7 #[.int .i64 n, .int .i64 10] w fun e w' => e = .returned (.string ⟨(Lib.itoa n).toArray⟩) ∧ Below w.heap.size w w' := by
  refine (Any.strconv_FormatInt_10 Ybad.laysM173 n h0 h1 w htab).mono ?_
  rintro e w' ⟨rfl, k, os, rfl⟩
  refine ⟨rfl, rfl, rfl, rfl, ?_, fun j hj => ?_⟩
  · simp
  · exact Sort.heap_grow_old (w.drewN k) os hj

theorem cat_data (a : Array UInt8) (l : List UInt8) : ((⟨a⟩ : ByteArray) ++ (⟨l.toArray⟩ : ByteArray)).data.toList = a.toList ++ l := by
  simp [ByteArray.data_append]
theorem cat_size (a : Array UInt8) (l : List UInt8) : ((⟨a⟩ : ByteArray) ++ (⟨l.toArray⟩ : ByteArray)).size = a.size + l.length := by
  rw [ByteArray.size_append]
  show a.size + l.toArray.size = _
  simp

set_option maxHeartbeats 800000 in
theorem round_neg (n : Int) (h0 : -9223372036854775808 ≤ n) (h1 : n < 0) (w : World) (htab : Lib.TabIs Ybad.prog w powName .u64 Lib.pow10Tab) :
    Calls Ybad.prog 5 #[.int .i64 n] w fun e w' => e = .returned (.bool true) ∧ Below w.heap.size w w' := by
  have hlen := Lib.itoa_length_le n h0 (by omega)
  go_enter Ybad.func5, Ybad.ntmps5
  go_wp2_with (go_at_call 7; refine (format_any n h0 (by omega) _ htab).mono ?_; rintro e w1 ⟨rfl, hb1⟩)
  refine (integer_ok ⟨(Lib.itoa n).toArray⟩ ?_ n (by simpa using numOf_itoa n h0 (by omega)) w1.heap.size _ (by simp) (by simp)).mono ?_
  · show (Lib.itoa n).toArray.size ≤ _
    simp; omega
  rintro e w2 ⟨rfl, hb2⟩
  go_wp2
  go_ret
  exact ⟨rfl, (hb1.trans ((Below.refl _ _).alloc hb1.size _)).trans (hb2.mono (by have := hb1.size; simp; omega))⟩

set_option maxHeartbeats 800000 in
theorem round_nat (n : Int) (h0 : 0 ≤ n) (h1 : n ≤ 9223372036854775807) (w : World) (htab : Lib.TabIs Ybad.prog w powName .u64 Lib.pow10Tab) :
    Calls Ybad.prog 5 #[.int .i64 n] w fun e w' => e = .returned (.bool true) ∧ Below w.heap.size w w' := by
  have hlen := Lib.itoa_length_le n (by omega) (by omega)
  go_enter Ybad.func5, Ybad.ntmps5
  go_wp2_with (go_at_call 7; refine (format_any n (by omega) (by omega) _ htab).mono ?_; rintro e w1 ⟨rfl, hb1⟩)
  refine (integer_ok ⟨(Lib.itoa n).toArray⟩ ?_ n (by simpa using numOf_itoa n (by omega) (by omega)) w1.heap.size _ (by simp) (by simp)).mono ?_
  · show (Lib.itoa n).toArray.size ≤ _
    simp; omega
  rintro e w2 ⟨rfl, hb2⟩
  go_wp2_with fail
  refine (integer_ok (⟨#[43]⟩ ++ ⟨(Lib.itoa n).toArray⟩) ?_ n (by rw [cat_data]; exact numOf_plus n h0 h1) w2.heap.size _ (by simp) (by simp)).mono ?_
  · rw [cat_size]; simp; omega
  rintro e w3 ⟨rfl, hb3⟩
  go_wp2_with fail
  refine (integer_ok (⟨#[48, 48, 48]⟩ ++ ⟨(Lib.itoa n).toArray⟩) ?_ n (by rw [cat_data]; exact numOf_zeros n h0 h1) w3.heap.size _ (by simp) (by simp)).mono ?_
  · rw [cat_size]; simp; omega
  rintro e w4 ⟨rfl, hb4⟩
  go_wp2
  go_ret
  have s1 := hb1.size
  have s2 := hb2.size
  have s3 := hb3.size
  simp at s2 s3
  have b2 := (hb1.trans ((Below.refl _ _).alloc s1 _)).trans (hb2.mono (by simp; omega))
  have b3 := (b2.trans ((Below.refl _ _).alloc (by omega) _)).trans (hb3.mono (by simp; omega))
  exact ⟨rfl, (b3.trans ((Below.refl _ _).alloc (by omega) _)).trans (hb4.mono (by simp; omega))⟩

theorem round_any (n : Int) (h0 : -9223372036854775808 ≤ n) (h1 : n ≤ 9223372036854775807) (w : World) (htab : Lib.TabIs Ybad.prog w powName .u64 Lib.pow10Tab) :
    Calls Ybad.prog 5 #[.int .i64 n] w fun e w' => e = .returned (.bool true) ∧ Below w.heap.size w w' := by
  by_cases h : n < 0
  · exact round_neg n h0 h w htab
  · exact round_nat n (by omega) h1 w htab
end Go.Proofs.YbulkdaekDoor
