import Derived.Test.YbulkdaekDoorParse
/-
  The walk of zzs5080bmodel.
-/
namespace Go.Proofs.YbulkdaekDoor
open Go.RowKit

/-- How the model's function answers. -/
def mval : Option Int → Value
  | some v => .tuple #[.int .i64 v, .bool true]
  | none => .tuple #[.int .i64 0, .bool false]

theorem ret_none {o : Option Int} (h : o = none) : Ending.returned (.tuple #[.int .i64 0, .bool false]) = Ending.returned (mval o) := by rw [h]; rfl
theorem ret_some {o : Option Int} {v x : Int} (h : o = some v) (hx : x = v) : Ending.returned (.tuple #[.int .i64 x, .bool true]) = Ending.returned (mval o) := by rw [h, hx]; rfl

theorem byteL (s : ByteArray) (k : Nat) (h : k < s.size) : k < s.data.toList.length ∧ ∀ h', s.data.toList[k]'h' = s[k] := ⟨by simpa using h, fun _ => rfl⟩

theorem neg_end {a : Int} (h0 : 0 ≤ a) (h1 : a ≤ 9223372036854775808) : wrap64 (-wrap64 a) = sgn true a.toNat := by
  simp only [sgn, if_true]
  unfold wrap64
  omega
theorem pos_end {a : Int} (h0 : 0 ≤ a) : a = sgn false a.toNat := by
  simp only [sgn, Bool.false_eq_true, if_false]
  omega

theorem bad_at {neg : Bool} {s : ByteArray} {k : Nat} {a : Int} (H : Inv neg s.data.toList k a) (h : k < s.size) (hc : (s[k].toNat : Int) < 48 ∨ 57 < (s[k].toNat : Int)) : numOf s.data.toList = none := by
  obtain ⟨hl, he⟩ := byteL s k h
  exact H.bad hl (by rw [he hl]; omega)
theorem over_at {neg : Bool} {s : ByteArray} {k : Nat} {a : Int} (H : Inv neg s.data.toList k a) (h : k < s.size) (h1 : 48 ≤ (s[k].toNat : Int)) (h2 : (s[k].toNat : Int) ≤ 57) (ho : (lim neg : Int) < a * 10 + ((s[k].toNat : Int) - 48)) : numOf s.data.toList = none := by
  obtain ⟨hl, he⟩ := byteL s k h
  exact H.over hl (by rw [he hl]; omega) (by rw [he hl]; exact ho)
theorem step_at {neg : Bool} {s : ByteArray} {k : Nat} {a : Int} (H : Inv neg s.data.toList k a) (h : k < s.size) (h1 : 48 ≤ (s[k].toNat : Int)) (h2 : (s[k].toNat : Int) ≤ 57) (ho : a * 10 + ((s[k].toNat : Int) - 48) ≤ (lim neg : Int)) : Inv neg s.data.toList (k + 1) (a * 10 + ((s[k].toNat : Int) - 48)) := by
  obtain ⟨hl, he⟩ := byteL s k h
  exact H.step hl (by rw [he hl]; omega) (by rw [he hl]) ho
theorem done_at {neg : Bool} {s : ByteArray} {k : Nat} {a : Int} (H : Inv neg s.data.toList k a) (h : ¬ k < s.size) : numOf s.data.toList = some (sgn neg a.toNat) := by
  have hl : s.data.toList.length = s.size := by simp
  exact H.done (by omega)

theorem start_minus (s : ByteArray) (h1 : 1 < s.size) (hc : (s[0].toNat : Int) = 45) : Inv true s.data.toList 1 0 := by
  have h0 : 0 < s.size := by omega
  have hl := (byteL s 1 h1).1
  exact Inv.minus hl (by rw [(byteL s 0 h0).2]; omega)
theorem start_plus (s : ByteArray) (h1 : 1 < s.size) (hc : (s[0].toNat : Int) = 43) : Inv false s.data.toList 1 0 := by
  have h0 : 0 < s.size := by omega
  have hl := (byteL s 1 h1).1
  exact Inv.plus hl (by rw [(byteL s 0 h0).2]; omega)
theorem start_plain (s : ByteArray) (h0 : 0 < s.size) (hc : (s[0].toNat : Int) ≠ 43) (hd : (s[0].toNat : Int) ≠ 45) : Inv false s.data.toList 0 0 := by
  have hl := (byteL s 0 h0).1
  exact Inv.plain hl (by rw [(byteL s 0 h0).2]; omega) (by rw [(byteL s 0 h0).2]; omega)

set_option maxHeartbeats 400000 in
theorem model_empty (s : ByteArray) (hs : s.size = 0) (w : World) :
    Calls Ybad.prog 9 #[.string s] w fun e w' => e = .returned (mval (numOf s.data.toList)) ∧ w' = w := by
  have hn : numOf s.data.toList = none := numOf_nil (by simpa using hs)
  have HN : Hid (numOf s.data.toList = none) := hn
  clear hn
  go_enter Ybad.func9, Ybad.ntmps9
  go_wp2
  go_ret2
  exact ⟨ret_none HN.out, rfl⟩

set_option maxHeartbeats 400000 in
theorem model_sign (s : ByteArray) (hs : s.size = 1) (hc : (s[0].toNat : Int) = 43 ∨ (s[0].toNat : Int) = 45) (w : World) :
    Calls Ybad.prog 9 #[.string s] w fun e w' => e = .returned (mval (numOf s.data.toList)) ∧ w' = w := by
  have h0 : 0 < s.size := by omega
  have hn : numOf s.data.toList = none := numOf_sign (by simpa using hs) (by rw [(byteL s 0 h0).2]; omega)
  have HN : Hid (numOf s.data.toList = none) := hn
  clear hn
  rcases hc with hc | hc
  all_goals
    go_enter Ybad.func9, Ybad.ntmps9
    go_wp2
    go_ret2
    exact ⟨ret_none HN.out, rfl⟩

set_option maxHeartbeats 400000 in
theorem model_minus (s : ByteArray) (hs : s.size ≤ 4096) (h1 : 1 < s.size) (hc : (s[0].toNat : Int) = 45) (w : World) :
    Calls Ybad.prog 9 #[.string s] w fun e w' => e = .returned (mval (numOf s.data.toList)) ∧ w' = w := by
  have hz : ((s.size : Int) == 0) = false := beq_eq_false_iff_ne.2 (by omega)
  have hz1 : ((1 : Int) == (s.size : Int)) = false := beq_eq_false_iff_ne.2 (by omega)
  have h0 : 0 < s.size := by omega
  have HS : Hid (Inv true s.data.toList 1 0) := start_minus s h1 hc
  go_enter Ybad.func9, Ybad.ntmps9
  go_wp2
  go_loop [5, 7] (fun i acc => ∃ (k : Nat) (a : Int), k ≤ s.size ∧ i = .int .i64 k ∧ acc = .int .u64 a ∧ Inv true s.data.toList k a) (fun i _ => s.size - (intOf i).toNat)
  case atStart => exact ⟨1, 0, by omega, rfl, rfl, HS.out⟩
  case round =>
    obtain ⟨k, a, hk, rfl, rfl, hI⟩ := hrel
    have ha0 := hI.lo
    have ha1 : a ≤ 9223372036854775808 := hI.hi
    by_cases hlt : k < s.size
    · by_cases hd : 48 ≤ (s[k].toNat : Int) ∧ (s[k].toNat : Int) ≤ 57
      · obtain ⟨hd1, hd2⟩ := hd
        by_cases ho : (9223372036854775808 - ((s[k].toNat : Int) - 48)) / 10 < a
        · have HN : Hid (numOf s.data.toList = none) := over_at hI hlt hd1 hd2 (by show (9223372036854775808 : Int) < _; omega)
          go_wp2
          go_ret2
          exact ⟨ret_none HN.out, rfl⟩
        · have HI : Hid (Inv true s.data.toList (k + 1) (a * 10 + ((s[k].toNat : Int) - 48))) := step_at hI hlt hd1 hd2 (by show _ ≤ (9223372036854775808 : Int); omega)
          go_wp2
          go_round
          case rel => exact ⟨k + 1, _, by omega, by go_num, rfl, HI.out⟩
          case measure => simp [intOf]; omega
      · have hd' : (s[k].toNat : Int) < 48 ∨ 57 < (s[k].toNat : Int) := by omega
        have HN : Hid (numOf s.data.toList = none) := bad_at hI hlt hd'
        clear hd
        rcases hd' with hd | hd
        all_goals
          go_wp2
          go_ret2
          exact ⟨ret_none HN.out, rfl⟩
    · have HN : Hid (numOf s.data.toList = some (sgn true a.toNat)) := done_at hI hlt
      go_wp2
      go_ret2
      exact ⟨ret_some HN.out (neg_end ha0 ha1), rfl⟩

set_option maxHeartbeats 400000 in
theorem model_plus (s : ByteArray) (hs : s.size ≤ 4096) (h1 : 1 < s.size) (hc : (s[0].toNat : Int) = 43) (w : World) :
    Calls Ybad.prog 9 #[.string s] w fun e w' => e = .returned (mval (numOf s.data.toList)) ∧ w' = w := by
  have hz : ((s.size : Int) == 0) = false := beq_eq_false_iff_ne.2 (by omega)
  have hz1 : ((1 : Int) == (s.size : Int)) = false := beq_eq_false_iff_ne.2 (by omega)
  have h0 : 0 < s.size := by omega
  have HS : Hid (Inv false s.data.toList 1 0) := start_plus s h1 hc
  go_enter Ybad.func9, Ybad.ntmps9
  go_wp2
  go_loop [5, 7] (fun i acc => ∃ (k : Nat) (a : Int), k ≤ s.size ∧ i = .int .i64 k ∧ acc = .int .u64 a ∧ Inv false s.data.toList k a) (fun i _ => s.size - (intOf i).toNat)
  case atStart => exact ⟨1, 0, by omega, rfl, rfl, HS.out⟩
  case round =>
    obtain ⟨k, a, hk, rfl, rfl, hI⟩ := hrel
    have ha0 := hI.lo
    have ha1 : a ≤ 9223372036854775807 := hI.hi
    by_cases hlt : k < s.size
    · by_cases hd : 48 ≤ (s[k].toNat : Int) ∧ (s[k].toNat : Int) ≤ 57
      · obtain ⟨hd1, hd2⟩ := hd
        by_cases ho : (9223372036854775807 - ((s[k].toNat : Int) - 48)) / 10 < a
        · have HN : Hid (numOf s.data.toList = none) := over_at hI hlt hd1 hd2 (by show (9223372036854775807 : Int) < _; omega)
          go_wp2
          go_ret2
          exact ⟨ret_none HN.out, rfl⟩
        · have HI : Hid (Inv false s.data.toList (k + 1) (a * 10 + ((s[k].toNat : Int) - 48))) := step_at hI hlt hd1 hd2 (by show _ ≤ (9223372036854775807 : Int); omega)
          go_wp2
          go_round
          case rel => exact ⟨k + 1, _, by omega, by go_num, rfl, HI.out⟩
          case measure => simp [intOf]; omega
      · have hd' : (s[k].toNat : Int) < 48 ∨ 57 < (s[k].toNat : Int) := by omega
        have HN : Hid (numOf s.data.toList = none) := bad_at hI hlt hd'
        clear hd
        rcases hd' with hd | hd
        all_goals
          go_wp2
          go_ret2
          exact ⟨ret_none HN.out, rfl⟩
    · have HN : Hid (numOf s.data.toList = some (sgn false a.toNat)) := done_at hI hlt
      go_wp2
      go_ret2
      exact ⟨ret_some HN.out (pos_end ha0), rfl⟩

set_option maxHeartbeats 400000 in
theorem model_plain (s : ByteArray) (hs : s.size ≤ 4096) (h0 : 0 < s.size) (hc : (s[0].toNat : Int) ≠ 43) (hd : (s[0].toNat : Int) ≠ 45) (w : World) :
    Calls Ybad.prog 9 #[.string s] w fun e w' => e = .returned (mval (numOf s.data.toList)) ∧ w' = w := by
  have hz : ((s.size : Int) == 0) = false := beq_eq_false_iff_ne.2 (by omega)
  have hz0 : ((0 : Int) == (s.size : Int)) = false := beq_eq_false_iff_ne.2 (by omega)
  have hc1 : ((s[0].toNat : Int) == 43) = false := beq_eq_false_iff_ne.2 hc
  have hd1 : ((s[0].toNat : Int) == 45) = false := beq_eq_false_iff_ne.2 hd
  have HS : Hid (Inv false s.data.toList 0 0) := start_plain s h0 hc hd
  clear hc hd
  go_enter Ybad.func9, Ybad.ntmps9
  go_wp2
  go_loop [5, 7] (fun i acc => ∃ (k : Nat) (a : Int), k ≤ s.size ∧ i = .int .i64 k ∧ acc = .int .u64 a ∧ Inv false s.data.toList k a) (fun i _ => s.size - (intOf i).toNat)
  case atStart => exact ⟨0, 0, by omega, rfl, rfl, HS.out⟩
  case round =>
    obtain ⟨k, a, hk, rfl, rfl, hI⟩ := hrel
    have ha0 := hI.lo
    have ha1 : a ≤ 9223372036854775807 := hI.hi
    by_cases hlt : k < s.size
    · by_cases hd : 48 ≤ (s[k].toNat : Int) ∧ (s[k].toNat : Int) ≤ 57
      · obtain ⟨hd1, hd2⟩ := hd
        by_cases ho : (9223372036854775807 - ((s[k].toNat : Int) - 48)) / 10 < a
        · have HN : Hid (numOf s.data.toList = none) := over_at hI hlt hd1 hd2 (by show (9223372036854775807 : Int) < _; omega)
          go_wp2
          go_ret2
          exact ⟨ret_none HN.out, rfl⟩
        · have HI : Hid (Inv false s.data.toList (k + 1) (a * 10 + ((s[k].toNat : Int) - 48))) := step_at hI hlt hd1 hd2 (by show _ ≤ (9223372036854775807 : Int); omega)
          go_wp2
          go_round
          case rel => exact ⟨k + 1, _, by omega, by go_num, rfl, HI.out⟩
          case measure => simp [intOf]; omega
      · have hd' : (s[k].toNat : Int) < 48 ∨ 57 < (s[k].toNat : Int) := by omega
        have HN : Hid (numOf s.data.toList = none) := bad_at hI hlt hd'
        clear hd
        rcases hd' with hd | hd
        all_goals
          go_wp2
          go_ret2
          exact ⟨ret_none HN.out, rfl⟩
    · have HN : Hid (numOf s.data.toList = some (sgn false a.toNat)) := done_at hI hlt
      go_wp2
      go_ret2
      exact ⟨ret_some HN.out (pos_end ha0), rfl⟩

/-- zzs5080bmodel at every text of at most 4096 bytes. -/
theorem model_any (s : ByteArray) (hs : s.size ≤ 4096) (w : World) :
    Calls Ybad.prog 9 #[.string s] w fun e w' => e = .returned (mval (numOf s.data.toList)) ∧ w' = w := by
  by_cases h0 : s.size = 0
  · exact model_empty s h0 w
  · have hp : 0 < s.size := by omega
    by_cases hm : (s[0].toNat : Int) = 45
    · by_cases h1 : s.size = 1
      · exact model_sign s h1 (Or.inr hm) w
      · exact model_minus s hs (by omega) hm w
    · by_cases hq : (s[0].toNat : Int) = 43
      · by_cases h1 : s.size = 1
        · exact model_sign s h1 (Or.inl hq) w
        · exact model_plus s hs (by omega) hq w
      · exact model_plain s hs hp hq hm w
end Go.Proofs.YbulkdaekDoor
