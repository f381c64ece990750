import Derived.Test.YbulkdaekFmtExact
/-
  The walk of UnmarshalText and of LawS5080ARoundTrip.
-/
namespace Go.Proofs.YbulkdaekFmt
open Go.RowKit Go.Extern.Stop Go.Stop Go.Extern

theorem nm_ne_fin : ∀ k : Fin 21, ∀ i : Fin 21, i.val < k.val → ((nm i.val).toList == (nm k.val).toList) = false := by decide +kernel
theorem nm_full_fin : ∀ k : Fin 21, 0 < k.val → (nm k.val).toList.isEmpty = false := by decide +kernel
theorem nm_ne {i k : Nat} (hk : k ≤ 20) (h : i < k) : ((nm i).toList == (nm k).toList) = false := nm_ne_fin ⟨k, by omega⟩ ⟨i, by omega⟩ h
theorem nm_full {k : Nat} (hk : k ≤ 20) (h : 0 < k) : (nm k).toList.isEmpty = false := nm_full_fin ⟨k, by omega⟩ h
theorem nm_zero : (nm 0).toList.isEmpty = true := by decide +kernel

theorem lt_of_cell {w : World} {a : Addr} {v : Value} (h : w.cell? a = some v) : a.block < w.heap.size := by
  rcases Nat.lt_or_ge a.block w.heap.size with h1 | h1
  · exact h1
  · simp [World.cell?, Array.getElem?_eq_none h1] at h

theorem conv_at (W : World) (s : ByteArray) (q cap : Nat) (hcell : ∀ j, j < s.size → W.cell? ⟨q, j, none⟩ = some (.int .u8 (s.data.toList.getD j 0).toNat)) :
    (convert 23 9 (.slice (some ⟨q, 0, none⟩) s.size cap)).run Ybaf.prog W = .ok (.string s) W := by
  have h := run_convert_bytes_back (P := Ybaf.prog) W 23 9 5 ⟨q, 0, none⟩ cap s.data.toList Ybaf.underlying23 Ybaf.underlying5 Ybaf.underlying9
    (fun j hj => by
      have hj' : j < s.size := by simpa using hj
      have := hcell j hj'
      have e : (⟨q, 0, none⟩ : Addr).add j = ⟨q, j, none⟩ := by unfold Addr.add; split <;> simp_all
      rw [e]
      simp [this, List.getElem?_eq_getElem hj])
  simpa using h

set_option maxHeartbeats 800000 in
theorem unmarshal_ok (k b o pb q cap : Nat) (old : Int) (w : World) (h0 : 0 < k) (h1 : k ≤ 20) (hg : w.cell? ⟨0, 0, none⟩ = some (.slice (some ⟨b, o, none⟩) 21 21))
    (hc : ∀ i, i ≤ 20 → w.cell? ⟨b, o + i, none⟩ = some (.string (nm i))) (hp : w.cell? ⟨pb, 0, none⟩ = some (.int .u8 old)) (hf : w.frozen? ⟨pb, 0, none⟩ = false)
    (hcv : (convert 23 9 (.slice (some ⟨q, 0, none⟩) (nm k).size cap)).run Ybaf.prog w = .ok (.string (nm k)) w) :
    Calls Ybaf.prog 7 #[.pointer (some ⟨pb, 0, none⟩), .slice (some ⟨q, 0, none⟩) (nm k).size cap] w fun e w' => e = .returned .nilIface ∧ w' = w.setCell ⟨pb, 0, none⟩ (.int .u8 k) := by
  go_enter Ybaf.func7, Ybaf.ntmps7
  go_wp2
  go_loop [9] (fun i => ∃ n : Nat, n ≤ k ∧ i = .int .i64 n) (fun i => 21 - (intOf i).toNat)
  case atStart => exact ⟨0, Nat.zero_le _, rfl⟩
  case round =>
    obtain ⟨n, hn, rfl⟩ := hrel
    have hcn := hc n (by omega)
    have hlt : (n : Int) < 21 := by omega
    by_cases hk : n = k
    · subst hk
      have hE := nm_full h1 h0
      go_wp2
      go_ret
      exact ⟨rfl, rfl⟩
    · by_cases hz : n = 0
      · have hE : (nm n).toList.isEmpty = true := by rw [hz]; exact nm_zero
        clear hz
        go_wp2
        go_round
        case rel => exact ⟨n + 1, by omega, by go_num⟩
        case measure => simp [intOf]; omega
      · have hE := nm_full (k := n) (by omega) (by omega)
        have hN := nm_ne h1 (show n < k by omega)
        clear hz
        go_wp2
        go_round
        case rel => exact ⟨n + 1, by omega, by go_num⟩
        case measure => simp [intOf]; omega

set_option maxHeartbeats 800000 in
theorem round_any (t : Int) (b o : Nat) (w : World) (h0 : 0 ≤ t) (h1 : t ≤ 255) (hg : w.cell? ⟨0, 0, none⟩ = some (.slice (some ⟨b, o, none⟩) 21 21))
    (hc : ∀ i, i ≤ 20 → w.cell? ⟨b, o + i, none⟩ = some (.string (nm i))) :
    Calls Ybaf.prog 4 #[.int .u8 t] w fun e w' => e = .returned (.bool true) ∧ Below w.heap.size w w' := by
  go_enter Ybaf.func4, Ybaf.ntmps4
  go_wp2_with fail
  obtain ⟨k, hk⟩ : ∃ k : Nat, 1 + t % 20 = (k : Int) := ⟨(1 + t % 20).toNat, by omega⟩
  rw [hk]
  have hk0 : 0 < k := by omega
  have hk1 : k ≤ 20 := by omega
  clear hk
  have hck := hc k hk1
  refine (marshal_ok k b o (nm k) w hk0 hk1 hg hck).mono ?_
  rintro e w' ⟨cap, rfl, rfl⟩
  go_wp2_with fail
  have hsz := Lib.bytesWorld_size w 5 (nm k)
  have hbel := Lib.bytesWorld_below w 5 (nm k)
  have hcells := Lib.bytesWorld_cell w 5 (nm k)
  generalize Lib.bytesWorld w 5 (nm k) = W1 at *
  have h0w := lt_of_cell hg
  have hbw := lt_of_cell hck
  have A := (hbel.trans ((Below.refl w.heap.size W1).alloc (by omega) (.cells #[.int .u8 0] 22)))
  refine (unmarshal_ok k b o W1.heap.size w.heap.size cap 0 _ hk0 hk1 (by rw [A.cell (p := ⟨0, 0, none⟩) h0w]; exact hg) (fun i hi => by rw [A.cell (p := ⟨b, o + i, none⟩) hbw]; exact hc i hi) (by simp) (by simp) ?_).mono ?_
  · refine conv_at _ (nm k) w.heap.size cap (fun j hj => ?_)
    rw [((Below.refl W1.heap.size W1).alloc (Nat.le_refl _) (.cells #[.int .u8 0] 22)).cell (p := ⟨w.heap.size, j, none⟩) (by show w.heap.size < _; omega)]
    exact hcells j hj
  · rintro e w' ⟨rfl, rfl⟩
    go_wp2
    go_ret
    exact ⟨rfl, hbel.trans ((Below.refl w.heap.size W1).alloc (by omega) _)⟩
end Go.Proofs.YbulkdaekFmt
