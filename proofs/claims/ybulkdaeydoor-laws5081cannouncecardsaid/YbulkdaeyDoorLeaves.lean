import Derived.Test.YbulkdaeyDoorSeen
/-
  slices.ContainsFunc over the names; slices.Contains over one link; the frames' methods; treeLink at the link 7.
-/
namespace Go.Proofs.YbulkdaeyDoor
open Go.RowKit Go.BigFrame

/-- A named message's cells: its identity and its hops. -/
def nmc (m h : Int) : List Value := idc m ++ [.int .i64 h]
theorem nmc_len (m h : Int) : (nmc m h).length = 34 := by simp [nmc, idc_len]
theorem nmc_hops (m h : Int) : (nmc m h)[33]? = some (.int .i64 h) := by
  unfold nmc
  rw [List.getElem?_append_right (by rw [idc_len]; omega)]
  simp [idc_len]
theorem size99 (n : Nat) (h : n = 34) : (Ybad.prog.info? 99).map (·.size) = some n := by subst h; kernel_rfl
theorem size99i (m h : Int) : (Ybad.prog.info? 99).map (·.size) = some (nmc m h).length := size99 _ (nmc_len m h)

/-- The names, one behind the other. -/
def NS (w : World) (nb : Nat) (ns : List (Int × Int)) : Prop := ∀ (i : Nat) (h : i < ns.length), w.rangeAt nb (i * 34) (nmc ns[i].1 ns[i].2)
theorem NS.kp {w w' : World} {nb : Nat} {ns : List (Int × Int)} (h : NS w nb ns) (k : Kp [] w w') : NS w' nb ns := fun i hi j v hv => by
  have := h i hi j v hv
  exact (k.cell (lt_of_cell this) (by simp)).trans this

/-- One of the names bears a hop count. -/
def AnyHop (ns : List (Int × Int)) : Prop := ∃ p ∈ ns, p.2 > 0

set_option maxHeartbeats 800000 in
theorem hopf_any (m h : Int) (w : World) : Calls Ybad.prog 29 #[.agg (nmc m h).toArray] w fun e w' => e = .returned (.bool (decide (h > 0))) ∧ Kp [] w w' := by
  have c := range_new w (nmc m h) 99 33 _ (nmc_hops m h)
  rw [Nat.zero_add] at c
  have K0 : Kp [] w (w.alloc (.cells (nmc m h).toArray 99)) := (Kp.refl _ w).alloc _
  go_enter Ybad.func29, Ybad.ntmps29
  go_wp2_with fail
  generalize w.alloc (.cells (nmc m h).toArray 99) = W at *
  go_wp2
  go_ret
  exact ⟨rfl, K0⟩

set_option maxRecDepth 20000 in
set_option maxHeartbeats 1600000 in
theorem indexf_any (nb n : Nat) (ns : List (Int × Int)) (w : World) (hn : ns.length = n) (hl : n ≤ 4096) (hN : NS w nb ns) :
    Calls Ybad.prog 42 #[.slice (some ⟨nb, 0, none⟩) n n, .func (.func 29) #[] #[]] w fun e w' => (∃ k : Int, e = .returned (.int .i64 k) ∧ ((0 ≤ k) ↔ AnyHop ns)) ∧ Kp [] w w' := by
  go_enter Ybad.func42, Ybad.ntmps42
  go_wp2
  go_loopw [8] (fun i wr => ∃ k : Nat, k ≤ n ∧ i = .int .i64 k ∧ Kp [] w wr ∧ ∀ (j : Nat) (hj : j < ns.length), j < k → ¬ ns[j].2 > 0) (fun i _ => n - (intOf i).toNat)
  case atStart => exact ⟨0, by omega, rfl, Kp.refl _ _, fun j _ h => by omega⟩
  case round =>
    obtain ⟨k, hk, rfl, K, hno⟩ := hrel
    by_cases hlt : k < n
    · have hr := (hN.kp K) k (by omega)
      have hlt' : (k : Int) < n := by omega
      have HN : Hid (∀ (j : Nat) (hj : j < ns.length), j < k → ¬ ns[j].2 > 0) := hno
      clear hno
      have hmem : ns[k] ∈ ns := List.getElem_mem _
      by_cases hp : ns[k].2 > 0
      · have hd : decide (ns[k].2 > 0) = true := by simpa using hp
        have HP : Hid (ns[k].2 > 0) := hp
        clear hp
        generalize hx : ns[k].1 = x at *
        generalize hy : ns[k].2 = y at *
        go_wp2_with (first
          | (refine wpList_load_mid rfl 99 _ rfl _ _ rfl (nmc x y) _ hr Ybad.underlying99 rfl (size99i _ _) ?_)
          | (go_at_call 29; refine (hopf_any x y _).mono ?_; rintro e w1 ⟨he, K1⟩; rw [hd] at he; subst he))
        go_ret
        refine ⟨⟨_, rfl, ?_⟩, K.trans K1⟩
        exact ⟨fun _ => ⟨_, hmem, by rw [hy]; exact HP⟩, fun _ => by omega⟩
      · have hd : decide (ns[k].2 > 0) = false := by simpa using hp
        have HP : Hid (¬ ns[k].2 > 0) := hp
        clear hp
        generalize hx : ns[k].1 = x at *
        generalize hy : ns[k].2 = y at *
        go_wp2_with (first
          | (refine wpList_load_mid rfl 99 _ rfl _ _ rfl (nmc x y) _ hr Ybad.underlying99 rfl (size99i _ _) ?_)
          | (go_at_call 29; refine (hopf_any x y _).mono ?_; rintro e w1 ⟨he, K1⟩; rw [hd] at he; subst he))
        go_roundw
        case rel =>
          refine ⟨k + 1, by omega, by go_num, K.trans K1, fun j hj hj1 => ?_⟩
          by_cases hjk : j = k
          · subst hjk; rw [hy]; have := HP.out; omega
          · have := HN.out j hj (by omega); omega
        case measure => simp [intOf]; omega
    · go_wp2
      go_ret
      refine ⟨⟨_, rfl, ?_⟩, K⟩
      constructor
      · intro h; simp at h
      · rintro ⟨p, hp, hp2⟩
        obtain ⟨j, hj, rfl⟩ := List.getElem_of_mem hp
        have := hno j hj (by omega)
        omega

set_option maxHeartbeats 800000 in
theorem containsf_any (nb n : Nat) (ns : List (Int × Int)) (w : World) (hn : ns.length = n) (hl : n ≤ 4096) (hN : NS w nb ns) (c : Bool) (hc : (c = true) ↔ AnyHop ns) :
    Calls Ybad.prog 28 #[.slice (some ⟨nb, 0, none⟩) n n, .func (.func 29) #[] #[]] w fun e w' => e = .returned (.bool c) ∧ Kp [] w w' := by
  go_enter Ybad.func28, Ybad.ntmps28
  go_wp2_with (first
    | (go_at_call 42; refine (indexf_any nb n ns _ hn hl hN).mono ?_; rintro e w1 ⟨⟨k, rfl, hk⟩, K1⟩))
  go_ret
  refine ⟨congrArg (fun b => Ending.returned (.bool b)) ?_, K1⟩
  cases c
  · have : ¬ 0 ≤ k := fun h => by have := hc.2 (hk.1 h); cases this
    simp; omega
  · simpa using hk.2 (hc.1 rfl)

/-- One link in a slice of its own: slices.Contains finds it. -/
theorem index_one (g c l : Nat) (w : World) (h : w.cell? ⟨g, 0, none⟩ = some (.pointer (some ⟨l, 0, none⟩))) :
    Calls Ybad.prog 62 #[.slice (some ⟨g, 0, none⟩) 1 c, .pointer (some ⟨l, 0, none⟩)] w fun e w' => e = .returned (.int .i64 0) ∧ w' = w := by
  have q := eql_ptr_same
  go_enter Ybad.func62, Ybad.ntmps62
  go_wp2
  go_loopw [8] (fun i wr => i = .int .i64 0 ∧ wr = w) (fun i _ => 1 - (intOf i).toNat)
  case atStart => exact ⟨rfl, rfl⟩
  case round =>
    obtain ⟨rfl, rfl⟩ := hrel
    go_wp2
    go_ret
    exact ⟨rfl, rfl⟩

set_option maxHeartbeats 800000 in
theorem contains_one (g c l : Nat) (w : World) (h : w.cell? ⟨g, 0, none⟩ = some (.pointer (some ⟨l, 0, none⟩))) :
    Calls Ybad.prog 44 #[.slice (some ⟨g, 0, none⟩) 1 c, .pointer (some ⟨l, 0, none⟩)] w fun e w' => e = .returned (.bool true) ∧ w' = w := by
  go_enter Ybad.func44, Ybad.ntmps44
  go_wp2_with (first
    | (go_at_call 62; refine (index_one g c l _ h).mono ?_; rintro e w1 ⟨rfl, rfl⟩))
  go_ret
  exact ⟨rfl, rfl⟩

set_option maxHeartbeats 800000 in
theorem keeps_some (lb : Nat) (a : Addr) (w : World) (h : w.cell? ⟨lb, 4, none⟩ = some (.pointer (some a))) : Calls Ybad.prog 27 #[.pointer (some ⟨lb, 0, none⟩)] w fun e w' => e = .returned (.bool true) ∧ w' = w := by
  have q : ∀ w, (binOp .neq 84 (.pointer (some a)) (.pointer none)).run Ybad.prog w = .ok (.bool true) w := fun w => by
    have h' : ∀ d : Nat, (Op.equalIn (d + 1) 84 (.pointer (some a)) (.pointer none)).run Ybad.prog w = .ok false w := fun d => by
      simp [Op.equalIn, run_underlying Ybad.underlying84]
    simp [binOp, Op.equal, Op.maxDepth, h' 9999]
  go_enter Ybad.func27, Ybad.ntmps27
  go_wp2
  go_ret
  exact ⟨rfl, rfl⟩

set_option maxHeartbeats 800000 in
theorem treeLink7 (tb mb lb : Nat) (w : World) (ht : w.cell? ⟨tb, 35, none⟩ = some (.map (some mb))) (hl : (Instr.lookup 37 (.map (some mb)) (.int .i64 7) false).run Ybad.prog w = .ok (.pointer (some ⟨lb, 0, none⟩)) w)
    (h1 : w.cell? ⟨lb, 1, none⟩ = some (.bool true)) :
    Calls Ybad.prog 17 #[.pointer (some ⟨tb, 0, none⟩), .int .i64 7] w fun e w' => e = .returned (.tuple #[.pointer (some ⟨lb, 0, none⟩), .nilIface]) ∧ w' = w := by
  go_enter Ybad.func17, Ybad.ntmps17
  go_wp2
  go_ret2
  exact ⟨rfl, rfl⟩

/-- Behind a frame's making: the new slice's block g, the count of calls. -/
structure FC (w w' : World) (fb g : Nat) (bs : List Int) (c : Int) : Prop where
  ge : w.heap.size ≤ g
  lt : g < w'.heap.size
  row : w'.rangeAt g 0 (bv bs)
  kp : Kp [fb] w w'
  cell : w'.cell? ⟨fb, 0, none⟩ = some (.int .i64 c)
  thaw : w'.frozen? ⟨fb, 0, none⟩ = false

theorem FC.new {w : World} {fb : Nat} {u : Value} (hc : w.cell? ⟨fb, 0, none⟩ = some u) (hf : w.frozen? ⟨fb, 0, none⟩ = false) (c : Int) (A : Obj) (bs : List Int) :
    FC w (((w.setCell ⟨fb, 0, none⟩ (.int .i64 c)).alloc A).alloc (.cells (bv bs).toArray 5)) fb (w.heap.size + 1) bs c := by
  have hb : fb < w.heap.size := lt_of_cell hc
  have hs : ((w.setCell ⟨fb, 0, none⟩ (.int .i64 c)).alloc A).heap.size = w.heap.size + 1 := by simp [World.setCell]
  have K : Kp [] (w.setCell ⟨fb, 0, none⟩ (.int .i64 c)) (((w.setCell ⟨fb, 0, none⟩ (.int .i64 c)).alloc A).alloc (.cells (bv bs).toArray 5)) := ((Kp.refl _ _).alloc _).alloc _
  have hb' : fb < (w.setCell ⟨fb, 0, none⟩ (.int .i64 c)).heap.size := by simpa [World.setCell] using hb
  have r := range_new ((w.setCell ⟨fb, 0, none⟩ (.int .i64 c)).alloc A) (bv bs) 5
  rw [hs] at r
  refine ⟨by omega, by simp [World.setCell], r, ((Kp.refl [fb] w).setCell (by simp) _).trans (K.mono (by simp)), ?_, ?_⟩
  · rw [K.cell (p := ⟨fb, 0, none⟩) hb' (by simp)]; exact World.cell?_setCell_same _ _ _ hc
  · rw [K.frozen (p := ⟨fb, 0, none⟩) hb' (by simp), World.frozen?_setCell]; exact hf

theorem idc_msg (m : Int) : (idc m)[32]? = some (.int .u64 m) := by
  unfold idc
  rw [List.getElem?_append_right (by rw [kcl_length, key1_len]; omega)]
  simp [kcl_length, key1_len]

set_option maxRecDepth 20000 in
set_option maxHeartbeats 800000 in
theorem announceM (fb : Nat) (m c : Int) (w : World) (h0 : 0 ≤ m) (h1 : m < 16) (hc : w.cell? ⟨fb, 0, none⟩ = some (.int .i64 c)) (hf : w.frozen? ⟨fb, 0, none⟩ = false) (hc0 : 0 ≤ c) (hc1 : c ≤ 4096) :
    Calls Ybad.prog 103 #[.pointer (some ⟨fb, 0, none⟩), .agg (idc m).toArray] w fun e w' => ∃ g cap, e = .returned (.slice (some ⟨g, 0, none⟩) 2 cap) ∧ FC w w' fb g [1, m] (c + 1) := by
  have hb : fb < w.heap.size := lt_of_cell hc
  have hm := idc_msg m
  have c3 := range_new w (idc m) 97 32 _ hm
  rw [Nat.zero_add] at c3
  have K0 : Kp [] w (w.alloc (.cells (idc m).toArray 97)) := (Kp.refl _ w).alloc _
  have hs : (w.alloc (.cells (idc m).toArray 97)).heap.size = w.heap.size + 1 := by simp
  have d0 := (K0.cell (p := ⟨fb, 0, none⟩) hb (by simp)).trans hc
  have e0 := (K0.frozen (p := ⟨fb, 0, none⟩) hb (by simp)).trans hf
  go_enter Ybad.func103, Ybad.ntmps103
  go_wp2_with fail
  have F := FC.new hc hf (c + 1) (.cells (idc m).toArray 97) [1, m]
  go_ret
  exact ⟨_, _, rfl, F⟩

set_option maxRecDepth 20000 in
set_option maxHeartbeats 800000 in
theorem hopAnnounceM (fb : Nat) (m c : Int) (w : World) (h0 : 0 ≤ m) (h1 : m < 16) (hc : w.cell? ⟨fb, 0, none⟩ = some (.int .i64 c)) (hf : w.frozen? ⟨fb, 0, none⟩ = false) (hc0 : 0 ≤ c) (hc1 : c ≤ 4096) :
    Calls Ybad.prog 106 #[.pointer (some ⟨fb, 0, none⟩), .agg (idc m).toArray, .int .i64 255] w fun e w' => ∃ g cap, e = .returned (.slice (some ⟨g, 0, none⟩) 3 cap) ∧ FC w w' fb g [2, m, 255] (c + 1) := by
  have hb : fb < w.heap.size := lt_of_cell hc
  have hm := idc_msg m
  have c3 := range_new w (idc m) 97 32 _ hm
  rw [Nat.zero_add] at c3
  have K0 : Kp [] w (w.alloc (.cells (idc m).toArray 97)) := (Kp.refl _ w).alloc _
  have hs : (w.alloc (.cells (idc m).toArray 97)).heap.size = w.heap.size + 1 := by simp
  have d0 := (K0.cell (p := ⟨fb, 0, none⟩) hb (by simp)).trans hc
  have e0 := (K0.frozen (p := ⟨fb, 0, none⟩) hb (by simp)).trans hf
  go_enter Ybad.func106, Ybad.ntmps106
  go_wp2_with fail
  have F := FC.new hc hf (c + 1) (.cells (idc m).toArray 97) [2, m, 255]
  go_ret
  exact ⟨_, _, rfl, F⟩

end Go.Proofs.YbulkdaeyDoor
