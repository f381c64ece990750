import Derived.Test.YbulkdaeyDoorState
import Derived.DeepKeys3
/-
  Maps keyed by a message's identity; maps keyed by a link.
-/
namespace Go.Proofs.YbulkdaeyDoor
open Go.RowKit Go.WideMaps

theorem keyLaw97 : KeyLaw Ybad.prog 97 := deep_law (m := 3) (by omega) (by kernel_rfl) (by kernel_rfl) (by kernel_rfl)
theorem keyLaw27 : KeyLaw Ybad.prog 27 := deep_law (m := 3) (by omega) (by kernel_rfl) (by kernel_rfl) (by kernel_rfl)

/-- The one sender's key. -/
def key1 : List UInt8 := 1 :: List.replicate 31 0
theorem key1_len : key1.length = 32 := by rfl
/-- A message's identity: its cells. -/
def idc (m : Int) : List Value := kcl key1 ++ [.int .u64 m]
theorem idc_len (m : Int) : (idc m).length = 33 := by simp [idc, kcl_length, key1_len]
theorem idc_inj {a b : Int} (h : Value.agg (idc a).toArray = .agg (idc b).toArray) : a = b := by
  have h1 : idc a = idc b := by simpa using h
  have h2 := List.append_cancel_left h1
  simpa using h2

theorem keyOf_id (m : Int) (h0 : 0 ≤ m) (h1 : m < 16) : ∃ l, keyOf Ybad.prog 97 (.agg (idc m).toArray) = some l := by
  have h : ((List.range 16).all fun n => (keyOf Ybad.prog 97 (.agg (idc (n : Int)).toArray)).isSome) = true := by kernel_rfl
  have := List.all_eq_true.1 h m.toNat (by simp; omega)
  rw [show ((m.toNat : Nat) : Int) = m by omega] at this
  exact Option.isSome_iff_exists.1 this
theorem keyOf_key1 : ∃ l, keyOf Ybad.prog 27 (.agg (kcl key1).toArray) = some l := by
  have h : (keyOf Ybad.prog 27 (.agg (kcl key1).toArray)).isSome = true := by kernel_rfl
  exact Option.isSome_iff_exists.1 h

/-- A world in which the block b holds o. -/
def mset (w : World) (b : Nat) (o : Obj) : World := { w with heap := w.heap.setIfInBounds b o }
theorem mset_same {w : World} {b : Nat} {o o' : Obj} (h : w.heap[b]? = some o) : (mset w b o').heap[b]? = some o' := (MapKept.heap_set h).1
theorem mset_far {w : World} {mb b : Nat} {o : Obj} (h : b ≠ mb) : (mset w mb o).heap[b]? = w.heap[b]? := by simp [mset, Ne.symm h]
theorem mset_kp (w : World) (b : Nat) (o : Obj) : Kp [b] w (mset w b o) := ⟨rfl, rfl, rfl, by simp [mset], fun k _ hn => mset_far (by simpa using hn)⟩

/-- The block b is a map of identities: n entries, what each is mapped to. -/
def MF (w : World) (b n : Nat) (f : Int → Option Value) : Prop := ∃ es c, w.heap[b]? = some (.map es c) ∧ es.size = n ∧
  (∀ x ∈ es.toList, ∃ m, 0 ≤ m ∧ m < 16 ∧ x.key = .agg (idc m).toArray ∧ f m = some x.val) ∧ (∀ m v, f m = some v → ∃ x ∈ es.toList, x.key = .agg (idc m).toArray) ∧
  es.toList.Pairwise (fun x y => x.key ≠ y.key)

theorem MF.lt {w : World} {b n : Nat} {f : Int → Option Value} (h : MF w b n f) : b < w.heap.size := by
  obtain ⟨es, c, h1, _⟩ := h
  exact (Array.getElem?_eq_some_iff.1 h1).1
theorem MF.kp {w w' : World} {b n : Nat} {f : Int → Option Value} {L : List Nat} (h : MF w b n f) (k : Kp L w w') (hn : b ∉ L) : MF w' b n f := by
  have hb := h.lt
  obtain ⟨es, c, h1, h2⟩ := h
  exact ⟨es, c, (k.block b hb hn).trans h1, h2⟩
theorem MF.new {w : World} {b : Nat} {c : Nat} (h : w.heap[b]? = some (.map #[] c)) : MF w b 0 (fun _ => none) := ⟨#[], c, h, rfl, by simp, by simp, by simp⟩

/-- What is found. -/
theorem MF.find {w : World} {b n : Nat} {f : Int → Option Value} (h : MF w b n f) {m : Int} (h0 : 0 ≤ m) (h1 : m < 16) : ∃ es c, w.heap[b]? = some (.map es c) ∧
    ((Instr.findKey 97 (.agg (idc m).toArray) es.toList).run Ybad.prog w = .ok none w ∧ f m = none ∨ ∃ j e, (Instr.findKey 97 (.agg (idc m).toArray) es.toList).run Ybad.prog w = .ok (some (j, e.val)) w ∧ es.toList[j]? = some e ∧ e.key = .agg (idc m).toArray ∧ f m = some e.val) := by
  obtain ⟨es, c, e1, e2, e3, e4, e5⟩ := h
  obtain ⟨l, hl⟩ := keyOf_id m h0 h1
  refine ⟨es, c, e1, ?_⟩
  rcases keyLaw97.find w hl es.toList (fun e he => by obtain ⟨k, k0, k1, k2, _⟩ := e3 e he; rw [k2]; exact keyOf_id k k0 k1) with ⟨r1, r2⟩ | ⟨j, e, r1, r2, r3⟩
  · refine .inl ⟨r1, ?_⟩
    cases hf : f m with
    | none => rfl
    | some v =>
      obtain ⟨x, hx, hk⟩ := e4 m v hf
      exact (r2 x hx hk).elim
  · refine .inr ⟨j, e, r1, r2, r3, ?_⟩
    obtain ⟨k, _, _, k2, k3⟩ := e3 e (List.mem_of_getElem? r2)
    rw [r3] at k2
    rw [idc_inj k2]
    exact k3

theorem MF.look {w : World} {b n : Nat} {f : Int → Option Value} (h : MF w b n f) {m : Int} (h0 : 0 ≤ m) (h1 : m < 16) {t e : TypeId} (ht : Ybad.prog.underlying t = some (.map 97 e)) {z : Value} (hz : (zeroValue e).run Ybad.prog w = .ok z w) :
    (Instr.lookup t (.map (some b)) (.agg (idc m).toArray) false).run Ybad.prog w = .ok ((f m).getD z) w := by
  obtain ⟨l, hl⟩ := keyOf_id m h0 h1
  obtain ⟨es, c, e1, r⟩ := h.find h0 h1
  have e3 := MapKept.run_getObj_map (P := Ybad.prog) e1
  have e2 := keyLaw97.check w es.isEmpty hl
  unfold Instr.lookup
  rcases r with ⟨r1, r2⟩ | ⟨j, e, r1, _, _, r2⟩
  · simp [run_und ht, e2, e3, r1, r2, hz, go_sem]
  · simp [run_und ht, e2, e3, r1, r2, go_sem]
theorem MF.look_ok {w : World} {b n : Nat} {f : Int → Option Value} (h : MF w b n f) {m : Int} (h0 : 0 ≤ m) (h1 : m < 16) {t e : TypeId} (ht : Ybad.prog.underlying t = some (.map 97 e)) {z : Value} (hz : (zeroValue e).run Ybad.prog w = .ok z w) :
    (Instr.lookup t (.map (some b)) (.agg (idc m).toArray) true).run Ybad.prog w = .ok (.tuple #[(f m).getD z, .bool (f m).isSome]) w := by
  obtain ⟨l, hl⟩ := keyOf_id m h0 h1
  obtain ⟨es, c, e1, r⟩ := h.find h0 h1
  have e3 := MapKept.run_getObj_map (P := Ybad.prog) e1
  have e2 := keyLaw97.check w es.isEmpty hl
  unfold Instr.lookup
  rcases r with ⟨r1, r2⟩ | ⟨j, e, r1, _, _, r2⟩
  · simp [run_und ht, e2, e3, r1, r2, hz, go_sem]
  · simp [run_und ht, e2, e3, r1, r2, go_sem]
/-- In a nil map nothing is found. -/
theorem look_nil97 (w : World) (m : Int) (h0 : 0 ≤ m) (h1 : m < 16) {t e : TypeId} (ht : Ybad.prog.underlying t = some (.map 97 e)) {z : Value} (hz : (zeroValue e).run Ybad.prog w = .ok z w) :
    (Instr.lookup t (.map none) (.agg (idc m).toArray) false).run Ybad.prog w = .ok z w ∧ (Instr.lookup t (.map none) (.agg (idc m).toArray) true).run Ybad.prog w = .ok (.tuple #[z, .bool false]) w := by
  obtain ⟨l, hl⟩ := keyOf_id m h0 h1
  have e2 := keyLaw97.check w true hl
  have e3 : (Instr.findKey 97 (.agg (idc m).toArray) []).run Ybad.prog w = .ok none w := by
    rcases keyLaw97.find w hl [] (by simp) with ⟨r1, _⟩ | ⟨j, e, _, r2, _⟩
    · exact r1
    · simp at r2
  unfold Instr.lookup
  constructor <;> simp [run_und ht, e2, e3, hz, go_sem]
theorem look_nil27 (w : World) {t e : TypeId} (ht : Ybad.prog.underlying t = some (.map 27 e)) {z : Value} (hz : (zeroValue e).run Ybad.prog w = .ok z w) :
    (Instr.lookup t (.map none) (.agg (kcl key1).toArray) false).run Ybad.prog w = .ok z w := by
  obtain ⟨l, hl⟩ := keyOf_key1
  have e2 := keyLaw27.check w true hl
  have e3 : (Instr.findKey 27 (.agg (kcl key1).toArray) []).run Ybad.prog w = .ok none w := by
    rcases keyLaw27.find w hl [] (by simp) with ⟨r1, _⟩ | ⟨j, e, _, r2, _⟩
    · exact r1
    · simp at r2
  unfold Instr.lookup
  simp [run_und ht, e2, e3, hz, go_sem]

theorem pairwise_set {es : List MapEntry} {j : Nat} {e e' : MapEntry} (hj : es[j]? = some e) (hk : e'.key = e.key) (h : es.Pairwise (fun x y => x.key ≠ y.key)) : (es.set j e').Pairwise (fun x y => x.key ≠ y.key) := by
  have h1 : (es.map (·.key)).Pairwise (· ≠ ·) := List.pairwise_map.2 h
  refine List.pairwise_map.1 (?_ : ((es.set j e').map (·.key)).Pairwise (· ≠ ·))
  rw [List.map_set, hk]
  have : (es.map (·.key)).set j e.key = es.map (·.key) := by
    apply List.ext_getElem?
    intro i
    by_cases hi : j = i
    · subst hi
      obtain ⟨hlt, he⟩ := List.getElem?_eq_some_iff.1 hj
      rw [List.getElem?_set_self (by simpa using hlt)]
      simp [hj]
    · rw [List.getElem?_set_ne hi]
  rw [this]
  exact h1

/-- One entry laid. -/
theorem MF.put {w : World} {b n : Nat} {f : Int → Option Value} (h : MF w b n f) {m : Int} (h0 : 0 ≤ m) (h1 : m < 16) {t e : TypeId} (ht : Ybad.prog.underlying t = some (.map 97 e)) (v : Value) :
    ∃ o, (Instr.mapUpdate t (.map (some b)) (.agg (idc m).toArray) v).run Ybad.prog w = .ok () (mset w b o) ∧ MF (mset w b o) b (if (f m).isSome then n else n + 1) (fun k => if k = m then some v else f k) := by
  obtain ⟨l, hl⟩ := keyOf_id m h0 h1
  obtain ⟨es, c, e1, e2, e3, e4, e5⟩ := id h
  obtain ⟨es', c', e1', r⟩ := h.find h0 h1
  obtain ⟨rfl, rfl⟩ : es = es' ∧ c = c' := by rw [e1] at e1'; simpa using e1'
  have g3 := MapKept.run_getObj_map (P := Ybad.prog) e1
  have g2 := keyLaw97.check w false hl
  rcases r with ⟨r1, r2⟩ | ⟨j, e0, r1, r3, r4, r2⟩
  · refine ⟨.map (es.push ⟨.agg (idc m).toArray, v, c⟩) (c + 1), ?_, es.push ⟨.agg (idc m).toArray, v, c⟩, c + 1, mset_same e1, by simp [r2, e2], ?_, ?_, ?_⟩
    · have g4 := MapKept.run_setObj_map (P := Ybad.prog) (.map (es.push ⟨.agg (idc m).toArray, v, c⟩) (c + 1)) e1
      unfold Instr.mapUpdate
      simp [run_und ht, g2, g3, r1, g4, go_sem, mset]
    · intro x hx
      simp only [Array.toList_push, List.mem_append, List.mem_singleton] at hx
      rcases hx with hx | rfl
      · obtain ⟨k, k0, k1, k2, k3⟩ := e3 x hx
        refine ⟨k, k0, k1, k2, ?_⟩
        have : k ≠ m := by rintro rfl; rw [r2] at k3; cases k3
        simp [this, k3]
      · exact ⟨m, h0, h1, rfl, by simp⟩
    · intro k u hk
      by_cases hkm : k = m
      · subst hkm
        exact ⟨⟨.agg (idc k).toArray, v, c⟩, by simp, rfl⟩
      · simp only [hkm, if_false] at hk
        obtain ⟨x, hx, hx2⟩ := e4 k u hk
        exact ⟨x, by simp [hx], hx2⟩
    · simp only [Array.toList_push]
      refine List.pairwise_append.2 ⟨e5, by simp, fun x hx y hy => ?_⟩
      simp only [List.mem_singleton] at hy
      subst hy
      intro hk
      obtain ⟨k, _, _, k2, k3⟩ := e3 x hx
      rw [k2] at hk
      rw [idc_inj hk, r2] at k3
      cases k3
  · have hj : es[j]? = some e0 := by simpa using r3
    have hm : (es.modify j fun e => { e with key := .agg (idc m).toArray, val := v }).toList = es.toList.set j { e0 with key := .agg (idc m).toArray, val := v } := by
      rw [Array.toList_modify]
      exact ChangeMaps.modify_eq_set _ _ _ _ r3
    refine ⟨.map (es.modify j fun e => { e with key := .agg (idc m).toArray, val := v }) c, ?_, es.modify j fun e => { e with key := .agg (idc m).toArray, val := v }, c, mset_same e1, by simp [r2, e2], ?_, ?_, ?_⟩
    · have g4 := MapKept.run_setObj_map (P := Ybad.prog) (.map (es.modify j fun e => { e with key := .agg (idc m).toArray, val := v }) c) e1
      have g5 := keyLaw97.stays w hl
      unfold Instr.mapUpdate
      simp [run_und ht, g2, g3, r1, hj, r4, g5, g4, go_sem, mset]
    · intro x hx
      rw [hm] at hx
      obtain ⟨i, hi⟩ := List.mem_iff_getElem?.1 hx
      by_cases hij : j = i
      · subst hij
        rw [List.getElem?_set_self (List.getElem?_eq_some_iff.1 r3).1] at hi
        obtain rfl := Option.some.inj hi
        exact ⟨m, h0, h1, rfl, by simp⟩
      · rw [List.getElem?_set_ne hij] at hi
        obtain ⟨k, k0, k1, k2, k3⟩ := e3 x (List.mem_of_getElem? hi)
        refine ⟨k, k0, k1, k2, ?_⟩
        have : k ≠ m := by
          rintro rfl
          obtain ⟨l1, q1⟩ := List.getElem?_eq_some_iff.1 r3
          obtain ⟨l2, q2⟩ := List.getElem?_eq_some_iff.1 hi
          have hp := List.pairwise_iff_getElem.1 e5
          rcases Nat.lt_or_gt_of_ne hij with hlt | hlt
          · exact hp j i l1 l2 hlt (by rw [q1, q2, r4, k2])
          · exact hp i j l2 l1 hlt (by rw [q1, q2, r4, k2])
        simp [this, k3]
    · intro k u hk
      rw [hm]
      by_cases hkm : k = m
      · subst hkm
        exact ⟨{ e0 with key := .agg (idc k).toArray, val := v }, List.mem_iff_getElem?.2 ⟨j, List.getElem?_set_self (List.getElem?_eq_some_iff.1 r3).1⟩, rfl⟩
      · simp only [hkm, if_false] at hk
        obtain ⟨x, hx, hx2⟩ := e4 k u hk
        obtain ⟨i, hi⟩ := List.mem_iff_getElem?.1 hx
        have hij : j ≠ i := by
          rintro rfl
          rw [r3] at hi
          obtain rfl := Option.some.inj hi
          rw [r4] at hx2
          exact hkm (idc_inj hx2).symm
        exact ⟨x, List.mem_iff_getElem?.2 ⟨i, by rw [List.getElem?_set_ne hij]; exact hi⟩, hx2⟩
    · rw [hm]
      exact pairwise_set r3 (by simp [r4]) e5

/-- The number of a map's entries. -/
theorem MF.size {w : World} {b n : Nat} {f : Int → Option Value} (h : MF w b n f) : ∃ es c, w.heap[b]? = some (.map es c) ∧ es.size = n := by
  obtain ⟨es, c, e1, e2, _⟩ := h
  exact ⟨es, c, e1, e2⟩

/-- A map from the one link to a number; nothing: none laid. -/
def MC (w : World) (b l : Nat) (o : Option Int) : Prop := ∃ es c, w.heap[b]? = some (.map es c) ∧ match o with
  | none => es = #[]
  | some n => ∃ i, es = #[⟨.pointer (some ⟨l, 0, none⟩), .int .i64 n, i⟩]

theorem check24n (w : World) (em : Bool) (a : Option Addr) (n : Nat) : (Instr.checkKey em (n + 1) 24 (.pointer a)).run Ybad.prog w = .ok () w := by
  have h := und24
  simp [Instr.checkKey, run_und h, go_sem]
theorem check24 (w : World) (em : Bool) (a : Option Addr) : (Instr.checkKey em 10000 24 (.pointer a)).run Ybad.prog w = .ok () w := check24n w em a 9999
theorem find24 (w : World) (l i : Nat) (v : Value) : (Instr.findKey 24 (.pointer (some ⟨l, 0, none⟩)) [⟨.pointer (some ⟨l, 0, none⟩), v, i⟩]).run Ybad.prog w = .ok (some (0, v)) w := by
  have h := und24
  have := equal_ptr_same w ⟨l, 0, none⟩
  simp [Instr.findKey, run_und h, Instr.findNow, Instr.sameNow, Instr.findAsking, this, go_sem]
theorem find24_nil (w : World) (a : Value) : (Instr.findKey 24 a []).run Ybad.prog w = .ok none w := by
  have h := und24
  simp [Instr.findKey, run_und h, Instr.findNow, go_sem]
theorem MC.look {w : World} {b l : Nat} {o : Option Int} (h : MC w b l o) : (Instr.lookup 57 (.map (some b)) (.pointer (some ⟨l, 0, none⟩)) false).run Ybad.prog w = .ok (.int .i64 (o.getD 0)) w := by
  obtain ⟨es, c, e1, r⟩ := h
  have e3 := MapKept.run_getObj_map (P := Ybad.prog) e1
  have e2 := check24 w es.isEmpty (some ⟨l, 0, none⟩)
  unfold Instr.lookup
  cases o with
  | none =>
    subst r
    have e4 := find24_nil w (.pointer (some ⟨l, 0, none⟩))
    simp at e2
    simp [run_und Ybad.underlying57, e2, e3, e4, go_sem]
  | some n =>
    obtain ⟨i, rfl⟩ := r
    have e4 := find24 w l i (.int .i64 n)
    simp at e2
    simp [run_und Ybad.underlying57, e2, e3, e4, go_sem]
theorem look_nil57 (w : World) (l : Nat) : (Instr.lookup 57 (.map none) (.pointer (some ⟨l, 0, none⟩)) false).run Ybad.prog w = .ok (.int .i64 0) w := by
  have e2 := check24 w true (some ⟨l, 0, none⟩)
  have e4 := find24_nil w (.pointer (some ⟨l, 0, none⟩))
  unfold Instr.lookup
  simp [run_und Ybad.underlying57, e2, e4, go_sem]
theorem MC.put {w : World} {b l : Nat} {o : Option Int} (h : MC w b l o) (n : Int) : ∃ ob, (Instr.mapUpdate 57 (.map (some b)) (.pointer (some ⟨l, 0, none⟩)) (.int .i64 n)).run Ybad.prog w = .ok () (mset w b ob) ∧ MC (mset w b ob) b l (some n) := by
  obtain ⟨es, c, e1, r⟩ := h
  have e3 := MapKept.run_getObj_map (P := Ybad.prog) e1
  have e2 := check24 w false (some ⟨l, 0, none⟩)
  cases o with
  | none =>
    subst r
    have e4 := find24_nil w (.pointer (some ⟨l, 0, none⟩))
    have e5 := MapKept.run_setObj_map (P := Ybad.prog) (.map #[⟨.pointer (some ⟨l, 0, none⟩), .int .i64 n, c⟩] (c + 1)) e1
    refine ⟨.map #[⟨.pointer (some ⟨l, 0, none⟩), .int .i64 n, c⟩] (c + 1), ?_, _, _, mset_same e1, c, rfl⟩
    unfold Instr.mapUpdate
    simp [run_und Ybad.underlying57, e2, e3, e4, e5, go_sem, mset]
  | some k =>
    obtain ⟨i, rfl⟩ := r
    have e4 := find24 w l i (.int .i64 k)
    have e5 := MapKept.run_setObj_map (P := Ybad.prog) (.map #[⟨.pointer (some ⟨l, 0, none⟩), .int .i64 n, i⟩] c) e1
    refine ⟨.map #[⟨.pointer (some ⟨l, 0, none⟩), .int .i64 n, i⟩] c, ?_, _, _, mset_same e1, i, rfl⟩
    unfold Instr.mapUpdate
    simp [run_und Ybad.underlying57, e2, e3, e4, e5, go_sem, mset, Instr.keyThatStays, Instr.sameBits]
theorem MC.lt {w : World} {b l : Nat} {o : Option Int} (h : MC w b l o) : b < w.heap.size := by
  obtain ⟨es, c, h1, _⟩ := h
  exact (Array.getElem?_eq_some_iff.1 h1).1
theorem MC.kp {w w' : World} {b l : Nat} {o : Option Int} {L : List Nat} (h : MC w b l o) (k : Kp L w w') (hn : b ∉ L) : MC w' b l o := by
  have hb := h.lt
  obtain ⟨es, c, h1, h2⟩ := h
  exact ⟨es, c, (k.block b hb hn).trans h1, h2⟩
end Go.Proofs.YbulkdaeyDoor
