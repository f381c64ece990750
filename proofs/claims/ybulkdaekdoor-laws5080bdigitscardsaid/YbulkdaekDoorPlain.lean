/-
  Plain arithmetic for the seat b5080aD: what a decimal numeral spells, over lists of bytes. No Go in this text.
-/
import Derived.Lib.ParseIntBTie
import Derived.Lib.ItoaMem
namespace Go.Proofs.YbulkdaekDoor
open Go.Lib

/-- What the digits spell, 'acc' ahead of them; none where a byte is no digit. -/
def dval (acc : Nat) : List UInt8 → Option Nat
  | [] => some acc
  | c :: r => if 48 ≤ c.toNat ∧ c.toNat ≤ 57 then dval (acc * 10 + (c.toNat - 48)) r else none

theorem dval_ge : ∀ (l : List UInt8) (acc u : Nat), dval acc l = some u → acc ≤ u
  | [], acc, u, h => by simp only [dval, Option.some.injEq] at h; omega
  | c :: r, acc, u, h => by
    simp only [dval] at h
    split at h
    · have := dval_ge r _ u h
      omega
    · cases h

theorem dval_append (b : UInt8) (hb : 48 ≤ b.toNat ∧ b.toNat ≤ 57) : ∀ (l : List UInt8) (acc u : Nat), dval acc l = some u → dval acc (l ++ [b]) = some (u * 10 + (b.toNat - 48))
  | [], acc, u, h => by
    simp only [dval, Option.some.injEq] at h
    simp [dval, hb, h]
  | c :: r, acc, u, h => by
    simp only [dval] at h
    split at h
    · rename_i hc
      simp only [List.cons_append, dval, if_pos hc]
      exact dval_append b hb r _ u h
    · cases h

theorem parseUint10_iff : ∀ (l : List UInt8) (acc u : Nat), acc < 18446744073709551616 → (parseUint10 acc l = .ok u ↔ dval acc l = some u ∧ u < 18446744073709551616)
  | [], acc, u, ha => by
    simp only [parseUint10, dval, Option.some.injEq, NumEnd.ok.injEq]
    omega
  | c :: r, acc, u, ha => by
    simp only [parseUint10, dval]
    by_cases hc : 48 ≤ c.toNat ∧ c.toNat ≤ 57
    · rw [if_pos hc, if_pos hc]
      by_cases h1 : 1844674407370955162 ≤ acc
      · rw [if_pos h1]
        refine ⟨fun h => by (cases h), fun ⟨h, hu⟩ => ?_⟩
        have := dval_ge r _ u h
        omega
      · rw [if_neg h1]
        by_cases h2 : 18446744073709551616 ≤ acc * 10 + (c.toNat - 48)
        · rw [if_pos h2]
          refine ⟨fun h => by (cases h), fun ⟨h, hu⟩ => ?_⟩
          have := dval_ge r _ u h
          omega
        · rw [if_neg h2]
          exact parseUint10_iff r _ u (by omega)
    · rw [if_neg hc, if_neg hc]
      exact ⟨fun h => by (cases h), fun h => by (cases h.1)⟩

/-- The greatest magnitude by the sign. -/
def lim (neg : Bool) : Nat := if neg then 9223372036854775808 else 9223372036854775807
/-- The number by its sign. -/
def sgn (neg : Bool) (u : Nat) : Int := if neg then -(u : Int) else u
/-- From the magnitude to the number. -/
def fin (neg : Bool) : Option Nat → Option Int
  | some u => if u ≤ lim neg then some (sgn neg u) else none
  | none => none
/-- Does a '-' stand ahead? -/
def negL : List UInt8 → Bool
  | [] => false
  | c :: _ => c.toNat == 45
/-- What stands behind the sign. -/
def magL : List UInt8 → List UInt8
  | [] => []
  | c :: r => if c.toNat = 43 ∨ c.toNat = 45 then r else c :: r
/-- The number that the text spells, if an int64 holds it. -/
def numOf (l : List UInt8) : Option Int := if magL l = [] then none else fin (negL l) (dval 0 (magL l))

theorem fin_over (neg : Bool) {acc : Nat} (h : lim neg < acc) (l : List UInt8) : fin neg (dval acc l) = none := by
  cases hd : dval acc l with
  | none => rfl
  | some u =>
    have := dval_ge l acc u hd
    simp only [fin]
    rw [if_neg (by omega)]

theorem parseMag_iff (l : List UInt8) (u : Nat) : parseMag l = .ok u ↔ l ≠ [] ∧ dval 0 l = some u ∧ u < 18446744073709551616 := by
  unfold parseMag
  by_cases h : l = []
  · rw [if_pos h]; exact ⟨fun h => by (cases h), fun h' => absurd h h'.1⟩
  · rw [if_neg h, parseUint10_iff l 0 u (by omega)]
    exact ⟨fun h' => ⟨h, h'⟩, fun h' => h'.2⟩

theorem parse_iff (l : List UInt8) (v : Int) : parseIntB 64 l = .ok v ↔ numOf l = some v := by
  rw [parseIntB_64]
  cases l with
  | nil => exact ⟨fun h => by (cases h), fun h => by (cases h)⟩
  | cons c r =>
    have hm : (if c.toNat = 43 ∨ c.toNat = 45 then r else c :: r) = magL (c :: r) := rfl
    simp only [atoiAll, hm]
    have hn : negL (c :: r) = decide (c.toNat = 45) := by
      simp only [negL]
      by_cases h : c.toNat = 45 <;> simp [h]
    unfold numOf
    rw [hn]
    generalize magL (c :: r) = m
    have key := parseMag_iff m
    cases hp : parseMag m with
    | ok u =>
      obtain ⟨h1, h2, h3⟩ := (key u).1 hp
      rw [if_neg h1, h2]
      simp only [fin]
      by_cases hg : c.toNat = 45
      · simp only [hg, not_true_eq_false, false_and, if_false, true_and, decide_true, lim, sgn, if_true]
        by_cases hu : 9223372036854775808 < u
        · rw [if_pos hu, if_neg (by omega)]
          exact ⟨fun h => by (cases h), fun h => by (cases h)⟩
        · rw [if_neg hu, if_pos (by omega)]
          simp
      · simp only [hg, not_false_eq_true, true_and, false_and, if_false, decide_false, lim, sgn, Bool.false_eq_true]
        by_cases hu : 9223372036854775808 ≤ u
        · rw [if_pos hu, if_neg (by omega)]
          exact ⟨fun h => by (cases h), fun h => by (cases h)⟩
        · rw [if_neg hu, if_pos (by omega)]
          simp
    | _ =>
      refine ⟨fun h => by (cases h), fun h => ?_⟩
      exfalso
      by_cases h1 : m = []
      · rw [if_pos h1] at h; cases h
      · rw [if_neg h1] at h
        cases hd : dval 0 m with
        | none => rw [hd] at h; cases h
        | some u =>
          rw [hd] at h
          simp only [fin] at h
          split at h
          · rename_i hu
            have : lim (decide (c.toNat = 45)) ≤ 9223372036854775808 := by unfold lim; split <;> omega
            have := (key u).2 ⟨h1, hd, by omega⟩
            rw [hp] at this
            cases this
          · cases h

/-! ### The numeral that FormatInt writes -/

theorem digit_byte (d : Nat) (h : d < 10) : (UInt8.ofNat (48 + d)).toNat = 48 + d := by
  simp [UInt8.toNat_ofNat']
  omega

theorem dval_dec (u : Nat) : dval 0 (decDigits u) = some u := by
  induction u using Nat.strongRecOn with
  | _ u ih =>
    by_cases h : u < 10
    · rw [decDigits, dif_pos h]
      have := digit_byte u h
      simp only [dval, this]
      rw [if_pos (by omega)]
      congr 1
      omega
    · rw [decDigits, dif_neg h]
      have hb := digit_byte (u % 10) (by omega)
      rw [dval_append _ (by omega) _ _ _ (ih (u / 10) (by omega)), hb]
      congr 1
      omega

/-- The numeral opens with a digit. -/
theorem dec_head (u : Nat) : ∃ c r, decDigits u = c :: r ∧ 48 ≤ c.toNat ∧ c.toNat ≤ 57 := by
  have h := dval_dec u
  cases hd : decDigits u with
  | nil =>
    exfalso
    rw [decDigits] at hd
    split at hd
    · cases hd
    · simp at hd
  | cons c r =>
    refine ⟨c, r, rfl, ?_⟩
    rw [hd] at h
    simp only [dval] at h
    split at h
    · assumption
    · cases h

theorem magL_digit {c : UInt8} {r : List UInt8} (h : 48 ≤ c.toNat ∧ c.toNat ≤ 57) : magL (c :: r) = c :: r := by
  simp only [magL]
  rw [if_neg (by omega)]
theorem negL_digit {c : UInt8} {r : List UInt8} (h : 48 ≤ c.toNat ∧ c.toNat ≤ 57) : negL (c :: r) = false := by
  simp only [negL]
  exact beq_eq_false_iff_ne.2 (by omega)

theorem numOf_dec (u : Nat) (h : u ≤ 9223372036854775807) : numOf (decDigits u) = some (u : Int) := by
  obtain ⟨c, r, hd, hc⟩ := dec_head u
  have hv := dval_dec u
  rw [hd] at hv ⊢
  unfold numOf
  rw [magL_digit hc, negL_digit hc, if_neg (by simp), hv]
  simp [fin, lim, sgn, h]

theorem numOf_itoa (n : Int) (h0 : -9223372036854775808 ≤ n) (h1 : n ≤ 9223372036854775807) : numOf (itoa n) = some n := by
  unfold itoa
  split
  · rename_i hn
    unfold numOf
    have hm : magL (45 :: decDigits n.natAbs) = decDigits n.natAbs := rfl
    have hg : negL (45 :: decDigits n.natAbs) = true := rfl
    obtain ⟨c, r, hd, hc⟩ := dec_head n.natAbs
    rw [hm, hg, dval_dec, if_neg (by rw [hd]; simp)]
    simp only [fin, lim, sgn, if_true]
    rw [if_pos (by omega)]
    congr 1
    omega
  · rw [numOf_dec n.toNat (by omega)]
    congr 1
    omega

theorem numOf_plus (n : Int) (h0 : 0 ≤ n) (h1 : n ≤ 9223372036854775807) : numOf (43 :: itoa n) = some n := by
  unfold itoa
  rw [if_neg (by omega)]
  unfold numOf
  have hm : magL (43 :: decDigits n.toNat) = decDigits n.toNat := rfl
  have hg : negL (43 :: decDigits n.toNat) = false := rfl
  obtain ⟨c, r, hd, hc⟩ := dec_head n.toNat
  rw [hm, hg, dval_dec, if_neg (by rw [hd]; simp)]
  simp only [fin, lim, sgn, Bool.false_eq_true, if_false]
  rw [if_pos (by omega)]
  congr 1
  omega

theorem numOf_zeros (n : Int) (h0 : 0 ≤ n) (h1 : n ≤ 9223372036854775807) : numOf (48 :: 48 :: 48 :: itoa n) = some n := by
  unfold itoa
  rw [if_neg (by omega)]
  unfold numOf
  rw [magL_digit (by decide), negL_digit (by decide), if_neg (by simp)]
  have e : dval 0 (48 :: 48 :: 48 :: decDigits n.toNat) = dval 0 (decDigits n.toNat) := rfl
  rw [e, dval_dec]
  simp only [fin, lim, sgn, Bool.false_eq_true, if_false]
  rw [if_pos (by omega)]
  congr 1
  omega

/-! ### The model's loop, step by step -/

/-- What holds at the head of the round: k bytes are read, they spell a. -/
structure Inv (neg : Bool) (l : List UInt8) (k : Nat) (a : Int) : Prop where
  num : numOf l = fin neg (dval a.toNat (l.drop k))
  lo : 0 ≤ a
  hi : a ≤ lim neg

theorem drop_at {l : List UInt8} {k : Nat} (h : k < l.length) : l.drop k = l[k] :: l.drop (k + 1) := List.drop_eq_getElem_cons h

theorem Inv.bad {neg : Bool} {l : List UInt8} {k : Nat} {a : Int} (H : Inv neg l k a) (h : k < l.length) (hc : ¬ (48 ≤ l[k].toNat ∧ l[k].toNat ≤ 57)) : numOf l = none := by
  rw [H.num, drop_at h]
  simp only [dval, if_neg hc, fin]

theorem Inv.over {neg : Bool} {l : List UInt8} {k : Nat} {a : Int} (H : Inv neg l k a) (h : k < l.length) (hc : 48 ≤ l[k].toNat ∧ l[k].toNat ≤ 57) (ho : (lim neg : Int) < a * 10 + (l[k].toNat - 48)) : numOf l = none := by
  have h0 := H.lo
  rw [H.num, drop_at h]
  simp only [dval, if_pos hc]
  exact fin_over neg (by omega) _

theorem Inv.step {neg : Bool} {l : List UInt8} {k : Nat} {a b : Int} (H : Inv neg l k a) (h : k < l.length) (hc : 48 ≤ l[k].toNat ∧ l[k].toNat ≤ 57) (hb : b = a * 10 + (l[k].toNat - 48)) (ho : b ≤ (lim neg : Int)) : Inv neg l (k + 1) b := by
  have h0 := H.lo
  refine ⟨?_, by omega, ho⟩
  rw [H.num, drop_at h]
  simp only [dval, if_pos hc]
  congr 2
  omega

theorem Inv.done {neg : Bool} {l : List UInt8} {k : Nat} {a : Int} (H : Inv neg l k a) (h : l.length ≤ k) : numOf l = some (sgn neg a.toNat) := by
  have h0 := H.lo
  have h1 := H.hi
  rw [H.num, List.drop_eq_nil_of_le h]
  simp only [dval, fin]
  rw [if_pos (by omega)]

theorem Inv.minus {l : List UInt8} (h : 1 < l.length) (hc : l[0].toNat = 45) : Inv true l 1 0 := by
  match l, h, hc with
  | c :: d :: r, _, hc =>
    have hc' : c.toNat = 45 := hc
    refine ⟨?_, by omega, by unfold lim; simp⟩
    simp [numOf, magL, negL, hc']

theorem Inv.plus {l : List UInt8} (h : 1 < l.length) (hc : l[0].toNat = 43) : Inv false l 1 0 := by
  match l, h, hc with
  | c :: d :: r, _, hc =>
    have hc' : c.toNat = 43 := hc
    refine ⟨?_, by omega, by unfold lim; simp⟩
    simp [numOf, magL, negL, hc']

theorem Inv.plain {l : List UInt8} (h : 0 < l.length) (hc : l[0].toNat ≠ 43) (hd : l[0].toNat ≠ 45) : Inv false l 0 0 := by
  match l, h, hc, hd with
  | c :: r, _, hc, hd =>
    have hc' : c.toNat ≠ 43 := hc
    have hd' : c.toNat ≠ 45 := hd
    refine ⟨?_, by omega, by unfold lim; simp⟩
    have hn : (c.toNat == 45) = false := beq_eq_false_iff_ne.2 hd'
    simp [numOf, magL, negL, hc', hd', hn]

theorem numOf_sign {l : List UInt8} (h : l.length = 1) (hc : l[0].toNat = 43 ∨ l[0].toNat = 45) : numOf l = none := by
  match l, h, hc with
  | [c], _, hc =>
    have hc' : c.toNat = 43 ∨ c.toNat = 45 := hc
    simp [numOf, magL, hc']

theorem numOf_nil {l : List UInt8} (h : l.length = 0) : numOf l = none := by
  match l, h with
  | [], _ => rfl

end Go.Proofs.YbulkdaekDoor
