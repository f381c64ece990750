import Derived.Test.YbulkdaeyDoorBuild
/-
  TakeProbe, all its ways in one contract.
-/
namespace Go.Proofs.YbulkdaeyDoor
open Go.RowKit

/-- The frame forwarded: the lower of the two keys. -/
def lower (sk low : List UInt8) : List UInt8 := if cmpL sk low < 0 then sk else low

/-- What TakeProbe may hand back and leave behind. -/
def TPost (w' : World) (tb l1 l2 : Nat) (sk low : List UInt8) (hops : Int) (pv er : Value) (tr ch : Bool) (sv er' : Value) : Prop :=
  (sv = .slice none 0 0 ∧ er' = (if tr = true then .nilIface else er) ∧ TW w' tb l1 l2 sk 0 pv true ch false true) ∨
  (tr = true ∧ ch = true ∧ er' = .nilIface ∧ (low == sk) = true ∧ pv = .pointer none ∧ GotS w' sv [(1, [71]), (1, pbs sk 1 8)] ∧ TW w' tb l1 l2 sk 0 (.pointer (some ⟨l1, 0, none⟩)) false true false true) ∨
  (tr = true ∧ ch = true ∧ er' = .nilIface ∧ (low == sk) = true ∧ pv = .pointer (some ⟨l2, 0, none⟩) ∧ GotS w' sv [(2, [80]), (1, [71]), (1, pbs sk 1 8)] ∧ TW w' tb l1 l2 sk 0 (.pointer (some ⟨l1, 0, none⟩)) false true true false) ∨
  (tr = true ∧ ch = true ∧ er' = .nilIface ∧ (low == sk) = false ∧ pv = .pointer (some ⟨l2, 0, none⟩) ∧ hops < 255 ∧ GotS w' sv [(2, pbs (lower sk low) (IntKind.i64.wrap (hops + 1)) 8)] ∧ TW w' tb l1 l2 sk 0 pv true ch false true)

theorem takeProbe_all (tb l1 l2 hb mb B0 : Nat) (sk low : List UInt8) (hops x y x' y' bu ev : Int) (pv er : Value) (tr ch : Bool) (w : World) (hk : sk.length = 32) (hlo : low.length = 32) (F : Tr w tb l1 l2 hb mb B0) (T : TW w tb l1 l2 sk 0 pv true ch false true) (P : PP w l1 hb tr bu ev x' y' er) (hbs : B0 ≤ w.heap.size)
    (hpv : pv = .pointer none ∨ pv = .pointer (some ⟨l1, 0, none⟩) ∨ pv = .pointer (some ⟨l2, 0, none⟩)) (htc : ch = true → tr = true) :
    Calls Ybad.prog 7 #[.pointer (some ⟨tb, 0, none⟩), .int .i64 1, .agg (kcl low).toArray, .int .i64 hops, .agg #[.int .u64 x, .int .i64 y, .pointer none]] w fun e w' =>
      ∃ sv er', e = .returned (.tuple #[sv, er']) ∧ TPost w' tb l1 l2 sk low hops pv er tr ch sv er' ∧ Below B0 w w' := by
  cases tr with
  | false =>
    refine (takeProbe_noTree tb l1 l2 hb mb B0 sk low hops x y x' y' bu ev pv er true ch false true w hk F T P).mono ?_
    rintro e w' ⟨rfl, T', b⟩
    exact ⟨_, _, rfl, .inl ⟨rfl, rfl, T'⟩, b⟩
  | true =>
    cases ch with
    | false =>
      refine (takeProbe_noChild tb l1 l2 hb mb B0 sk low hops x y x' y' bu ev pv er true false true w hk F T P).mono ?_
      rintro e w' ⟨rfl, T', b⟩
      exact ⟨_, _, rfl, .inl ⟨rfl, rfl, T'⟩, b⟩
    | true =>
      rcases hpv with rfl | rfl | rfl
      · cases he : (low == sk) with
        | true =>
          refine (takeProbe_graft0 tb l1 l2 hb mb B0 sk low hops x y x' y' bu ev er true false true w hk hlo he F T P hbs).mono ?_
          rintro e w' ⟨sv, rfl, ⟨rfl, T'⟩ | ⟨G, T'⟩, b⟩
          · exact ⟨_, _, rfl, .inl ⟨rfl, rfl, T'⟩, b⟩
          · exact ⟨_, _, rfl, .inr (.inl ⟨rfl, rfl, rfl, he, rfl, G, T'⟩), b⟩
        | false =>
          refine (takeProbe_far0 tb l1 l2 hb mb B0 sk low hops x y x' y' bu ev er true false true w hk hlo he F T P hbs).mono ?_
          rintro e w' ⟨sv, rfl, rfl, T', b⟩
          exact ⟨_, _, rfl, .inl ⟨rfl, rfl, T'⟩, b⟩
      · refine (takeProbe_self tb l1 l2 hb mb B0 sk low hops x y x' y' bu ev er true false true w hk hlo F T P hbs).mono ?_
        rintro e w' ⟨sv, rfl, rfl, T', b⟩
        exact ⟨_, _, rfl, .inl ⟨rfl, rfl, T'⟩, b⟩
      · cases he : (low == sk) with
        | true =>
          refine (takeProbe_graft2 tb l1 l2 hb mb B0 sk low hops x y x' y' bu ev er true false true w hk hlo he F T P hbs).mono ?_
          rintro e w' ⟨sv, rfl, ⟨rfl, T'⟩ | ⟨G, T'⟩, b⟩
          · exact ⟨_, _, rfl, .inl ⟨rfl, rfl, T'⟩, b⟩
          · exact ⟨_, _, rfl, .inr (.inr (.inl ⟨rfl, rfl, rfl, he, rfl, G, T'⟩)), b⟩
        | false =>
          by_cases hh : hops < 255
          · by_cases hc : cmpL sk low < 0
            · refine (takeProbe_fwdlt tb l1 l2 hb mb B0 sk low hops x y x' y' bu ev er true false true w hk hlo he hh hc F T P hbs).mono ?_
              rintro e w' ⟨sv, rfl, ⟨rfl, T'⟩ | ⟨G, T'⟩, b⟩
              · exact ⟨_, _, rfl, .inl ⟨rfl, rfl, T'⟩, b⟩
              · exact ⟨_, _, rfl, .inr (.inr (.inr ⟨rfl, rfl, rfl, he, rfl, hh, by rw [lower, if_pos hc]; exact G, T'⟩)), b⟩
            · refine (takeProbe_fwdge tb l1 l2 hb mb B0 sk low hops x y x' y' bu ev er true false true w hk hlo he hh hc F T P hbs).mono ?_
              rintro e w' ⟨sv, rfl, ⟨rfl, T'⟩ | ⟨G, T'⟩, b⟩
              · exact ⟨_, _, rfl, .inl ⟨rfl, rfl, T'⟩, b⟩
              · exact ⟨_, _, rfl, .inr (.inr (.inr ⟨rfl, rfl, rfl, he, rfl, hh, by rw [lower, if_neg hc]; exact G, T'⟩)), b⟩
          · refine (takeProbe_far2 tb l1 l2 hb mb B0 sk low hops x y x' y' bu ev er true false true w hk hlo he hh F T P hbs).mono ?_
            rintro e w' ⟨sv, rfl, rfl, T', b⟩
            exact ⟨_, _, rfl, .inl ⟨rfl, rfl, T'⟩, b⟩

end Go.Proofs.YbulkdaeyDoor
