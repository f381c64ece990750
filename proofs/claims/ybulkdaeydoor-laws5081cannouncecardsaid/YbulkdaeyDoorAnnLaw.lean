import Derived.Test.YbulkdaeyDoorNames
import Derived.Test.YbulkdaeyDoorCount
import Derived.Test.YbulkdaeyDoorWant
/-
  LawS5081CAnnounce.
-/
namespace Go.Proofs.YbulkdaeyDoor
open Go.RowKit Go.BigFrame
set_option linter.unusedSimpArgs false

theorem eql_slice_nil (w : World) : (binOp .eql 70 (.slice none 0 0) (.slice none 0 0)).run Ybad.prog w = .ok (.bool true) w := by
  have h' : ∀ d : Nat, (Op.equalIn (d + 1) 70 (.slice none 0 0) (.slice none 0 0)).run Ybad.prog w = .ok true w := fun d => by
    simp [Op.equalIn, run_underlying Ybad.underlying70]
  simp [binOp, Op.equal, Op.maxDepth, h' 9999]

/-- While the second loop runs: what it looks at. -/
structure G2 (w wr : World) (tb lk fb ub : Nat) (sv : Value) (l : List (Int × List Int)) (us : List Int) (vs : List Int) : Prop where
  kp : Kp [] w wr
  calls : wr.cell? ⟨fb, 0, none⟩ = some (.int .i64 l.length)
  by0 : us = [] → wr.cell? ⟨tb, 51, none⟩ = some (.map none) ∧ wr.cell? ⟨tb, 54, none⟩ = some (.map none)
  by1 : us ≠ [] → ∃ bm cm es c, wr.cell? ⟨tb, 51, none⟩ = some (.map (some bm)) ∧ wr.cell? ⟨tb, 54, none⟩ = some (.map (some cm)) ∧ wr.heap[bm]? = some (.map es c) ∧ es.size = us.length ∧ MC wr cm lk (some (us.length : Int)) ∧ bm < ub ∧ cm < ub
  sent : ∃ w3, Sent w3 sv l ∧ Kp [ub] w3 wr ∧ w3.heap.size = ub
  bits : UB wr ub vs
  tlt : tb < ub
  flt : fb < ub
  gu : w.heap.size ≤ ub

theorem G2.start {w w3 w4 : World} {tb lk fb sb nb sn B : Nat} {mu : Int} {nbv : Value} {bf : Int} {pl : Int → Option Int} {ns : List (Int × Int)} {sv : Value} {l : List (Int × List Int)} {us : List Int} {M E : List Nat} (T : TT w3 tb lk fb sb nb mu nbv bf (l.length : Int) sn pl ns) (A : AW w3 tb lk B us M E) (S : Sent w3 sv l)
    (N : New1 w3 w4 (.cells #[.bool false, .bool false, .bool false, .bool false, .bool false, .bool false, .bool false, .bool false, .bool false, .bool false, .bool false, .bool false, .bool false, .bool false, .bool false, .bool false] 104)) (KW : Kp [] w w4) (hg : w.heap.size ≤ w3.heap.size) : G2 w w4 tb lk fb w3.heap.size sv l us [] := by
  have T4 := T.kp N.kp (by simp) (by simp) (by simp) (by simp) (by simp)
  have A4 := A.kp N.kp (by simp) (by simp) (by simp)
  have tl : tb < w3.heap.size := lt_of_cell T.fr
  have fl : fb < w3.heap.size := lt_of_cell T.calls
  refine ⟨KW, T4.calls, fun h => ?_, fun h => ?_, ?_, UB.new N, tl, fl, hg⟩
  · cases A4 with
    | off h1 _ h3 => exact ⟨h1, h3⟩
    | on hne _ => exact (hne h).elim
  · have hA := A.lt
    cases A4 with
    | off => exact (h rfl).elim
    | on hne hA4 =>
      obtain ⟨es, c, e1, e2⟩ := hA4.map.size
      have hc := hA4.cnt
      rw [if_neg hne] at hc
      exact ⟨_, _, es, c, hA4.c51, hA4.c54, e1, e2, hc, (hA _ (List.mem_append_left _ hA4.mb)).2, (hA _ (List.mem_append_left _ hA4.mc)).2⟩
  · exact ⟨w3, S, N.kp.mono (by simp), rfl⟩

theorem G2.kp0 {w wr wr' : World} {tb lk fb ub : Nat} {sv : Value} {l : List (Int × List Int)} {us vs : List Int} (h : G2 w wr tb lk fb ub sv l us vs) (k : Kp [] wr wr') : G2 w wr' tb lk fb ub sv l us vs := by
  have hf : fb < wr.heap.size := lt_of_cell h.calls
  have e : ∀ o v, wr.cell? ⟨tb, o, none⟩ = some v → wr'.cell? ⟨tb, o, none⟩ = some v := fun o v hv => (k.cell (p := ⟨tb, o, none⟩) (lt_of_cell hv) (by simp)).trans hv
  exact { h with
    kp := h.kp.trans k
    calls := (k.cell (p := ⟨fb, 0, none⟩) hf (by simp)).trans h.calls
    by0 := fun hu => ⟨e _ _ (h.by0 hu).1, e _ _ (h.by0 hu).2⟩
    by1 := fun hu => by
      obtain ⟨bm, cm, es, c, h1, h2, h3, h4, h5, h6⟩ := h.by1 hu
      exact ⟨bm, cm, es, c, e _ _ h1, e _ _ h2, (k.block bm (Array.getElem?_eq_some_iff.1 h3).1 (by simp)).trans h3, h4, h5.kp k (by simp), h6⟩
    sent := by
      obtain ⟨w3, h1, h2, h3⟩ := h.sent
      exact ⟨w3, h1, h2.trans (k.mono (by simp)), h3⟩
    bits := h.bits.kp k (by simp) }

theorem size4 : (Ybad.prog.info? 4).map (·.size) = some 1 := by kernel_rfl
theorem G2.mark {w wr wr' : World} {tb lk fb ub m : Nat} {sv : Value} {l : List (Int × List Int)} {us vs : List Int} (h : G2 w wr tb lk fb ub sv l us vs) (P : Put1 wr wr' ub m (.bool true)) : G2 w wr' tb lk fb ub sv l us (vs ++ [(m : Int)]) := by
  have k := P.kp
  have tl := h.tlt
  have fl := h.flt
  have gu := h.gu
  have hf : fb < wr.heap.size := lt_of_cell h.calls
  have e : ∀ o v, wr.cell? ⟨tb, o, none⟩ = some v → wr'.cell? ⟨tb, o, none⟩ = some v := fun o v hv => (k.cell (p := ⟨tb, o, none⟩) (lt_of_cell hv) (by simp; omega)).trans hv
  exact { h with
    kp := h.kp.news k (by simpa using gu)
    calls := (k.cell (p := ⟨fb, 0, none⟩) hf (by simp; omega)).trans h.calls
    by0 := fun hu => ⟨e _ _ (h.by0 hu).1, e _ _ (h.by0 hu).2⟩
    by1 := fun hu => by
      obtain ⟨bm, cm, es, c, h1, h2, h3, h4, h5, h6, h7⟩ := h.by1 hu
      exact ⟨bm, cm, es, c, e _ _ h1, e _ _ h2, (k.block bm (Array.getElem?_eq_some_iff.1 h3).1 (by simp; omega)).trans h3, h4, h5.kp k (by simp; omega), h6, h7⟩
    sent := by
      obtain ⟨w3, h1, h2, h3⟩ := h.sent
      exact ⟨w3, h1, h2.trans k, h3⟩
    bits := h.bits.mark P }

/-- One of the sends, read. -/
theorem G2.at' {w wr : World} {tb lk fb ub : Nat} {sv : Value} {l : List (Int × List Int)} {us vs : List Int} (h : G2 w wr tb lk fb ub sv l us vs) {k : Nat} (hk : k < l.length) {hd : Int} {bs : List Int} (he : l[k] = (hd, bs)) :
    ∃ gg c g cap, sv = .slice (some ⟨gg, 0, none⟩) l.length c ∧ wr.rangeAt gg (k * 3) [.int .i64 hd, .slice (some ⟨g, 0, none⟩) bs.length cap, .bool false] ∧ wr.rangeAt g 0 (bv bs) ∧ g < wr.heap.size := by
  obtain ⟨w3, h1, h2, h3⟩ := h.sent
  rcases h1 with ⟨e, _⟩ | hG
  · subst e; simp at hk
  · obtain ⟨gg, c, xs, B, rfl, hr, hs, hl⟩ := hG
    obtain ⟨g, cap, e1, e2, e3, e4, e5⟩ := hs.at k hk
    have f1 := hr _ _ e1
    have f2 := hr _ _ e2
    have f3 := hr _ _ e3
    rw [Nat.zero_add] at f1 f2 f3
    rw [he] at f1 f2 e5
    simp only at f1 f2 e5
    have hg : gg < w3.heap.size := lt_of_cell f1
    have c' : ∀ o v, w3.cell? ⟨gg, o, none⟩ = some v → wr.cell? ⟨gg, o, none⟩ = some v := fun o v hv => (h2.cell (p := ⟨gg, o, none⟩) hg (by simp; omega)).trans hv
    refine ⟨gg, c, g, cap, rfl, fun j v hv => ?_, h2.range e5 e4 (by simp; omega), Nat.lt_of_lt_of_le e4 h2.size⟩
    match j with
    | 0 => simp at hv; subst hv; exact c' _ _ f1
    | 1 => simp at hv; subst hv; exact c' _ _ f2
    | 2 => simp at hv; subst hv; exact c' _ _ f3
    | _ + 3 => simp at hv

theorem len_map55 {w : World} {b n : Nat} {es : Array MapEntry} {c : Nat} (h : w.heap[b]? = some (.map es c)) (hn : es.size = n) : (Builtin.len_ #[55] 3 #[.map (some b)]).run Ybad.prog w = .ok (.int .i64 (n : Int)) w := by
  have e3 := MapKept.run_getObj_map (P := Ybad.prog) h
  subst hn
  unfold Builtin.len_
  simp [run_und Ybad.underlying55, e3, go_sem]

structure HopI (y : Int) : Prop where
  a : -128 ≤ y
  b : y ≤ 127

set_option maxRecDepth 20000 in
set_option maxHeartbeats 6400000 in
theorem announce_law (keeps : Bool) (p q : Option Addr) (n c k' d : Nat) (xs : List Int) (bf : Int) (rs : List (Int × Int)) (er : Value) (w : World) (hn : xs.length = n) (hs : n ≤ 1024) (hx : ∀ x ∈ xs, 0 ≤ x ∧ x ≤ 255) (b0 : 0 ≤ bf) (b1 : bf ≤ 255) (hq : SQ w p xs)
    (hk : rs.length = k') (hks : k' ≤ 1024) (hr : ∀ r ∈ rs, 0 ≤ r.1 ∧ r.1 ≤ 255 ∧ -128 ≤ r.2 ∧ r.2 ≤ 127) (hrq : NQ w q rs) (ge : w.cell? ⟨1, 0, none⟩ = some er) (heq : ∀ w, (binOp .eql 72 er er).run Ybad.prog w = .ok (.bool true) w) (hgu : ∀ (x y : Operand) (w : World), (eqGuard .eql 72 x y er er).run Ybad.prog w = .ok () w) :
    Calls Ybad.prog 5 #[.bool keeps, .slice p n c, .int .u8 bf, .slice q k' d] w fun e w' => e = .returned (.bool true) ∧ Kp [] w w' := by
  have hs' : ¬ 1024 < (n : Int) := by omega
  have hks' : ¬ 1024 < (k' : Int) := by omega
  have hl1 : 1 < w.heap.size := lt_of_cell ge
  have hrq0 : Hid (NQ w q rs) := hrq
  have hq0 : Hid (SQ w p xs) := hq
  go_enter Ybad.func5, Ybad.ntmps5
  go_wp2_with (first
    | (go_at_call 12; refine (cbuild keeps p n c xs bf _ hn hs hx b0 b1 hq).mono ?_; rintro e w1 ⟨tb, lk, fb, sb, mb, sn, nbv, rfl, C1, K1, gt, gf, gl, gs, gm, hkp⟩; have c35 := C1.ct.links; obtain ⟨es, cc, i0, hm1, hf1⟩ := C1.look; have hlk := look_links7 hm1 hf1)
    | (refine wpList_load_one rfl 37 rfl rfl (.map (some mb)) Ybad.underlying37 rfl c35 ?_)
    | (refine wpList_lookup rfl rfl rfl rfl (.pointer (some ⟨lk, 0, none⟩)) hlk ?_)
    | (refine wpList_names rfl rfl k' rfl rfl hks ?_; intro C w2 hC N2; refine Hid.out ?_))
  refine Lib.hid ?_
  have F0 : F1 w w2 tb lk fb sb mb w1.heap.size nbv bf sn (pU xs n) rs 0 := F1.start C1 K1 (hk ▸ hC) N2
  obtain ⟨nb, hnb⟩ : ∃ nb, nb = w1.heap.size := ⟨_, rfl⟩
  rw [← hnb] at F0
  rw [← hnb]
  clear hnb N2 hC C1 K1 c35 hlk hm1 hf1
  go_wp2_with fail
  go_loopw [55, 13] (fun i ah wr => ∃ k : Nat, k ≤ k' ∧ i = .int .i64 k ∧ ah = .bool (hopA (rs.take k)) ∧ F1 w wr tb lk fb sb mb nb nbv bf sn (pU xs n) rs k) (fun i _ _ => k' - (intOf i).toNat)
  case atStart => exact ⟨0, by omega, rfl, rfl, F0⟩
  case round =>
    clear F0
    obtain ⟨k, hkk, rfl, rfl, F⟩ := hrel
    by_cases hlt : k < k'
    · obtain ⟨b, o, rfl, hbl, hcells⟩ := (hrq.kp F.kp) (by intro e; rw [e] at hk; simp at hk; omega)
      have cx := hcells k (by omega)
      obtain ⟨x0, x1, y0, y1⟩ := hr rs[k] (List.getElem_mem _)
      have hlay : ∀ u u' : World, F1 w u tb lk fb sb mb nb nbv bf sn (pU xs n) rs k → Kp [nb] u u' → u'.rangeAt nb (k * 34) (nmc (rs[k].1 % 16) rs[k].2) → (∀ o, (o < k * 34 ∨ k * 34 + 34 ≤ o) → u'.cell? ⟨nb, o, none⟩ = u.cell? ⟨nb, o, none⟩) → u'.there nb 0 (rs.length * 34) → F1 w u' tb lk fb sb mb nb nbv bf sn (pU xs n) rs (k + 1) := fun u u' hF K e1 e2 e3 => hF.lay (by omega) K e1 e2 e3
      have hhop : Hid (hopA (rs.take (k + 1)) = (hopA (rs.take k) || decide (0 < rs[k].2))) := hopA_succ rs k (by omega)
      have hlt' : (k : Int) < k' := by omega
      clear hcells
      generalize rs[k] = r at *
      obtain ⟨x, y⟩ := r
      simp only at x0 x1 y0 y1 cx hlay hhop
      go_wp2_with (first
        | (refine wpList_load_mid rfl 95 _ rfl _ _ rfl [.int .u8 x, .int .i8 y] _ cx Ybad.underlying95 rfl size95 ?_)
        | (refine wpList_var rfl 95 rfl _ alloc95 ?_; intro w4 N4)
        | (refine wpList_putRow rfl 95 rfl (b := wr.heap.size) (o := 0) [.int .u8 x, .int .i8 y] rfl rfl (there95 N4) size95 (by simp [Value.oneCell']) ?_; intro w5 K5 V5 s5; refine Hid.out ?_))
      refine Lib.hid ?_
      have K45 : Kp [] wr w5 := N4.kp.news K5 (by simp)
      have s4 := N4.size
      have F5 := F.kp0 K45
      have hvb : wr.heap.size < w5.heap.size := by omega
      obtain ⟨vb, hvbe⟩ : ∃ vb, vb = wr.heap.size := ⟨_, rfl⟩
      have vn : vb ≠ nb := by have := F.nlt; omega
      rw [← hvbe] at V5 hvb
      rw [← hvbe]
      clear N4 K5 K45 s4 s5 cx F hvbe hbl
      have v0 : w5.cell? ⟨vb, 0, none⟩ = some (.int .u8 x) := V5 0 _ rfl
      have v1 : w5.cell? ⟨vb, 1, none⟩ = some (.int .i8 y) := V5 1 _ rfl
      have tht : w5.there nb (k * 34) (nmc (x % 16) y).length := by
        rw [nmc_len]
        intro j hj
        have := F5.th (k * 34 + j) (by omega)
        rwa [Nat.zero_add] at this
      have hyy : HopI y := ⟨y0, y1⟩
      go_wp2_with (first
        | (refine wpList_build rfl 27 _ rfl #[(0, .int .u8 1)] (by simp only [List.map_toArray, List.map_cons, List.map_nil]; rfl) (kcl key1).toArray b27o ?_)
        | (refine wpList_build rfl 97 _ rfl #[(0, .agg (kcl key1).toArray), (1, .int .u64 (x % 16))] (by simp only [List.map_toArray, List.map_cons, List.map_nil]; rfl) (idc (x % 16)).toArray (b97 _) ?_)
        | (refine wpList_build rfl 99 _ rfl #[(0, .agg (idc (x % 16)).toArray), (1, .int .i64 y)] (by simp only [List.map_toArray, List.map_cons, List.map_nil]; rfl) (nmc (x % 16) y).toArray (b99 _ _) ?_)
        | (refine wpList_putMid rfl 99 rfl (b := nb) (o := k * 34) (nmc (x % 16) y) rfl rfl tht (size99i _ _) (nmc_one _ _) ?_; intro w6 K6 R6 O6 H6; refine Hid.out ?_))
      refine Lib.hid ?_
      have F6 := hlay w5 w6 F5 K6 R6 (by rw [nmc_len] at O6; exact O6) (H6 _ F5.th)
      have v1' : w6.cell? ⟨vb, 1, none⟩ = some (.int .i8 y) := (K6.cell (p := ⟨vb, 1, none⟩) hvb (by simpa using vn)).trans v1
      clear F5 K6 R6 O6 H6 tht v0 v1 V5 hlay
      by_cases hy : 0 < y
      · have hh : Hid (hopA (rs.take (k + 1)) = true) := by show _ = _; rw [hhop.out]; simp [hy]
        go_wp2_with fail
        go_roundw
        case rel => exact ⟨k + 1, by omega, by go_num, by rw [hh.out], F6⟩
        case measure => simp [intOf]; omega
      · have hh : Hid (hopA (rs.take (k + 1)) = hopA (rs.take k)) := by show _ = _; rw [hhop.out]; simp [hy]
        go_wp2_with fail
        go_roundw
        case rel => exact ⟨k + 1, by omega, by go_num, by rw [hh.out], F6⟩
        case measure => simp [intOf]; omega
    · have hkn : k = rs.length := by omega
      subst hkn
      have hF := F.ta (by omega) (fun r hr' => (hr r hr').1)
      have hnl : (nsOf rs).length = rs.length := by simp [nsOf]
      have kpF := F.kp
      have hl1' : 1 < wr.heap.size := Nat.lt_of_lt_of_le hl1 kpF.size
      have ge' : wr.cell? ⟨1, 0, none⟩ = some er := (kpF.cell (p := ⟨1, 0, none⟩) hl1 (by simp)).trans ge
      have nt1 : tb ≠ 1 := by omega
      have nf1 : fb ≠ 1 := by omega
      have htk : Hid (hopA (rs.take rs.length) = hopA rs) := by show _ = _; rw [List.take_length]
      have rq := hrq.kp kpF
      have sq := hq.kp kpF
      clear F hrq hq
      subst hk
      by_cases hno : keeps = false ∧ hopA rs = true
      · obtain ⟨rfl, hho⟩ := hno
        have hnb : nbv = .pointer none := by rcases hkp with ⟨e, _⟩ | ⟨_, e⟩; cases e; exact e
        subst hnb
        have hho' : hopA (rs.take rs.length) = true := by rw [htk.out, hho]
        have hgu3 := hgu
        have qsl := eql_slice_nil
        go_wp2_with (first
          | (refine wpList_build rfl 43 _ rfl #[] (by rfl) #[.int .u64 0, .int .i64 0, .pointer none] (by kernel_rfl) ?_)
          | (go_at_call 13; refine (takeAnn_no tb lk fb sb nb mb sn rs.length bf _ (nsOf rs) er _ hF hnl ((hopA_any rs).1 hho) ge' nt1).mono ?_; rintro e w3 ⟨rfl, cc, c51, K3⟩; have ge3 := (K3.cell (p := ⟨1, 0, none⟩) hl1' (by simp; omega)).trans ge'; have heq3 := heq w3))
        go_ret
        exact ⟨rfl, kpF.news K3 (by simp; omega)⟩
      · have hk2 : (keeps = true ∧ ∃ a, nbv = .pointer (some a)) ∨ (keeps = false ∧ nbv = .pointer none ∧ ¬ AnyHop (nsOf rs)) := by
          rcases hkp with ⟨e, h⟩ | ⟨e, h⟩
          · exact .inl ⟨e, h⟩
          · exact .inr ⟨e, h, fun ha => hno ⟨e, (hopA_any rs).2 ha⟩⟩
        have hb : keeps = true ∨ (keeps = false ∧ hopA rs = false) := by
          cases keeps
          · exact .inr ⟨rfl, by simpa using hno⟩
          · exact .inl rfl
        obtain ⟨us, l, hst⟩ : ∃ us l, (nsOf rs).foldl (stepA (pU xs n) bf keeps) ([], []) = (us, l) := ⟨_, _, rfl⟩
        have HST : Hid ((nsOf rs).foldl (stepA (pU xs n) bf keeps) ([], []) = (us, l)) := hst
        have hTA := takeAnn tb lk fb sb nb mb sn rs.length keeps nbv bf (pU xs n) (nsOf rs) wr hF hnl hk2
        rw [hst] at hTA
        simp only at hTA
        clear hno hst hF hk2
        rcases hb with hb | ⟨hb, hb2⟩
        case inl =>
          subst hb
          go_wp2_with (first
            | (refine wpList_build rfl 43 _ rfl #[] (by rfl) #[.int .u64 0, .int .i64 0, .pointer none] (by kernel_rfl) ?_)
            | (go_at_call 13; refine hTA.mono ?_; rintro e w3 ⟨sv, M, E, rfl, S3, T3, A3, K3⟩)
            | (refine wpList_var rfl 104 rfl _ alloc104 ?_; intro w4 N4; refine Hid.out ?_))
          refine Lib.hid ?_
          have KW : Kp [] w w4 := (kpF.news K3 (by simp; omega)).trans N4.kp
          have G0 := G2.start T3 A3 S3 N4 KW (Nat.le_trans kpF.size K3.size)
          obtain ⟨ub, hub⟩ : ∃ ub, ub = w3.heap.size := ⟨_, rfl⟩
          rw [← hub] at G0
          rw [← hub]
          clear hub N4 K3 T3 A3 S3 hTA KW kpF ge' hl1' rq sq
          go_wp2_with fail
          go_loopw [121, 19, 20, 22] (fun i kk ew cnt wr => ∃ j : Nat, j ≤ rs.length ∧ i = .int .i64 j ∧ kk = .int .i64 ((stA (pU xs n) bf true (nsOf rs) j).2.length : Int) ∧ ew = .bool ((stA (pU xs n) bf true (nsOf rs) j).1.length != 0) ∧ cnt = .int .i64 ((stA (pU xs n) bf true (nsOf rs) j).1.length : Int) ∧ G2 w wr tb lk fb ub sv l us (stA (pU xs n) bf true (nsOf rs) j).1) (fun i _ _ _ _ => rs.length - (intOf i).toNat)
          case atStart => exact ⟨0, by omega, rfl, rfl, rfl, rfl, G0⟩
          case round =>
            clear G0
            obtain ⟨j, hjj, rfl, rfl, rfl, rfl, G⟩ := hrel
            have hbnd := stA_us (pl := pU xs n) (bf := bf) (kp := true) (ns := nsOf rs) j
            by_cases hlt : j < rs.length
            · obtain ⟨b, o, rfl, hbl, hcells⟩ := (hrq0.out.kp G.kp) (by intro e; rw [e] at hlt; simp at hlt)
              have cx := hcells j hlt
              obtain ⟨x0, x1, -, -⟩ := hr rs[j] (List.getElem_mem _)
              have hnj : (nsOf rs)[j]'(by omega) = (rs[j].1 % 16, rs[j].2) := by simp [nsOf]
              have hj2 : j < (nsOf rs).length := by omega
              have hlt' : (j : Int) < rs.length := by omega
              have hm1 : ((nsOf rs)[j]'hj2).1 = rs[j].1 % 16 := by rw [hnj]
              clear hcells hnj
              generalize rs[j] = r at *
              obtain ⟨x, y⟩ := r
              simp only at x0 x1 cx hm1
              go_wp2_with (first
                | (refine wpList_load_mid rfl 95 _ rfl _ _ rfl [.int .u8 x, .int .i8 y] _ cx Ybad.underlying95 rfl size95 ?_)
                | (refine wpList_var rfl 95 rfl _ alloc95 ?_; intro w4 N4)
                | (refine wpList_putRow rfl 95 rfl (b := wr.heap.size) (o := 0) [.int .u8 x, .int .i8 y] rfl rfl (there95 N4) size95 (by simp [Value.oneCell']) ?_; intro w5 K5 V5 s5; refine Hid.out ?_))
              refine Lib.hid ?_
              have G5 := G.kp0 (N4.kp.news K5 (by simp))
              have v0 : w5.cell? ⟨wr.heap.size, 0, none⟩ = some (.int .u8 x) := V5 0 _ rfl
              clear N4 K5 V5 s5 cx G hbl
              go_wp2_with fail
              have hm2 : 0 ≤ x % 16 ∧ x % 16 < 16 := by omega
              clear v0 x0 x1
              generalize x % 16 = mI at *
              obtain ⟨m, rfl⟩ : ∃ m : Nat, mI = m := ⟨mI.toNat, by omega⟩
              have hmlt : m < 16 := by omega
              clear hm2
              have cu := G5.bits.bit m hmlt
              have fu := G5.bits.thaw m
              go_loopw [28, 26, 27] (fun jj hd pc w2 => ∃ z : Nat, z ≤ n ∧ jj = .int .i64 ((z : Int) - 1) ∧ hd = .bool false ∧ pc = .int .u64 0 ∧ Hid (pU xs n m = pU xs z m) ∧ w2 = w5) (fun jj _ _ _ => (intOf jj + 1).toNat)
              case atStart => exact ⟨n, by omega, rfl, rfl, rfl, rfl, rfl⟩
              case round =>
                obtain ⟨z, hz, rfl, rfl, rfl, hpz, rfl⟩ := hrel
                cases z with
                | zero =>
                  have hpl : pU xs n m = none := hpz.out
                  have hnx := stA_none (bf := bf) (kp := true) hj2 hm1 hpl
                  have HNX : Hid (stA (pU xs n) bf true (nsOf rs) (j + 1) = (if (m : Int) ∈ (stA (pU xs n) bf true (nsOf rs) j).1 then (stA (pU xs n) bf true (nsOf rs) j).1 else (stA (pU xs n) bf true (nsOf rs) j).1 ++ [(m : Int)], (stA (pU xs n) bf true (nsOf rs) j).2)) := hnx
                  clear hnx hpz hm1
                  generalize stA (pU xs n) bf true (nsOf rs) j = S at *
                  by_cases hmem : (m : Int) ∈ S.1
                  · have hd : decide ((m : Int) ∈ S.1) = true := by simpa using hmem
                    rw [hd] at cu
                    have hne : Hid (S.1.length ≠ 0) := fun e => by rw [List.length_eq_zero_iff.1 e] at hmem; simp at hmem
                    have HN2 : Hid (stA (pU xs n) bf true (nsOf rs) (j + 1) = S) := by show _ = _; rw [HNX.out, if_pos hmem]
                    clear HNX hmem hd
                    go_wp2_with fail
                    go_roundw
                    case rel => exact ⟨j + 1, by omega, by go_num, by rw [HN2.out], by rw [HN2.out]; simp [hne.out], by rw [HN2.out], by rw [HN2.out]; exact G5⟩
                    case measure => simp [intOf]; omega
                  · have hd : decide ((m : Int) ∈ S.1) = false := by simpa using hmem
                    rw [hd] at cu
                    have HN2 : Hid (stA (pU xs n) bf true (nsOf rs) (j + 1) = (S.1 ++ [(m : Int)], S.2)) := by show _ = _; rw [HNX.out, if_neg hmem]
                    clear HNX hmem hd
                    go_wp2_with (first
                      | (refine wpList_put1 rfl 4 rfl rfl (.bool true) rfl rfl size4 cu fu ?_; intro w6 P6; refine Hid.out ?_))
                    refine Lib.hid ?_
                    have G6 := G5.mark P6
                    clear G5 P6 cu fu
                    go_wp2_with fail
                    go_roundw
                    case rel => exact ⟨j + 1, by omega, by go_num, by rw [HN2.out], by rw [HN2.out]; simp, by rw [HN2.out]; simp, by rw [HN2.out]; exact G6⟩
                    case measure => simp [intOf]; omega
                | succ z =>
                  obtain ⟨b2, o2, rfl, hbl2, hcells2⟩ := (hq0.out.kp G5.kp) (by intro e; rw [e] at hn; simp at hn; omega)
                  have cx := hcells2 z (by omega)
                  obtain ⟨u0, u1⟩ := hx xs[z] (List.getElem_mem _)
                  have hgd : xs.getD z 0 = xs[z] := by simp [List.getD, List.getElem?_eq_getElem (show z < xs.length by omega)]
                  have hpu : Hid (pU xs n m = if xs[z] % 16 = (m : Int) then some (z : Int) else pU xs z m) := by
                    show _ = _
                    rw [hpz.out]
                    simp only [pU, hgd]
                  have hz1 : ((z + 1 : Nat) : Int) - 1 = (z : Int) := by omega
                  have hzn : (z : Int) < n := by omega
                  have hz2 : (z : Int) ≤ 1024 := by omega
                  clear hcells2 hgd hpz
                  generalize xs[z] = u at *
                  by_cases hu : u % 16 = (m : Int)
                  · rw [if_pos hu] at hpu
                    have hub2 : (u % 16 == (m : Int)) = true := by simpa using hu
                    clear hu
                    by_cases hqb : (z : Int) < bf
                    · obtain ⟨hkl, hat⟩ := stA_at (bf := bf) (kp := true) hj2 hm1 hpu.out hqb (l := l) (by rw [HST.out])
                      have HNX : Hid (stA (pU xs n) bf true (nsOf rs) (j + 1) = ((stA (pU xs n) bf true (nsOf rs) j).1, (stA (pU xs n) bf true (nsOf rs) j).2 ++ [(7, frameA true (m : Int))])) := stA_less hj2 hm1 hpu.out hqb
                      clear hm1
                      obtain ⟨gg, c2, g, cap, rfl, R, Rg, hgl⟩ := G5.at' hkl hat
                      generalize stA (pU xs n) bf true (nsOf rs) j = S at *
                      have hkl' : (S.2.length : Int) < l.length := by omega
                      have hkk : (S.2.length : Int) ≤ 1024 := by omega
                      clear hat
                      go_wp2_with (first
                        | (refine wpList_load_mid rfl 79 _ rfl _ _ rfl _ _ R Ybad.underlying79 rfl size79 ?_)
                        | (refine wpList_var rfl 79 rfl _ alloc79 ?_; intro w6 N6)
                        | (refine wpList_putRow rfl 79 rfl (b := wr.heap.size) (o := 0) [.int .i64 7, .slice (some ⟨g, 0, none⟩) (frameA true (m : Int)).length cap, .bool false] rfl rfl (there79 N6) size79 (by simp [Value.oneCell']) ?_; intro w7 K7 V7 s7; refine Hid.out ?_))
                      refine Lib.hid ?_
                      have K07 : Kp [] wr w7 := N6.kp.news K7 (by simp)
                      have G7 := G5.kp0 K07
                      have R7 := range_kp Rg K07 hgl
                      have v0 : w7.cell? ⟨wr.heap.size, 0, none⟩ = some (.int .i64 7) := V7 0 _ rfl
                      have v1 : w7.cell? ⟨wr.heap.size, 1, none⟩ = some (.slice (some ⟨g, 0, none⟩) 3 cap) := V7 1 _ rfl
                      have v2 : w7.cell? ⟨wr.heap.size, 2, none⟩ = some (.bool false) := V7 2 _ rfl
                      have f0 : w7.cell? ⟨g, 0, none⟩ = some (.int .u8 2) := R7 0 _ rfl
                      have f1 : w7.cell? ⟨g, 1, none⟩ = some (.int .u8 (m : Int)) := R7 1 _ rfl
                      have f2 : w7.cell? ⟨g, 2, none⟩ = some (.int .u8 255) := R7 2 _ rfl
                      clear V7 R7 Rg R N6 K7 K07 G5 s7 cx
                      go_wp2_with fail
                      go_roundw
                      case rel => exact ⟨j + 1, by omega, by go_num, by rw [HNX.out]; simp, by rw [HNX.out], by rw [HNX.out], by rw [HNX.out]; exact G7⟩
                      case measure => simp [intOf]; omega
                    · have HNX : Hid (stA (pU xs n) bf true (nsOf rs) (j + 1) = stA (pU xs n) bf true (nsOf rs) j) := stA_more hj2 hm1 hpu.out hqb
                      clear hm1 hpu
                      generalize stA (pU xs n) bf true (nsOf rs) j = S at *
                      go_wp2_with fail
                      go_roundw
                      case rel => exact ⟨j + 1, by omega, by go_num, by rw [HNX.out], by rw [HNX.out], by rw [HNX.out], by rw [HNX.out]; exact G5⟩
                      case measure => simp [intOf]; omega
                  · rw [if_neg hu] at hpu
                    have hub2 : (u % 16 == (m : Int)) = false := by simpa using hu
                    clear hu
                    go_wp2_with fail
                    go_roundw
                    case rel => exact ⟨z, by omega, rfl, rfl, rfl, hpu, trivial⟩
                    case measure => simp [intOf]
            · have hjn : j = rs.length := by omega
              have hall : Hid (stA (pU xs n) bf true (nsOf rs) j = (us, l)) := by
                show _ = _
                rw [hjn, ← hnl, stA_all, HST.out]
              rw [hall.out] at G hbnd
              simp only [hall.out]
              simp only at G hbnd
              clear hall HST
              have hkp' := G.kp
              have cc := G.calls
              have hsl : ∃ sp sc, sv = .slice sp l.length sc := by
                obtain ⟨w3, h1, _⟩ := G.sent
                rcases h1 with ⟨e1, e2⟩ | ⟨gg, c9, _, _, e1, _⟩
                · exact ⟨none, 0, by rw [e1, e2]; rfl⟩
                · exact ⟨_, _, e1⟩
              obtain ⟨sp, sc, rfl⟩ := hsl
              by_cases hu : us = []
              · subst hu
                obtain ⟨c51, c54⟩ := G.by0 rfl
                have hlk0 := look_nil57 wr lk
                clear G
                go_wp2_with fail
                go_ret
                exact ⟨rfl, hkp'⟩
              · obtain ⟨bm, cm, es9, c9, c51, c54, hb9, hes, hmc, -, -⟩ := G.by1 hu
                have hlk1 := hmc.look
                have hlen := len_map55 hb9 hes
                clear G hmc
                go_wp2_with fail
                go_ret
                exact ⟨rfl, hkp'⟩
        case inr =>
          subst hb
          go_wp2_with (first
            | (refine wpList_build rfl 43 _ rfl #[] (by rfl) #[.int .u64 0, .int .i64 0, .pointer none] (by kernel_rfl) ?_)
            | (go_at_call 13; refine hTA.mono ?_; rintro e w3 ⟨sv, M, E, rfl, S3, T3, A3, K3⟩)
            | (refine wpList_var rfl 104 rfl _ alloc104 ?_; intro w4 N4; refine Hid.out ?_))
          refine Lib.hid ?_
          have KW : Kp [] w w4 := (kpF.news K3 (by simp; omega)).trans N4.kp
          have G0 := G2.start T3 A3 S3 N4 KW (Nat.le_trans kpF.size K3.size)
          obtain ⟨ub, hub⟩ : ∃ ub, ub = w3.heap.size := ⟨_, rfl⟩
          rw [← hub] at G0
          rw [← hub]
          clear hub N4 K3 T3 A3 S3 hTA KW kpF ge' hl1' rq sq
          go_wp2_with fail
          go_loopw [121, 19, 20, 22] (fun i kk ew cnt wr => ∃ j : Nat, j ≤ rs.length ∧ i = .int .i64 j ∧ kk = .int .i64 ((stA (pU xs n) bf false (nsOf rs) j).2.length : Int) ∧ ew = .bool ((stA (pU xs n) bf false (nsOf rs) j).1.length != 0) ∧ cnt = .int .i64 ((stA (pU xs n) bf false (nsOf rs) j).1.length : Int) ∧ G2 w wr tb lk fb ub sv l us (stA (pU xs n) bf false (nsOf rs) j).1) (fun i _ _ _ _ => rs.length - (intOf i).toNat)
          case atStart => exact ⟨0, by omega, rfl, rfl, rfl, rfl, G0⟩
          case round =>
            clear G0
            obtain ⟨j, hjj, rfl, rfl, rfl, rfl, G⟩ := hrel
            have hbnd := stA_us (pl := pU xs n) (bf := bf) (kp := false) (ns := nsOf rs) j
            by_cases hlt : j < rs.length
            · obtain ⟨b, o, rfl, hbl, hcells⟩ := (hrq0.out.kp G.kp) (by intro e; rw [e] at hlt; simp at hlt)
              have cx := hcells j hlt
              obtain ⟨x0, x1, -, -⟩ := hr rs[j] (List.getElem_mem _)
              have hnj : (nsOf rs)[j]'(by omega) = (rs[j].1 % 16, rs[j].2) := by simp [nsOf]
              have hj2 : j < (nsOf rs).length := by omega
              have hlt' : (j : Int) < rs.length := by omega
              have hm1 : ((nsOf rs)[j]'hj2).1 = rs[j].1 % 16 := by rw [hnj]
              clear hcells hnj
              generalize rs[j] = r at *
              obtain ⟨x, y⟩ := r
              simp only at x0 x1 cx hm1
              go_wp2_with (first
                | (refine wpList_load_mid rfl 95 _ rfl _ _ rfl [.int .u8 x, .int .i8 y] _ cx Ybad.underlying95 rfl size95 ?_)
                | (refine wpList_var rfl 95 rfl _ alloc95 ?_; intro w4 N4)
                | (refine wpList_putRow rfl 95 rfl (b := wr.heap.size) (o := 0) [.int .u8 x, .int .i8 y] rfl rfl (there95 N4) size95 (by simp [Value.oneCell']) ?_; intro w5 K5 V5 s5; refine Hid.out ?_))
              refine Lib.hid ?_
              have G5 := G.kp0 (N4.kp.news K5 (by simp))
              have v0 : w5.cell? ⟨wr.heap.size, 0, none⟩ = some (.int .u8 x) := V5 0 _ rfl
              clear N4 K5 V5 s5 cx G hbl
              go_wp2_with fail
              have hm2 : 0 ≤ x % 16 ∧ x % 16 < 16 := by omega
              clear v0 x0 x1
              generalize x % 16 = mI at *
              obtain ⟨m, rfl⟩ : ∃ m : Nat, mI = m := ⟨mI.toNat, by omega⟩
              have hmlt : m < 16 := by omega
              clear hm2
              have cu := G5.bits.bit m hmlt
              have fu := G5.bits.thaw m
              go_loopw [28, 26, 27] (fun jj hd pc w2 => ∃ z : Nat, z ≤ n ∧ jj = .int .i64 ((z : Int) - 1) ∧ hd = .bool false ∧ pc = .int .u64 0 ∧ Hid (pU xs n m = pU xs z m) ∧ w2 = w5) (fun jj _ _ _ => (intOf jj + 1).toNat)
              case atStart => exact ⟨n, by omega, rfl, rfl, rfl, rfl, rfl⟩
              case round =>
                obtain ⟨z, hz, rfl, rfl, rfl, hpz, rfl⟩ := hrel
                cases z with
                | zero =>
                  have hpl : pU xs n m = none := hpz.out
                  have hnx := stA_none (bf := bf) (kp := false) hj2 hm1 hpl
                  have HNX : Hid (stA (pU xs n) bf false (nsOf rs) (j + 1) = (if (m : Int) ∈ (stA (pU xs n) bf false (nsOf rs) j).1 then (stA (pU xs n) bf false (nsOf rs) j).1 else (stA (pU xs n) bf false (nsOf rs) j).1 ++ [(m : Int)], (stA (pU xs n) bf false (nsOf rs) j).2)) := hnx
                  clear hnx hpz hm1
                  generalize stA (pU xs n) bf false (nsOf rs) j = S at *
                  by_cases hmem : (m : Int) ∈ S.1
                  · have hd : decide ((m : Int) ∈ S.1) = true := by simpa using hmem
                    rw [hd] at cu
                    have hne : Hid (S.1.length ≠ 0) := fun e => by rw [List.length_eq_zero_iff.1 e] at hmem; simp at hmem
                    have HN2 : Hid (stA (pU xs n) bf false (nsOf rs) (j + 1) = S) := by show _ = _; rw [HNX.out, if_pos hmem]
                    clear HNX hmem hd
                    go_wp2_with fail
                    go_roundw
                    case rel => exact ⟨j + 1, by omega, by go_num, by rw [HN2.out], by rw [HN2.out]; simp [hne.out], by rw [HN2.out], by rw [HN2.out]; exact G5⟩
                    case measure => simp [intOf]; omega
                  · have hd : decide ((m : Int) ∈ S.1) = false := by simpa using hmem
                    rw [hd] at cu
                    have HN2 : Hid (stA (pU xs n) bf false (nsOf rs) (j + 1) = (S.1 ++ [(m : Int)], S.2)) := by show _ = _; rw [HNX.out, if_neg hmem]
                    clear HNX hmem hd
                    go_wp2_with (first
                      | (refine wpList_put1 rfl 4 rfl rfl (.bool true) rfl rfl size4 cu fu ?_; intro w6 P6; refine Hid.out ?_))
                    refine Lib.hid ?_
                    have G6 := G5.mark P6
                    clear G5 P6 cu fu
                    go_wp2_with fail
                    go_roundw
                    case rel => exact ⟨j + 1, by omega, by go_num, by rw [HN2.out], by rw [HN2.out]; simp, by rw [HN2.out]; simp, by rw [HN2.out]; exact G6⟩
                    case measure => simp [intOf]; omega
                | succ z =>
                  obtain ⟨b2, o2, rfl, hbl2, hcells2⟩ := (hq0.out.kp G5.kp) (by intro e; rw [e] at hn; simp at hn; omega)
                  have cx := hcells2 z (by omega)
                  obtain ⟨u0, u1⟩ := hx xs[z] (List.getElem_mem _)
                  have hgd : xs.getD z 0 = xs[z] := by simp [List.getD, List.getElem?_eq_getElem (show z < xs.length by omega)]
                  have hpu : Hid (pU xs n m = if xs[z] % 16 = (m : Int) then some (z : Int) else pU xs z m) := by
                    show _ = _
                    rw [hpz.out]
                    simp only [pU, hgd]
                  have hz1 : ((z + 1 : Nat) : Int) - 1 = (z : Int) := by omega
                  have hzn : (z : Int) < n := by omega
                  have hz2 : (z : Int) ≤ 1024 := by omega
                  clear hcells2 hgd hpz
                  generalize xs[z] = u at *
                  by_cases hu : u % 16 = (m : Int)
                  · rw [if_pos hu] at hpu
                    have hub2 : (u % 16 == (m : Int)) = true := by simpa using hu
                    clear hu
                    by_cases hqb : (z : Int) < bf
                    · obtain ⟨hkl, hat⟩ := stA_at (bf := bf) (kp := false) hj2 hm1 hpu.out hqb (l := l) (by rw [HST.out])
                      have HNX : Hid (stA (pU xs n) bf false (nsOf rs) (j + 1) = ((stA (pU xs n) bf false (nsOf rs) j).1, (stA (pU xs n) bf false (nsOf rs) j).2 ++ [(7, frameA false (m : Int))])) := stA_less hj2 hm1 hpu.out hqb
                      clear hm1
                      obtain ⟨gg, c2, g, cap, rfl, R, Rg, hgl⟩ := G5.at' hkl hat
                      generalize stA (pU xs n) bf false (nsOf rs) j = S at *
                      have hkl' : (S.2.length : Int) < l.length := by omega
                      have hkk : (S.2.length : Int) ≤ 1024 := by omega
                      clear hat
                      go_wp2_with (first
                        | (refine wpList_load_mid rfl 79 _ rfl _ _ rfl _ _ R Ybad.underlying79 rfl size79 ?_)
                        | (refine wpList_var rfl 79 rfl _ alloc79 ?_; intro w6 N6)
                        | (refine wpList_putRow rfl 79 rfl (b := wr.heap.size) (o := 0) [.int .i64 7, .slice (some ⟨g, 0, none⟩) (frameA false (m : Int)).length cap, .bool false] rfl rfl (there79 N6) size79 (by simp [Value.oneCell']) ?_; intro w7 K7 V7 s7; refine Hid.out ?_))
                      refine Lib.hid ?_
                      have K07 : Kp [] wr w7 := N6.kp.news K7 (by simp)
                      have G7 := G5.kp0 K07
                      have R7 := range_kp Rg K07 hgl
                      have v0 : w7.cell? ⟨wr.heap.size, 0, none⟩ = some (.int .i64 7) := V7 0 _ rfl
                      have v1 : w7.cell? ⟨wr.heap.size, 1, none⟩ = some (.slice (some ⟨g, 0, none⟩) 2 cap) := V7 1 _ rfl
                      have v2 : w7.cell? ⟨wr.heap.size, 2, none⟩ = some (.bool false) := V7 2 _ rfl
                      have f0 : w7.cell? ⟨g, 0, none⟩ = some (.int .u8 1) := R7 0 _ rfl
                      have f1 : w7.cell? ⟨g, 1, none⟩ = some (.int .u8 (m : Int)) := R7 1 _ rfl
                      clear V7 R7 Rg R N6 K7 K07 G5 s7 cx
                      go_wp2_with fail
                      go_roundw
                      case rel => exact ⟨j + 1, by omega, by go_num, by rw [HNX.out]; simp, by rw [HNX.out], by rw [HNX.out], by rw [HNX.out]; exact G7⟩
                      case measure => simp [intOf]; omega
                    · have HNX : Hid (stA (pU xs n) bf false (nsOf rs) (j + 1) = stA (pU xs n) bf false (nsOf rs) j) := stA_more hj2 hm1 hpu.out hqb
                      clear hm1 hpu
                      generalize stA (pU xs n) bf false (nsOf rs) j = S at *
                      go_wp2_with fail
                      go_roundw
                      case rel => exact ⟨j + 1, by omega, by go_num, by rw [HNX.out], by rw [HNX.out], by rw [HNX.out], by rw [HNX.out]; exact G5⟩
                      case measure => simp [intOf]; omega
                  · rw [if_neg hu] at hpu
                    have hub2 : (u % 16 == (m : Int)) = false := by simpa using hu
                    clear hu
                    go_wp2_with fail
                    go_roundw
                    case rel => exact ⟨z, by omega, rfl, rfl, rfl, hpu, trivial⟩
                    case measure => simp [intOf]
            · have hjn : j = rs.length := by omega
              have hall : Hid (stA (pU xs n) bf false (nsOf rs) j = (us, l)) := by
                show _ = _
                rw [hjn, ← hnl, stA_all, HST.out]
              rw [hall.out] at G hbnd
              simp only [hall.out]
              simp only at G hbnd
              clear hall HST
              have hkp' := G.kp
              have cc := G.calls
              have hsl : ∃ sp sc, sv = .slice sp l.length sc := by
                obtain ⟨w3, h1, _⟩ := G.sent
                rcases h1 with ⟨e1, e2⟩ | ⟨gg, c9, _, _, e1, _⟩
                · exact ⟨none, 0, by rw [e1, e2]; rfl⟩
                · exact ⟨_, _, e1⟩
              obtain ⟨sp, sc, rfl⟩ := hsl
              by_cases hu : us = []
              · subst hu
                obtain ⟨c51, c54⟩ := G.by0 rfl
                have hlk0 := look_nil57 wr lk
                clear G
                go_wp2_with fail
                go_ret
                exact ⟨rfl, hkp'⟩
              · obtain ⟨bm, cm, es9, c9, c51, c54, hb9, hes, hmc, -, -⟩ := G.by1 hu
                have hlk1 := hmc.look
                have hlen := len_map55 hb9 hes
                clear G hmc
                go_wp2_with fail
                go_ret
                exact ⟨rfl, hkp'⟩
end Go.Proofs.YbulkdaeyDoor
