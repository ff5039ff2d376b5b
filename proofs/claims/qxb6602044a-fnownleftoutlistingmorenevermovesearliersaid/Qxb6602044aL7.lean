import Derived.Test.Qxb6602044aV
import Derived.Test.Qxb6602044aPl3
import Derived.Test.Qxb6602044aW3
import Derived.Test.Qxb6602044aW4
import Derived.Test.Qxb6602044aW8
import Derived.Test.Qxb6602044aW9
namespace Go.Proofs.Qxb6602044a
open Go.RowKit
set_option linter.unusedVariables false

theorem mk_room (n : Nat) (hn : n ≤ 4194304) (w : World) : (Instr.makeSlice 22 (.int .i64 0) (.int .i64 (n : Int))).run Try.prog w =
    .ok (.slice (some ⟨w.heap.size, 0, none⟩) 0 n) (w.alloc (.cells (List.replicate n (.int .i64 0)).toArray 3)) := by
  obtain ⟨i0, hi, hz0, hz1, hz2⟩ := info_parts Try.info3
  have h := run_make (P := Try.prog) w 22 3 i0 _ Try.underlying22 hi hz0 .i64 .i64 0 (n : Int) (by omega) (by omega) (by rw [hz2]; omega) (by omega)
  rw [h, hz1, Nat.mul_one, Int.toNat_natCast, madeCells_replicate _ _ rfl]
  rfl

theorem NVals.set {lo : Nat} {w : World} {vs : List Value} {rows : List (List Int)} (h : NVals lo w vs rows) (q : Nat) {a : Option Addr} {cap : Nat} {r : List Int} (ha : a = none → r.length = 0 ∧ cap = 0) (hr : Reads lo w a (r.map (Value.int .i64))) :
    NVals lo w (vs.set q (.slice a r.length cap)) (rows.set q r) := by
  refine ⟨by simp [h.1], fun i hi => ?_⟩
  have hi' : i < rows.length := by simpa using hi
  by_cases hq : q = i
  · subst hq
    refine ⟨a, cap, ?_, ?_, ?_⟩
    · rw [List.getElem?_set_self (by rw [h.1]; exact hi')]; simp
    · simpa using ha
    · simpa using hr
  · obtain ⟨a', cap', h1, h2, h3⟩ := h.2 i hi'
    refine ⟨a', cap', ?_, ?_, ?_⟩
    · rw [List.getElem?_set_ne hq]; simpa [List.getElem_set_ne hq] using h1
    · simpa [List.getElem_set_ne hq] using h2
    · simpa [List.getElem_set_ne hq] using h3

theorem reads_own {w : World} {base g n cap : Nat} {xs : List Int} (h : w.ownsRow base 3 1 (.slice (some ⟨g, 0, none⟩) n cap) n (xs.map (Value.int .i64))) : Reads base w (some ⟨g, 0, none⟩) (xs.map (Value.int .i64)) := by
  rcases h.2 with ⟨hv, _⟩ | ⟨g', cap', cur, hv, hb, hh, hn, hc, hs, ht⟩
  · cases hv
  · simp only [Value.slice.injEq, Option.some.injEq, Addr.mk.injEq] at hv
    obtain ⟨⟨rfl, _⟩, _, rfl⟩ := hv
    intro i hi
    refine ⟨g, 0, rfl, hb, (Array.getElem?_eq_some_iff.1 hh).1, ?_⟩
    rw [Nat.zero_add, cell_of_row w g i cur 3 (0, 0) hh]
    have hl := h.1
    have : cur.toList[i]? = (xs.map (Value.int .i64))[i]? := by
      rw [← ht, List.getElem?_take]
      rw [if_pos (by omega)]
    rw [← Array.getElem?_toList, this, List.getElem?_eq_getElem hi]

set_option maxRecDepth 100000 in
set_option maxHeartbeats 8000000 in
theorem walk7 (a0 a1 a2 a3 a4 a5 a6 a7 a9 : Option Addr) (l0 l1 l2 l3 l4 l5 l6 l7 l9 c0 c1 c2 c3 c4 c5 c6 c7 c9 : Nat) (wt : List Int) (wi wp ri : List ByteArray) (pt : List Int) (pp : List ByteArray) (pv : List Value) (rows : List (List Int)) (pb : List Int) (q : Int) (mr : List Int) (w : World)
    (v0 : VInts w a0 l0 c0 wt) (v1 : VStrs w a1 l1 c1 wi) (v2 : VStrs w a2 l2 c2 wp) (v3 : VStrs w a3 l3 c3 ri) (v4 : VInts w a4 l4 c4 pt) (v5 : VStrs w a5 l5 c5 pp) (v6 : VRows w a6 l6 c6 pv rows) (v7 : VInts w a7 l7 c7 pb) (v8 : (Lit.int .i64 q).wf = true) (v9 : VInts w a9 l9 c9 mr) :
    Calls Try.prog 7 #[.slice a0 l0 c0, .slice a1 l1 c1, .slice a2 l2 c2, .slice a3 l3 c3, .slice a4 l4 c4, .slice a5 l5 c5, .slice a6 l6 c6, .slice a7 l7 c7, .int .i64 q, .slice a9 l9 c9] w fun e w' => e = .returned (.bool true) ∧ Below w.heap.size w w' := by
  have hnil := fun (w : World) (a : Option Addr) (n c : Nat) => Lib.run_eql_slice_nil (P := Try.prog) w 22 3 a n c 0 0 Try.underlying22
  have K1 := hide (bytes29 w a0 l0 c0 a1 l1 c1 a2 l2 c2 a3 l3 c3 a4 l4 c4 a5 l5 c5 a6 l6 c6 a7 l7 c7 q a9 l9 c9 wi v1.len v1.reads wp v2.len v2.reads ri v3.len v3.reads pp v5.len v5.reads pv rows v6.len v6.reads v6.vals v0.max v1.max v1.each v2.max v2.each v3.max v3.each v4.max v5.max v5.each v6.max v6.each v7.max v9.max)
  go_enter Try.func7, Try.ntmps7
  go_wp2_with fail
  refine Calls.mono (Hid.out K1) ?_
  rintro e w1 ⟨r1, rfl, hw, hsm⟩
  subst w1
  cases r1 with
  | false =>
    go_wp2
    go_ret
    exact ⟨rfl, Below.refl _ _⟩
  | true =>
    obtain ⟨g0, g1, g2, g3, g4, g5, g6, g7, g9, g8⟩ := hsm rfl
    clear K1 hsm
    have K2 := hide (tooBig_any w a0 a1 a2 a3 a4 a5 a6 a7 a9 l0 l1 l2 l3 l4 l5 l6 l7 l9 c0 c1 c2 c3 c4 c5 c6 c7 c9 wi wp ri pp pv rows g0 g1 g2 g3 g4 g5 g6 g7 g9 v1.len v1.reads v1.each v2.len v2.reads v2.each v3.len v3.reads v3.each v5.len v5.reads v5.each v6.len v6.reads v6.vals v6.each)
    go_wp2_with fail
    refine Calls.mono (Hid.out K2) ?_
    rintro e w1 ⟨r1, rfl, hw, _⟩
    subst w1
    clear K2
    cases r1 with
    | true =>
      go_wp2
      go_ret
      exact ⟨rfl, Below.refl _ _⟩
    | false =>
      have B0 : Below w.heap.size w w := Below.refl _ _
      have hl0 := v0.len
      have hl1 := v1.len
      have hl2 := v2.len
      have hl3 := v3.len
      have hl4 := v4.len
      have hl5 := v5.len
      have hl6 := v6.len
      have hl7 := v7.len
      have hl9 := v9.len
      have Hg8 := hide g8
      clear g8
      go_wp2_with fail
      refine (cloneInts_any a0 l0 c0 wt _ v0.len g0 v0.nil (v0.reads.below B0 (Nat.le_refl _))).mono ?_
      rintro e w1 ⟨b0, d0, rfl, n0, R0, B1⟩
      replace B1 := B0.trans (B1.mono B0.size)
      clear B0
      go_wp2_with fail
      refine (cloneStrs_any a1 l1 c1 wi _ v1.len g1 v1.nil (v1.reads.below B1 (Nat.le_refl _))).mono ?_
      rintro e w2 ⟨b1, d1, rfl, n1, R1, B2⟩
      replace R0 := R0.below B2 (Nat.le_refl _)
      replace B2 := B1.trans (B2.mono B1.size)
      clear B1
      go_wp2_with fail
      refine (cloneStrs_any a2 l2 c2 wp _ v2.len g2 v2.nil (v2.reads.below B2 (Nat.le_refl _))).mono ?_
      rintro e w3 ⟨b2, d2, rfl, n2, R2, B3⟩
      replace R0 := R0.below B3 (Nat.le_refl _)
      replace R1 := R1.below B3 (Nat.le_refl _)
      replace B3 := B2.trans (B3.mono B2.size)
      clear B2
      go_wp2_with fail
      refine (cloneStrs_any a3 l3 c3 ri _ v3.len g3 v3.nil (v3.reads.below B3 (Nat.le_refl _))).mono ?_
      rintro e w4 ⟨b3, d3, rfl, n3, R3, B4⟩
      replace R0 := R0.below B4 (Nat.le_refl _)
      replace R1 := R1.below B4 (Nat.le_refl _)
      replace R2 := R2.below B4 (Nat.le_refl _)
      replace B4 := B3.trans (B4.mono B3.size)
      clear B3
      go_wp2_with fail
      refine (cloneInts_any a4 l4 c4 pt _ v4.len g4 v4.nil (v4.reads.below B4 (Nat.le_refl _))).mono ?_
      rintro e w5 ⟨b4, d4, rfl, n4, R4, B5⟩
      replace R0 := R0.below B5 (Nat.le_refl _)
      replace R1 := R1.below B5 (Nat.le_refl _)
      replace R2 := R2.below B5 (Nat.le_refl _)
      replace R3 := R3.below B5 (Nat.le_refl _)
      replace B5 := B4.trans (B5.mono B4.size)
      clear B4
      go_wp2_with fail
      refine (cloneStrs_any a5 l5 c5 pp _ v5.len g5 v5.nil (v5.reads.below B5 (Nat.le_refl _))).mono ?_
      rintro e w6 ⟨b5, d5, rfl, n5, R5, B6⟩
      replace R0 := R0.below B6 (Nat.le_refl _)
      replace R1 := R1.below B6 (Nat.le_refl _)
      replace R2 := R2.below B6 (Nat.le_refl _)
      replace R3 := R3.below B6 (Nat.le_refl _)
      replace R4 := R4.below B6 (Nat.le_refl _)
      replace B6 := B5.trans (B6.mono B5.size)
      clear B5
      go_wp2_with fail
      refine (cloneNested_any a6 l6 c6 pv rows _ v6.len g6 Hg8.out v6.nil (v6.reads.below B6 (Nat.le_refl _)) (v6.vals.below B6 (Nat.le_refl _))).mono ?_
      rintro e w7 ⟨b6, d6, rfl, n6, ⟨pw, R6, N6⟩, B7⟩
      replace R0 := R0.below B7 (Nat.le_refl _)
      replace R1 := R1.below B7 (Nat.le_refl _)
      replace R2 := R2.below B7 (Nat.le_refl _)
      replace R3 := R3.below B7 (Nat.le_refl _)
      replace R4 := R4.below B7 (Nat.le_refl _)
      replace R5 := R5.below B7 (Nat.le_refl _)
      replace B7 := B6.trans (B7.mono B6.size)
      clear B6
      go_wp2_with fail
      refine (cloneInts_any a7 l7 c7 pb _ v7.len g7 v7.nil (v7.reads.below B7 (Nat.le_refl _))).mono ?_
      rintro e w8 ⟨b7, d7, rfl, n7, R7, B8⟩
      replace R0 := R0.below B8 (Nat.le_refl _)
      replace R1 := R1.below B8 (Nat.le_refl _)
      replace R2 := R2.below B8 (Nat.le_refl _)
      replace R3 := R3.below B8 (Nat.le_refl _)
      replace R4 := R4.below B8 (Nat.le_refl _)
      replace R5 := R5.below B8 (Nat.le_refl _)
      replace R6 := R6.below B8 (Nat.le_refl _)
      replace N6 := N6.below B8 (Nat.le_refl _)
      replace B8 := B7.trans (B8.mono B7.size)
      clear B7
      go_wp2_with fail
      refine (cloneInts_any a9 l9 c9 mr _ v9.len g9 v9.nil (v9.reads.below B8 (Nat.le_refl _))).mono ?_
      rintro e w9 ⟨b9, d9, rfl, n9, R9, B9⟩
      replace R0 := R0.below B9 (Nat.le_refl _)
      replace R1 := R1.below B9 (Nat.le_refl _)
      replace R2 := R2.below B9 (Nat.le_refl _)
      replace R3 := R3.below B9 (Nat.le_refl _)
      replace R4 := R4.below B9 (Nat.le_refl _)
      replace R5 := R5.below B9 (Nat.le_refl _)
      replace R6 := R6.below B9 (Nat.le_refl _)
      replace N6 := N6.below B9 (Nat.le_refl _)
      replace R7 := R7.below B9 (Nat.le_refl _)
      replace B9 := B8.trans (B9.mono B8.size)
      clear B8
      clear v0 v1 v2 v3 v4 v5 v6 v7 v8 v9
      have K := hide (shaped_any w9 b0 b1 b2 b3 b4 b5 b6 b7 l0 l1 l2 l3 l4 l5 l6 l7 d0 d1 d2 d3 d4 d5 d6 d7 pw rows g3 g6 hl6 R6 N6 Hg8.out)
      go_wp2_with fail
      refine Calls.mono (Hid.out K) ?_
      rintro e w10 ⟨rb, rfl, hw, hq⟩
      subst w10
      cases rb with
      | false =>
        go_wp2
        go_ret
        exact ⟨rfl, B9⟩
      | true =>
        obtain ⟨s1, s2, s5, s6, s7, hidx⟩ := hq rfl
        replace s1 := s1.symm
        replace s2 := s2.symm
        replace s5 := s5.symm
        replace s6 := s6.symm
        replace s7 := s7.symm
        subst s1 s2 s5 s6 s7
        have Hidx := hide hidx
        clear hidx hq K
        by_cases hq0 : q < 0
        · go_wp2
          go_ret
          exact ⟨rfl, B9⟩
        by_cases hq1 : (l4 : Int) ≤ q
        · go_wp2
          go_ret
          exact ⟨rfl, B9⟩
        obtain ⟨qn, rfl⟩ := Int.eq_ofNat_of_zero_le (show 0 ≤ q by omega)
        have K := hide (indexesIn_any b9 l9 d9 l3 mr w9 hl9 g9 R9)
        go_wp2_with fail
        refine Calls.mono (Hid.out K) ?_
        rintro e w10 ⟨rb, rfl, hw, hq⟩
        subst w10
        clear K
        cases rb with
        | false =>
          go_wp2
          go_ret
          exact ⟨rfl, B9⟩
        | true =>
          have Hmok := hide (hq rfl)
          clear hq
          have hqr : qn < rows.length := by omega
          have hqw : qn < pw.length := by rw [N6.1]; exact hqr
          obtain ⟨x6, o6, rfl, _, hx6, hc6⟩ := R6 qn hqw
          obtain ⟨ak, ck, e1, e2, e3⟩ := N6.2 qn hqr
          rw [List.getElem?_eq_getElem hqw] at e1
          injection e1 with e1
          rw [e1] at hc6
          obtain ⟨rd, Hrd⟩ : ∃ r, Hid (rows[qn] = r) := ⟨_, hide rfl⟩
          rw [Hrd.out] at hc6 e2 e3
          have hrm : rd ∈ rows := by rw [← Hrd.out]; exact List.getElem_mem hqr
          have hrl := Hg8.out rd hrm
          clear e1
          go_wp2_with fail
          refine (cloneNested_some _ l4 d6 pw rows w9 hl6 g4 Hg8.out (by simp) R6 N6).mono ?_
          rintro e w10 ⟨rfl, ⟨pg, hrg, Ng⟩, B10⟩
          replace hc6 : w10.cell? ⟨x6, o6 + qn, none⟩ = some (.slice ak rd.length ck) := by rw [B10.cell (p := ⟨x6, o6 + qn, none⟩) hx6]; exact hc6
          replace e3 := e3.below B10 (Nat.le_refl _)
          have R9' := R9.below B10 (Nat.le_refl _)
          replace hx6 : x6 < w10.heap.size := Nat.lt_of_lt_of_le hx6 B10.size
          have hbg : w9.heap.size < w10.heap.size := hrg.lt
          have hqi : (qn : Int) < (l4 : Int) := by omega
          have hmk : ∀ w : World, (Instr.makeSlice 22 (.int .i64 0) (.int .i64 ((rd.length : Int) + (l9 : Int)))).run Try.prog w = .ok (.slice (some ⟨w.heap.size, 0, none⟩) 0 (rd.length + l9)) (w.alloc (.cells (List.replicate (rd.length + l9) (.int .i64 0)).toArray 3)) := by
            intro w
            have h := mk_room (rd.length + l9) (by omega) w
            rw [Int.natCast_add] at h
            exact h
          obtain ⟨i0, hi, hz0, hz1, hz2⟩ := info_parts Try.info3
          have Hl := hide (And.intro hl0 (And.intro hl1 (And.intro hl2 (And.intro hl3 (And.intro hl4 (And.intro hl5 (And.intro hl6 (And.intro hl7 hl9))))))))
          clear hl0 hl1 hl2 hl3 hl4 hl5 hl6 hl7 hl9
          go_wp2
          go_loopw [22, 23] (fun x i wr => ∃ k : Nat, k ≤ rd.length ∧ i = .int .i64 k ∧ x = .slice (some ⟨w10.heap.size, 0, none⟩) k (rd.length + l9) ∧ wr.ownsRow w10.heap.size 3 1 (.slice (some ⟨w10.heap.size, 0, none⟩) k (rd.length + l9)) k ((rd.take k).map (Value.int .i64)) ∧ Below w10.heap.size w10 wr ∧ w10.heap.size + 1 ≤ wr.heap.size) (fun _ i _ => rd.length - (intOf i).toNat)
          case atStart =>
            refine ⟨0, Nat.zero_le _, rfl, rfl, ?_, (Below.refl _ _).alloc (Nat.le_refl _) _, by simp⟩
            exact World.ownsRow_made (base := w10.heap.size) (e := 3) (size := 1) w10 _ (rd.length + l9) (Nat.le_refl _) (by unfold maxLen; omega) (by simp)
          case round =>
            obtain ⟨k, hk, rfl, rfl, hown, hbr, hsr⟩ := hrel
            have hcq : wr.cell? ⟨x6, o6 + qn, none⟩ = some (.slice ak rd.length ck) := by rw [hbr.cell (p := ⟨x6, o6 + qn, none⟩) hx6]; exact hc6
            by_cases hlt : k < rd.length
            · obtain ⟨b, off, rfl, _, hbl, hcell⟩ := e3 k (by simpa using hlt)
              simp only [List.getElem_map] at hcell
              obtain ⟨z, Hz⟩ : ∃ z, Hid (rd[k] = z) := ⟨_, hide rfl⟩
              rw [Hz.out] at hcell
              have hck : wr.cell? ⟨b, off + k, none⟩ = some (.int .i64 z) := by rw [hbr.cell (p := ⟨b, off + k, none⟩) hbl]; exact hcell
              have Htk := hide (List.take_succ_eq_append_getElem hlt)
              have Hown := hide hown
              clear hcell hown
              go_wp2_with (at_builtin; refine wpList_append_fits _ rfl _ _ 22 rfl w10.heap.size 3 i0 1 Try.underlying22 hi hz1 w10.heap.size k (rd.length + l9) ((rd.take k).map (Value.int .i64)) rfl (Hown.out.alloc _) ⟨wr.heap.size, 0, none⟩ 1 1 [.int .i64 z] rfl rfl (cell_one_new _ _ _) (ints_oneCell .i64 [z]) (by omega) ?_; intro w1 hown1 hgrow1)
              go_roundw
              case rel =>
                refine ⟨k + 1, by omega, by go_num, rfl, ?_, hbr.grown ((World.grownBy_alloc _ _ _).trans hgrow1) hbr.size (fun b hb => by injection hb with hb; omega), by have := ((World.grownBy_alloc wr (.cells #[.int .i64 z] 3) (some w10.heap.size)).trans hgrow1).size; omega⟩
                rw [Htk.out, Hz.out, List.map_append]
                exact hown1
              case measure => simp [intOf]; omega
            · have hown2 : wr.ownsRow w10.heap.size 3 1 (.slice (some ⟨w10.heap.size, 0, none⟩) k (rd.length + l9)) k ((rd ++ mr.take 0).map (Value.int .i64)) := by
                rw [List.take_of_length_le (by omega)] at hown
                simpa using hown
              have hkr : k = rd.length := by omega
              have Hkr := hide hkr
              clear hkr hown
              go_wp2
              go_loopw [22, 24] (fun x i wr => ∃ n : Nat, n ≤ l9 ∧ i = .int .i64 n ∧ x = .slice (some ⟨w10.heap.size, 0, none⟩) (k + n) (rd.length + l9) ∧ wr.ownsRow w10.heap.size 3 1 (.slice (some ⟨w10.heap.size, 0, none⟩) (k + n) (rd.length + l9)) (k + n) ((rd ++ mr.take n).map (Value.int .i64)) ∧ Below w10.heap.size w10 wr ∧ w10.heap.size + 1 ≤ wr.heap.size) (fun _ i _ => l9 - (intOf i).toNat)
              case atStart => exact ⟨0, Nat.zero_le _, rfl, rfl, hown2, hbr, hsr⟩
              case round =>
                clear hown2 hbr hsr hcq
                obtain ⟨n, hn, rfl, rfl, hown, hbr, hsr⟩ := hrel
                by_cases hlt2 : n < l9
                · have hmn : n < mr.length := by have := Hl.out; omega
                  obtain ⟨b, off, rfl, _, hbl, hcell⟩ := R9' n (by simpa using hmn)
                  simp only [List.getElem_map] at hcell
                  obtain ⟨z, Hz⟩ : ∃ z, Hid (mr[n] = z) := ⟨_, hide rfl⟩
                  rw [Hz.out] at hcell
                  have hck : wr.cell? ⟨b, off + n, none⟩ = some (.int .i64 z) := by rw [hbr.cell (p := ⟨b, off + n, none⟩) hbl]; exact hcell
                  have Htk := hide (List.take_succ_eq_append_getElem hmn)
                  have Hown := hide hown
                  clear hcell hown
                  go_wp2_with (at_builtin; refine wpList_append_fits _ rfl _ _ 22 rfl w10.heap.size 3 i0 1 Try.underlying22 hi hz1 w10.heap.size (k + n) (rd.length + l9) ((rd ++ mr.take n).map (Value.int .i64)) rfl (Hown.out.alloc _) ⟨wr.heap.size, 0, none⟩ 1 1 [.int .i64 z] rfl rfl (cell_one_new _ _ _) (ints_oneCell .i64 [z]) (by have := Hkr.out; omega) ?_; intro w1 hown1 hgrow1)
                  go_roundw
                  case rel =>
                    refine ⟨n + 1, by omega, by go_num, by rw [Nat.add_assoc], ?_, hbr.grown ((World.grownBy_alloc _ _ _).trans hgrow1) hbr.size (fun b hb => by injection hb with hb; omega), by have := ((World.grownBy_alloc wr (.cells #[.int .i64 z] 3) (some w10.heap.size)).trans hgrow1).size; omega⟩
                    rw [Htk.out, Hz.out, ← List.append_assoc, List.map_append, ← Nat.add_assoc]
                    exact hown1
                  case measure => simp [intOf]; omega
                · have hown3 : wr.ownsRow w10.heap.size 3 1 (.slice (some ⟨w10.heap.size, 0, none⟩) (k + n) (rd.length + l9)) (k + n) ((rd ++ mr).map (Value.int .i64)) := by
                    rw [List.take_of_length_le (by have := Hl.out; omega)] at hown
                    exact hown
                  have hkn : k + n = (rd ++ mr).length := by have := Hl.out; have := Hkr.out; simp; omega
                  have Hext := hide (reads_own hown3)
                  have hrg' := hrg.below hbr hbg
                  have hfz := hrg'.frozen qn
                  obtain ⟨y0, hcy⟩ : ∃ y0, wr.cell? ⟨w9.heap.size, qn, none⟩ = some y0 := by
                    rw [hrg'.cell qn]
                    exact ⟨_, List.getElem?_eq_getElem (by rw [Ng.1]; exact hqr)⟩
                  have BW := (B10.trans (hbr.mono B10.size)).setCell (p := ⟨w9.heap.size, qn, none⟩) (Nat.le_refl _) (.slice (some ⟨w10.heap.size, 0, none⟩) (k + n) (rd.length + l9))
                  have hrW := hrg'.set qn (.slice (some ⟨w10.heap.size, 0, none⟩) (k + n) (rd.length + l9))
                  have hNW : NVals (w9.heap.size + 1) (wr.setCell ⟨w9.heap.size, qn, none⟩ (.slice (some ⟨w10.heap.size, 0, none⟩) (k + n) (rd.length + l9))) (pg.set qn (.slice (some ⟨w10.heap.size, 0, none⟩) (k + n) (rd.length + l9))) (rows.set qn (rd ++ mr)) := by
                    have h1 := (Ng.below hbr (Nat.le_refl _)).setCell ⟨w9.heap.size, qn, none⟩ (.slice (some ⟨w10.heap.size, 0, none⟩) (k + n) (rd.length + l9)) (by show w9.heap.size < _; omega)
                    have h2 := (Hext.out.setCell ⟨w9.heap.size, qn, none⟩ (.slice (some ⟨w10.heap.size, 0, none⟩) (k + n) (rd.length + l9)) (by show w9.heap.size < _; omega)).mono (show w9.heap.size + 1 ≤ w10.heap.size by omega)
                    have h3 := h1.set qn (a := some ⟨w10.heap.size, 0, none⟩) (cap := rd.length + l9) (r := rd ++ mr) (by simp) h2
                    rw [hkn]
                    rw [hkn] at h3
                    exact h3
                  have Hkn := hide hkn
                  have HrW := hide hrW
                  have HNW := hide hNW
                  have HBW := hide BW
                  clear hkn hrW hNW BW hown hown3 hrg' hbr hsr
                  generalize k + n = kn at HrW HNW HBW Hkn ⊢
                  go_wp2_with fail
                  generalize wr.setCell ⟨w9.heap.size, qn, none⟩ (.slice (some ⟨w10.heap.size, 0, none⟩) kn (rd.length + l9)) = W at HrW HNW HBW ⊢
                  obtain ⟨hl0, hl1, hl2, hl3, hl4, hl5, hl6, hl7, hl9⟩ := Hl.out
                  have BW := HBW.out
                  replace R0 := R0.below BW (Nat.le_refl _)
                  replace R1 := R1.below BW (Nat.le_refl _)
                  replace R2 := R2.below BW (Nat.le_refl _)
                  replace R3 := R3.below BW (Nat.le_refl _)
                  replace R4 := R4.below BW (Nat.le_refl _)
                  replace R5 := R5.below BW (Nat.le_refl _)
                  replace R6 := R6.below BW (Nat.le_refl _)
                  replace N6 := N6.below BW (Nat.le_refl _)
                  replace R7 := R7.below BW (Nat.le_refl _)
                  replace R9 := R9.below BW (Nat.le_refl _)
                  replace BW := B9.trans (BW.mono B9.size)
                  clear HBW B9 B10 hcy hfz hrg Ng R9' e2 e3 hc6
                  refine (zzOwn_any own_any W b0 b1 b2 b3 b4 b5 _ b7 l0 l3 l4 d0 d1 d2 d3 d4 d5 d6 d7 wt wi wp ri pt pp pw rows pb g0 g3 g4 hl0 hl1 hl2 hl3 hl4 hl5 hl6 hl7 R0 R1 R2 R3 R4 R5 R6 N6 R7 (fun r hr => by have := Hg8.out r hr; omega) Hidx.out).mono ?_
                  rintro e w11 ⟨bo, res, rfl, hbo, hres, hrow, hRa, B11⟩
                  replace R0 := R0.below B11 (Nat.le_refl _)
                  replace R1 := R1.below B11 (Nat.le_refl _)
                  replace R2 := R2.below B11 (Nat.le_refl _)
                  replace R3 := R3.below B11 (Nat.le_refl _)
                  replace R4 := R4.below B11 (Nat.le_refl _)
                  replace R5 := R5.below B11 (Nat.le_refl _)
                  replace R7 := R7.below B11 (Nat.le_refl _)
                  replace R9 := R9.below B11 (Nat.le_refl _)
                  have hrG := (HrW.out.reads.below B11 (Nat.le_refl _)).mono (Nat.zero_le _)
                  have hNG := (HNW.out.below B11 (Nat.le_refl _)).mono (Nat.zero_le _)
                  replace B11 := BW.trans (B11.mono BW.size)
                  have Hres := hide hres
                  have HRa := hide hRa
                  clear HrW HNW BW R6 N6 hres hRa
                  go_wp2_with fail
                  refine (zzOwn_any own_any w11 b0 b1 b2 b3 b4 b5 _ b7 l0 l3 l4 d0 d1 d2 d3 d4 d5 l4 d7 wt wi wp ri pt pp _ (rows.set qn (rd ++ mr)) pb g0 g3 g4 hl0 hl1 hl2 hl3 hl4 hl5 (by simpa using hl6) hl7 R0 R1 R2 R3 R4 R5 hrG hNG R7 (fun r hr => ?_) (fun r hr x hx => ?_)).mono ?_
                  · rcases List.mem_or_eq_of_mem_set hr with h | h
                    · have := Hg8.out r h; omega
                    · rw [h, List.length_append]; omega
                  · rcases List.mem_or_eq_of_mem_set hr with h | h
                    · exact Hidx.out r h x hx
                    · rw [h] at hx
                      rcases List.mem_append.1 hx with h | h
                      · exact Hidx.out rd hrm x h
                      · exact Hmok.out x h
                  rintro e w12 ⟨bo2, res2, rfl, hbo2, hres2, hrow2, hRb, B12⟩
                  replace R1 := R1.below B12 (Nat.le_refl _)
                  replace R3 := R3.below B12 (Nat.le_refl _)
                  replace R9 := R9.below B12 (Nat.le_refl _)
                  replace hrow := hrow.below B12 hrow.lt
                  replace B12 := B11.trans (B12.mono B11.size)
                  have Hres2 := hide hres2
                  have HRb := hide hRb
                  clear hrG hNG B11 R0 R2 R4 R5 R7 hres2 hRb hl0 hl1 hl2 hl3 hl4 hl5 hl6 hl7 hl9
                  have Hq : Hid ((res[qn]'(by have := Hres.out; omega) = -1 ∧ res2[qn]'(by have := Hres2.out; omega) = -1) ∨ ∃ v : Nat, res[qn]'(by have := Hres.out; omega) = v ∧ v < l0 ∧ (res2[qn]'(by have := Hres2.out; omega) = -1 ∨ res[qn]'(by have := Hres.out; omega) ≤ res2[qn]'(by have := Hres2.out; omega)) ∧ (listed (wi.getD v noBytes) mr ri = false → res2[qn]'(by have := Hres2.out; omega) = res[qn]'(by have := Hres.out; omega))) := by
                    have ha := HRa.out qn (by have := Hres.out; omega)
                    have hb := HRb.out qn (by have := Hres2.out; omega)
                    unfold OwnR at ha hb
                    rw [getD_of hqr Hrd.out] at ha
                    rw [getD_of (x := rd ++ mr) (by simpa using hqr) (by simp)] at hb
                    rcases more_law ha hb with h | ⟨v, h1, h2, h3, h4⟩
                    · exact .inl h
                    · exact .inr ⟨v, h1, by rw [← Hl.out.1]; exact h2, h3, h4⟩
                  have Hp : Hid (∀ p (h1 : p < res.length) (h2 : p < res2.length), p ≠ qn → res2[p] = res[p]) := by
                    intro p h1 h2 hpq
                    have ha := HRa.out p h1
                    have hb := HRb.out p h2
                    unfold OwnR at ha hb
                    have e : (rows.set qn (rd ++ mr)).getD p [] = rows.getD p [] := by
                      rw [List.getD_eq_getElem?_getD, List.getD_eq_getElem?_getD, List.getElem?_set_ne (Ne.symm hpq)]
                    rw [e] at hb
                    exact FirstIs.unique hb ha
                  clear HRa HRb
                  have hca : ∀ i (h : i < res.length), w12.cell? ⟨bo, i, none⟩ = some (.int .i64 res[i]) := fun i h => by rw [hrow.cell, List.getElem?_map, List.getElem?_eq_getElem h]; rfl
                  have hcb : ∀ i (h : i < res2.length), w12.cell? ⟨bo2, i, none⟩ = some (.int .i64 res2[i]) := fun i h => by rw [hrow2.cell, List.getElem?_map, List.getElem?_eq_getElem h]; rfl
                  have Hca := hide hca
                  have Hcb := hide hcb
                  clear hca hcb hrow hrow2
                  go_wp2
                  go_loopw [27] (fun i wr => ∃ p : Nat, ∃ nd : Nat, p ≤ l4 ∧ i = .int .i64 p ∧ wr = w12.drewN nd) (fun i _ => l4 - (intOf i).toNat)
                  case atStart => exact ⟨0, 0, Nat.zero_le _, rfl, rfl⟩
                  case round =>
                    obtain ⟨p, nd, hp, rfl, rfl⟩ := hrel
                    by_cases hltp : p < l4
                    · have hp1 : p < res.length := by have := Hres.out; omega
                      have hp2 : p < res2.length := by have := Hres2.out; omega
                      have hpi : (p : Int) < (l4 : Int) := by omega
                      by_cases hpq : p = qn
                      · have hpb : ((p : Int) != (qn : Int)) = false := by simp [hpq]
                        have Hpq := hide hpq
                        clear hpq
                        go_wp2_with fail
                        go_quiet (fail)
                        go_wp2
                        go_roundw
                        case rel => exact ⟨p + 1, _, by omega, by go_num, rfl⟩
                        case measure => simp [intOf]; omega
                      · have hpb : ((p : Int) != (qn : Int)) = true := bne_iff_ne.2 (by omega)
                        have hcp := Hca.out p hp1
                        have hcp2 := Hcb.out p hp2
                        rw [Hp.out p hp1 hp2 hpq] at hcp2
                        generalize res[p] = z at hcp hcp2
                        have Hpq := hide hpq
                        clear hpq
                        go_wp2_with fail
                        go_quiet (fail)
                        go_wp2
                        go_roundw
                        case rel => exact ⟨p + 1, _, by omega, by go_num, rfl⟩
                        case measure => simp [intOf]; omega
                    · have hp1 : qn < res.length := by have := Hres.out; omega
                      have hp2 : qn < res2.length := by have := Hres2.out; omega
                      have hcp := Hca.out qn hp1
                      have hcp2 := Hcb.out qn hp2
                      have hqq := Hq.out
                      clear Hq Hp
                      generalize res[qn] = x at hcp hqq
                      generalize res2[qn] = y at hcp2 hqq
                      rcases hqq with ⟨rfl, rfl⟩ | ⟨v, rfl, hv, hy, hyx⟩
                      · go_wp2
                        go_ret
                        exact ⟨rfl, below_drewN B12 _⟩
                      · have hvn : ((v : Int) == -1) = false := beq_eq_false_iff_ne.2 (by omega)
                        have hvi : v < wi.length := by rw [Hl.out.2.1]; exact hv
                        obtain ⟨b1x, o1x, rfl, _, _, hcv⟩ := R1 v (by simpa using hvi)
                        simp only [List.getElem_map] at hcv
                        rw [← getD_of (d := noBytes) hvi rfl] at hcv
                        obtain ⟨it, Hit⟩ : ∃ r, Hid (wi.getD v noBytes = r) := ⟨_, hide rfl⟩
                        rw [Hit.out] at hcv hyx
                        have HK := hide (show ∀ nn : Nat, Calls Try.prog 31 #[.string it, .slice b9 l9 d9, .slice b3 l3 d3] (w12.drewN nn) fun e w' => e = .returned (.bool (listed it mr ri)) ∧ w' = w12.drewN nn from fun nn => by
                          have RR : ∀ {lo : Nat} {a : Option Addr} {vs : List Value}, Reads lo w12 a vs → Reads lo (w12.drewN nn) a vs := fun h i hi => h i hi
                          exact listed_any it b9 l9 d9 mr b3 l3 d3 ri (w12.drewN nn) Hl.out.2.2.2.2.2.2.2.2 g9 (RR R9) Hl.out.2.2.2.1 g3 (RR R3) Hmok.out)
                        have hvl : (v : Int) < (l0 : Int) := by omega
                        have Hyx := hide hyx
                        clear hyx
                        by_cases hy1 : y = -1
                        · subst hy1
                          have hlt3 : listed it mr ri = true := by
                            cases hli : listed it mr ri with
                            | true => rfl
                            | false => have := Hyx.out hli; omega
                          go_wp2
                          go_quiet (fail)
                          go_wp2
                          rw [hlt3] at HK
                          go_quiet ((go_at_call 31; exact Calls.mono (HK.out _) (fun e w' h => ⟨h.1, _, h.2⟩)))
                          go_wp2
                          go_ret
                          exact ⟨rfl, below_drewN (below_drewN (below_drewN B12 _) _) _⟩
                        · have hyb : (y != -1) = true := bne_iff_ne.2 hy1
                          have hxy : (v : Int) ≤ y := by rcases hy with h | h; exact absurd h hy1; exact h
                          clear hy
                          have Hy1 := hide hy1
                          clear hy1
                          cases hli : listed it mr ri with
                          | true =>
                            rw [hli] at HK
                            have Hli := hide hli
                            clear hli
                            go_wp2
                            go_quiet (fail)
                            go_wp2
                            go_quiet ((go_at_call 31; exact Calls.mono (HK.out _) (fun e w' h => ⟨h.1, _, h.2⟩)))
                            go_wp2
                            go_ret
                            exact ⟨rfl, below_drewN (below_drewN (below_drewN B12 _) _) _⟩
                          | false =>
                            rw [hli] at HK
                            have hyx := Hyx.out hli
                            subst hyx
                            clear hli
                            go_wp2
                            go_quiet (fail)
                            go_wp2
                            go_quiet ((go_at_call 31; exact Calls.mono (HK.out _) (fun e w' h => ⟨h.1, _, h.2⟩)))
                            go_wp2
                            go_ret
                            exact ⟨rfl, below_drewN (below_drewN (below_drewN B12 _) _) _⟩
end Go.Proofs.Qxb6602044a
