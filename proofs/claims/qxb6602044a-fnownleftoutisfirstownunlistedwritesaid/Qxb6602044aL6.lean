import Derived.Test.Qxb6602044aV
import Derived.Test.Qxb6602044aW3b
import Derived.Test.Qxb6602044aW4
import Derived.Test.Qxb6602044aW8
import Derived.Test.Qxb6602044aW9
namespace Go.Proofs.Qxb6602044a
open Go.RowKit
set_option linter.unusedVariables false

set_option maxRecDepth 100000 in
set_option maxHeartbeats 4000000 in
theorem walk6 (a0 a1 a2 a3 a4 a5 a6 a7 : Option Addr) (l0 l1 l2 l3 l4 l5 l6 l7 c0 c1 c2 c3 c4 c5 c6 c7 : Nat) (wt : List Int) (wi wp ri : List ByteArray) (pt : List Int) (pp : List ByteArray) (pv : List Value) (rows : List (List Int)) (pb : List Int) (w : World)
    (v0 : VInts w a0 l0 c0 wt) (v1 : VStrs w a1 l1 c1 wi) (v2 : VStrs w a2 l2 c2 wp) (v3 : VStrs w a3 l3 c3 ri) (v4 : VInts w a4 l4 c4 pt) (v5 : VStrs w a5 l5 c5 pp) (v6 : VRows w a6 l6 c6 pv rows) (v7 : VInts w a7 l7 c7 pb) :
    Calls Try.prog 6 #[.slice a0 l0 c0, .slice a1 l1 c1, .slice a2 l2 c2, .slice a3 l3 c3, .slice a4 l4 c4, .slice a5 l5 c5, .slice a6 l6 c6, .slice a7 l7 c7] w fun e w' => e = .returned (.bool true) ∧ Below w.heap.size w w' := by
  have hnil := fun (w : World) (a : Option Addr) (n c : Nat) => Lib.run_eql_slice_nil (P := Try.prog) w 22 3 a n c 0 0 Try.underlying22
  have K1 := hide (bytes22 w a0 l0 c0 a1 l1 c1 a2 l2 c2 a3 l3 c3 a4 l4 c4 a5 l5 c5 a6 l6 c6 a7 l7 c7 wi v1.len v1.reads wp v2.len v2.reads ri v3.len v3.reads pp v5.len v5.reads pv rows v6.len v6.reads v6.vals v0.max v1.max v1.each v2.max v2.each v3.max v3.each v4.max v5.max v5.each v6.max v6.each v7.max)
  go_enter Try.func6, Try.ntmps6
  go_wp2_with fail
  refine Calls.mono (Hid.out K1) ?_
  rintro e w1 ⟨r1, rfl, hw, hsm⟩
  subst w1
  cases r1 with
  | false =>
    go_wp2
    go_ret
    exact ⟨rfl, Below.refl _ _⟩
  | true =>
    obtain ⟨g0, g1, g2, g3, g4, g5, g6, g7, g8⟩ := hsm rfl
    clear K1 hsm
    have K2 := hide (tooBig_any w a0 a1 a2 a3 a4 a5 a6 a7 none l0 l1 l2 l3 l4 l5 l6 l7 0 c0 c1 c2 c3 c4 c5 c6 c7 0 wi wp ri pp pv rows g0 g1 g2 g3 g4 g5 g6 g7 (by omega) v1.len v1.reads v1.each v2.len v2.reads v2.each v3.len v3.reads v3.each v5.len v5.reads v5.each v6.len v6.reads v6.vals v6.each)
    go_wp2_with fail
    refine Calls.mono (Hid.out K2) ?_
    rintro e w1 ⟨r1, rfl, hw, _⟩
    subst w1
    clear K2
    cases r1 with
    | true =>
      go_wp2
      go_ret
      exact ⟨rfl, Below.refl _ _⟩
    | false =>
      have B0 : Below w.heap.size w w := Below.refl _ _
      have hl0 := v0.len
      have hl1 := v1.len
      have hl2 := v2.len
      have hl3 := v3.len
      have hl4 := v4.len
      have hl5 := v5.len
      have hl6 := v6.len
      have hl7 := v7.len
      have Hg8 := hide g8
      clear g8
      go_wp2_with fail
      refine (cloneInts_any a0 l0 c0 wt _ v0.len g0 v0.nil (v0.reads.below B0 (Nat.le_refl _))).mono ?_
      rintro e w1 ⟨b0, d0, rfl, n0, R0, B1⟩
      replace B1 := B0.trans (B1.mono B0.size)
      clear B0
      go_wp2_with fail
      refine (cloneStrs_any a1 l1 c1 wi _ v1.len g1 v1.nil (v1.reads.below B1 (Nat.le_refl _))).mono ?_
      rintro e w2 ⟨b1, d1, rfl, n1, R1, B2⟩
      replace R0 := R0.below B2 (Nat.le_refl _)
      replace B2 := B1.trans (B2.mono B1.size)
      clear B1
      go_wp2_with fail
      refine (cloneStrs_any a2 l2 c2 wp _ v2.len g2 v2.nil (v2.reads.below B2 (Nat.le_refl _))).mono ?_
      rintro e w3 ⟨b2, d2, rfl, n2, R2, B3⟩
      replace R0 := R0.below B3 (Nat.le_refl _)
      replace R1 := R1.below B3 (Nat.le_refl _)
      replace B3 := B2.trans (B3.mono B2.size)
      clear B2
      go_wp2_with fail
      refine (cloneStrs_any a3 l3 c3 ri _ v3.len g3 v3.nil (v3.reads.below B3 (Nat.le_refl _))).mono ?_
      rintro e w4 ⟨b3, d3, rfl, n3, R3, B4⟩
      replace R0 := R0.below B4 (Nat.le_refl _)
      replace R1 := R1.below B4 (Nat.le_refl _)
      replace R2 := R2.below B4 (Nat.le_refl _)
      replace B4 := B3.trans (B4.mono B3.size)
      clear B3
      go_wp2_with fail
      refine (cloneInts_any a4 l4 c4 pt _ v4.len g4 v4.nil (v4.reads.below B4 (Nat.le_refl _))).mono ?_
      rintro e w5 ⟨b4, d4, rfl, n4, R4, B5⟩
      replace R0 := R0.below B5 (Nat.le_refl _)
      replace R1 := R1.below B5 (Nat.le_refl _)
      replace R2 := R2.below B5 (Nat.le_refl _)
      replace R3 := R3.below B5 (Nat.le_refl _)
      replace B5 := B4.trans (B5.mono B4.size)
      clear B4
      go_wp2_with fail
      refine (cloneStrs_any a5 l5 c5 pp _ v5.len g5 v5.nil (v5.reads.below B5 (Nat.le_refl _))).mono ?_
      rintro e w6 ⟨b5, d5, rfl, n5, R5, B6⟩
      replace R0 := R0.below B6 (Nat.le_refl _)
      replace R1 := R1.below B6 (Nat.le_refl _)
      replace R2 := R2.below B6 (Nat.le_refl _)
      replace R3 := R3.below B6 (Nat.le_refl _)
      replace R4 := R4.below B6 (Nat.le_refl _)
      replace B6 := B5.trans (B6.mono B5.size)
      clear B5
      go_wp2_with fail
      refine (cloneNested_any a6 l6 c6 pv rows _ v6.len g6 Hg8.out v6.nil (v6.reads.below B6 (Nat.le_refl _)) (v6.vals.below B6 (Nat.le_refl _))).mono ?_
      rintro e w7 ⟨b6, d6, rfl, n6, ⟨pw, R6, N6⟩, B7⟩
      replace R0 := R0.below B7 (Nat.le_refl _)
      replace R1 := R1.below B7 (Nat.le_refl _)
      replace R2 := R2.below B7 (Nat.le_refl _)
      replace R3 := R3.below B7 (Nat.le_refl _)
      replace R4 := R4.below B7 (Nat.le_refl _)
      replace R5 := R5.below B7 (Nat.le_refl _)
      replace B7 := B6.trans (B7.mono B6.size)
      clear B6
      go_wp2_with fail
      refine (cloneInts_any a7 l7 c7 pb _ v7.len g7 v7.nil (v7.reads.below B7 (Nat.le_refl _))).mono ?_
      rintro e w8 ⟨b7, d7, rfl, n7, R7, B8⟩
      replace R0 := R0.below B8 (Nat.le_refl _)
      replace R1 := R1.below B8 (Nat.le_refl _)
      replace R2 := R2.below B8 (Nat.le_refl _)
      replace R3 := R3.below B8 (Nat.le_refl _)
      replace R4 := R4.below B8 (Nat.le_refl _)
      replace R5 := R5.below B8 (Nat.le_refl _)
      replace R6 := R6.below B8 (Nat.le_refl _)
      replace N6 := N6.below B8 (Nat.le_refl _)
      replace B8 := B7.trans (B8.mono B7.size)
      clear B7
      clear v0 v1 v2 v3 v4 v5 v6 v7
      have K := hide (shaped_any w8 b0 b1 b2 b3 b4 b5 b6 b7 l0 l1 l2 l3 l4 l5 l6 l7 d0 d1 d2 d3 d4 d5 d6 d7 pw rows g3 g6 hl6 R6 N6 Hg8.out)
      go_wp2_with fail
      refine Calls.mono (Hid.out K) ?_
      rintro e w9 ⟨rb, rfl, hw, hq⟩
      subst w9
      cases rb with
      | false =>
        go_wp2
        go_ret
        exact ⟨rfl, B8⟩
      | true =>
        obtain ⟨s1, s2, s5, s6, s7, hidx⟩ := hq rfl
        replace s1 := s1.symm
        replace s2 := s2.symm
        replace s5 := s5.symm
        replace s6 := s6.symm
        replace s7 := s7.symm
        subst s1 s2 s5 s6 s7
        have Hidx := hide hidx
        clear hidx hq K
        have K := hide (zzOwn_any own_any w8 b0 b1 b2 b3 b4 b5 b6 b7 l0 l3 l4 d0 d1 d2 d3 d4 d5 d6 d7 wt wi wp ri pt pp pw rows pb g0 g3 g4 hl0 hl1 hl2 hl3 hl4 hl5 hl6 hl7 R0 R1 R2 R3 R4 R5 R6 N6 R7 Hg8.out Hidx.out)
        go_wp2_with fail
        refine Calls.mono (Hid.out K) ?_
        rintro e w9 ⟨bo, res, rfl, hbo, hres, hrow, hR, B9⟩
        replace R0 := R0.below B9 (Nat.le_refl _)
        replace R1 := R1.below B9 (Nat.le_refl _)
        replace R2 := R2.below B9 (Nat.le_refl _)
        replace R3 := R3.below B9 (Nat.le_refl _)
        replace R4 := R4.below B9 (Nat.le_refl _)
        replace R5 := R5.below B9 (Nat.le_refl _)
        replace R6 := R6.below B9 (Nat.le_refl _)
        replace N6 := N6.below B9 (Nat.le_refl _)
        replace R7 := R7.below B9 (Nat.le_refl _)
        replace B9 := B8.trans (B9.mono B8.size)
        clear K B8
        have Hl := hide (And.intro hl0 (And.intro hl1 (And.intro hl2 (And.intro hl3 (And.intro hl4 (And.intro hl5 (And.intro hl6 hl7)))))))
        have Hres := hide hres
        have HR := hide hR
        clear hl0 hl1 hl2 hl3 hl4 hl5 hl6 hl7 hres hR
        go_wp2
        go_loopw [18] (fun i wr => ∃ k : Nat, ∃ q : Nat, k ≤ l4 ∧ i = .int .i64 k ∧ wr = w9.drewN q) (fun i _ => l4 - (intOf i).toNat)
        case atStart => exact ⟨0, 0, Nat.zero_le _, rfl, rfl⟩
        case round =>
          obtain ⟨k, q, hk, rfl, rfl⟩ := hrel
          by_cases hlt : k < l4
          · obtain ⟨hl0, hl1, hl2, hl3, hl4, hl5, hl6, hl7⟩ := Hl.out
            have hk4 : k < pt.length := by omega
            have hk5 : k < pp.length := by omega
            have hk6 : k < rows.length := by omega
            have hk7 : k < pb.length := by omega
            have hkr : k < res.length := by have := Hres.out; omega
            have hkw : k < pw.length := by rw [N6.1]; exact hk6
            obtain ⟨x4, o4, rfl, _, _, hc4⟩ := R4 k (by simpa using hk4)
            obtain ⟨x5, o5, rfl, _, _, hc5⟩ := R5 k (by simpa using hk5)
            obtain ⟨x6, o6, rfl, _, _, hc6⟩ := R6 k hkw
            obtain ⟨x7, o7, rfl, _, _, hc7⟩ := R7 k (by simpa using hk7)
            obtain ⟨ak, ck, e1, e2, e3⟩ := N6.2 k hk6
            rw [List.getElem?_eq_getElem hkw] at e1
            injection e1 with e1
            rw [e1] at hc6
            simp only [List.getElem_map] at hc4 hc5 hc7
            have hcr : w9.cell? ⟨bo, k, none⟩ = some (.int .i64 (res[k])) := by rw [hrow.cell, List.getElem?_map, List.getElem?_eq_getElem hkr]; rfl
            have hF := HR.out k hkr
            unfold OwnR at hF
            obtain ⟨t, Ht⟩ : ∃ r, Hid (pt[k] = r) := ⟨_, hide rfl⟩
            obtain ⟨pr, Hp⟩ : ∃ r, Hid (pp[k] = r) := ⟨_, hide rfl⟩
            obtain ⟨rd, Hrd⟩ : ∃ r, Hid (rows[k] = r) := ⟨_, hide rfl⟩
            obtain ⟨bf, Hbf⟩ : ∃ r, Hid (pb[k] = r) := ⟨_, hide rfl⟩
            obtain ⟨rs, Hrs⟩ : ∃ r, Hid (res[k] = r) := ⟨_, hide rfl⟩
            rw [getD_of hk4 Ht.out, getD_of hk5 Hp.out, getD_of hk6 Hrd.out, getD_of hk7 Hbf.out, Hrs.out] at hF
            rw [Ht.out] at hc4
            rw [Hp.out] at hc5
            rw [Hrd.out] at hc6 e2 e3
            rw [Hbf.out] at hc7
            rw [Hrs.out] at hcr
            have hrm : rd ∈ rows := by rw [← Hrd.out]; exact List.getElem_mem hk6
            have K : ∀ q : Nat, Calls Try.prog 28 #[.slice b0 l0 d0, .slice b1 l0 d1, .slice b2 l0 d2, .slice b3 l3 d3, .int .i64 t, .string pr, .slice ak rd.length ck, .int .i64 bf] (w9.drewN q) fun e w' => e = .returned (.int .i64 rs) ∧ w' = w9.drewN q := by
              intro q
              have RR : ∀ {lo : Nat} {a : Option Addr} {vs : List Value}, Reads lo w9 a vs → Reads lo (w9.drewN q) a vs := fun h i hi => h i hi
              refine (firstOwn_any (w9.drewN q) b0 b1 b2 b3 ak l0 l3 rd.length d0 d1 d2 d3 ck wt wi wp ri rd t bf pr g0 g3 (Hg8.out rd hrm) hl0 hl1 hl2 hl3 rfl (RR R0) (RR R1) (RR R2) (RR R3) (RR e3) (Hidx.out rd hrm)).mono ?_
              rintro e w' ⟨n, rfl, hw, hn⟩
              exact ⟨by rw [FirstIs.unique hn hF], hw⟩
            have HK := hide K
            have hkl : (k : Int) < (l4 : Int) := by omega
            clear K hF hl0 hl1 hl2 hl3 hl4 hl5 hl6 hl7 R0 R1 R2 R3 e1 e2 e3 HR Hl
            go_wp2_with fail
            go_quiet ((go_at_call 28; exact Calls.mono (HK.out _) (fun e w' h => ⟨h.1, _, h.2⟩)))
            go_wp2
            go_roundw
            case rel => exact ⟨k + 1, _, by omega, by go_num, rfl⟩
            case measure => simp [intOf]; omega
          · go_wp2
            go_ret
            exact ⟨rfl, below_drewN B9 _⟩
end Go.Proofs.Qxb6602044a
