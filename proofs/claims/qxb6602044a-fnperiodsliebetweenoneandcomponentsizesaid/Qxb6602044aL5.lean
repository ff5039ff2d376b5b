/-
  THE LAW 'PERIODS LIE BETWEEN ONE AND THE COMPONENT's SIZE': THE WALK.
-/
import Derived.Test.Qxb6602044aPw
namespace Go.Proofs.Qxb6602044a
open Go.RowKit
set_option linter.unusedVariables false

def LawOut5 (w : World) (e : Ending) (w' : World) : Prop := e = .returned (.bool true) ∧ Below w.heap.size w w'

/-- what ZZPeriods hands back -/
def PersOut (w : World) (size : List Nat) (e : Ending) (w' : World) : Prop :=
  ∃ b, ∃ P : Nat → Nat, e = .returned (.slice (some ⟨b, 0, none⟩) size.length size.length) ∧ Row w' b 3 (Tab size.length (fun c => nv (P c))) ∧ (∀ c, c < size.length → 1 ≤ P c ∧ P c ≤ max 1 (size.getD c 0)) ∧ Below w.heap.size w w'

set_option maxRecDepth 100000 in
set_option maxHeartbeats 1000000 in
theorem pers_any {w : World} {b0 bc : Nat} {a1 a2 : Option Addr} {z0 z1 z2 : List Int} (h : GIn w b0 a1 a2 z0 z1 z2) (plain : Int) {N : Nat} (hN : z0.length = N + 1) (most : Nat) {cmp : Nat → Nat} {size : List Nat}
    (hg : Tj.Good (zGr z0 z1 z2 plain most) cmp size) (hl : size.length ≤ N) (hr : Row w bc 3 (Tab N (fun v => nv (cmp v)))) :
    Calls Try.prog 21 #[.slice (some ⟨b0, 0, none⟩) (N + 1) (N + 1), .slice a1 z1.length z1.length, .slice a2 z2.length z2.length, .int .i64 plain, .slice (some ⟨bc, 0, none⟩) N N, .int .i64 (size.length : Int)] w (PersOut w size) := by
  have K := hide (graph_any h plain)
  have H := hide h
  have HN := hide hN
  have Hg := hide hg
  have Hr := hide hr
  have hNs : N ≤ 131072 := by have := h.s0; omega
  rw [hN] at K
  clear h hN hg hr
  go_enter Try.func21, Try.ntmps21
  go_wp2_with fail
  refine Calls.mono (Hid.out K) ?_
  rintro e1 w1 ⟨rfl, hb, hgm⟩
  have hN0 : (zGr z0 z1 z2 plain most).N = N := by show z0.length - 1 = N; rw [HN.out]; rfl
  have hkd : ∀ i, (z2.getD i 0).toNat < 256 := fun i => by
    by_cases hi : i < z2.length
    · have := H.out.u2 _ (getD_mem hi)
      omega
    · rw [List.getD_eq_getElem?_getD, List.getElem?_eq_none (by omega)]
      decide
  have hr1 : Row w1 bc 3 (Tab (zGr z0 z1 z2 plain most).N (fun v => nv (cmp v))) := by rw [hN0]; exact Hr.out.below hb Hr.out.lt
  have KC := hide (periods_any (hgm most) hkd hr1 (fun v hv => Hg.out.lt v hv) (show size.length ≤ 131072 by omega))
  rw [hN0] at KC
  have Hb := hide hb
  clear K hb hgm hN0 hkd hr1
  go_wp2_with fail
  refine Calls.mono (Hid.out KC) ?_
  rintro e2 w2 ⟨b, num, P, rfl, hrow, hP, hb2⟩
  have Hfin : Hid (PersOut w size (.returned (.slice (some ⟨b, 0, none⟩) size.length size.length)) w2) := by
    refine hide ⟨b, fun c => if P c = 0 then 1 else P c, rfl, hrow, fun c hc => ?_, Hb.out.trans (hb2.mono Hb.out.size)⟩
    show 1 ≤ (if P c = 0 then 1 else P c) ∧ (if P c = 0 then 1 else P c) ≤ max 1 (size.getD c 0)
    by_cases h0 : P c = 0
    · rw [if_pos h0]; omega
    · rw [if_neg h0]
      have := Tj.period_le (H.out.valid plain most) Hg.out hP c hc h0
      rw [List.getD_eq_getElem?_getD, List.getElem?_eq_getElem hc, Option.getD_some]
      omega
  clear hrow hP hb2 KC
  go_wp2
  go_ret
  exact Hfin.out

theorem Reads.nat5 {w : World} {a : Option Addr} {xs : List Nat} (h : Reads 0 w a (xs.map nv)) {i : Nat} (hi : i < xs.length) :
    ∃ b off, a = some ⟨b, off, none⟩ ∧ b < w.heap.size ∧ w.cell? ⟨b, off + i, none⟩ = some (nv (xs.getD i 0)) := by
  obtain ⟨b, off, h1, _, h2, h3⟩ := h i (by simpa using hi)
  refine ⟨b, off, h1, h2, ?_⟩
  rw [h3, List.getD_eq_getElem?_getD, List.getElem?_eq_getElem hi, List.getElem_map]
  rfl

set_option maxRecDepth 100000 in
set_option maxHeartbeats 4000000 in
theorem law5_any (w : World) (a0 a1 a2 : Option Addr) (l0 l1 l2 c0 c1 c2 : Nat) (z0 z1 z2 : List Int) (v0 : VNums .i64 w a0 l0 c0 z0) (v1 : VNums .i64 w a1 l1 c1 z1) (v2 : VNums .u8 w a2 l2 c2 z2)
    (u2 : ∀ x ∈ z2, 0 ≤ x ∧ x < 256) (plain : Int) (most : Nat) (hmo : most < 256) :
    Calls Try.prog 5 #[.slice a0 l0 c0, .slice a1 l1 c1, .slice a2 l2 c2, .int .i64 plain, .int .u8 (most : Int)] w (LawOut5 w) := by
  have K19 := hide (bytes20_any w a0 a1 a2 l0 l1 l2 c0 c1 c2 plain most)
  have V0 := hide v0
  have V1 := hide v1
  have V2 := hide v2
  have U2 := hide u2
  clear v0 v1 v2 u2
  go_enter Try.func5, Try.ntmps5
  go_wp2_with fail
  refine Calls.mono (Hid.out K19) ?_
  rintro e1 w1 ⟨hw, hb⟩
  subst w1
  clear K19
  rcases hb with rfl | ⟨rfl, hfew⟩
  · go_wp2
    go_ret
    exact ⟨rfl, Below.refl _ _⟩
  obtain ⟨f0, f1, f2⟩ := hfew
  have K9 := hide (tooBig_any w a0 a1 a2 l0 l1 l2 c0 c1 c2 f0 f1 f2)
  go_wp2_with fail
  refine Calls.mono (Hid.out K9) ?_
  rintro e1 w1 ⟨hw, hb⟩
  subst w1
  clear K9
  rcases hb with rfl | ⟨rfl, hsm⟩
  · go_wp2
    go_ret
    exact ⟨rfl, Below.refl _ _⟩
  obtain ⟨s0, s1, s2⟩ := hsm
  have K := hide (cloneI_any V0.out f0)
  go_wp2_with fail
  refine Calls.mono (Hid.out K) ?_
  rintro e1 w1 ⟨x0, rfl, hx0, hor, hbw1⟩
  clear K
  have Hx0 := hide hx0
  have Hor := hide hor
  have Hb1 := hide hbw1
  have K := hide (cloneI_any (V1.out.below hbw1) f1)
  clear hx0 hor hbw1
  go_wp2_with fail
  refine Calls.mono (Hid.out K) ?_
  rintro e1 w2 ⟨x1, rfl, hx1, hor1, hbw2⟩
  clear K
  have Hx1 := hide hx1
  have Hb2 := hide (Hb1.out.trans (hbw2.mono Hb1.out.size))
  have Hx0' := hide (Hx0.out.below hbw2 (Nat.le_refl _))
  have K := hide (cloneB_any ((V2.out.below Hb1.out).below hbw2) f2)
  clear hx1 hor1 hbw2 Hx0
  go_wp2_with fail
  refine Calls.mono (Hid.out K) ?_
  rintro e1 w3 ⟨x2, rfl, hx2, hor2, hbw3⟩
  clear K
  have Hx2 := hide hx2
  have Hb3 := hide (Hb2.out.trans (hbw3.mono Hb2.out.size))
  have Hx0 := hide (Hx0'.out.below hbw3 (Nat.le_refl _))
  have Hx1' := hide (Hx1.out.below hbw3 (Nat.le_refl _))
  have hz0 : z0.length ≤ 131072 := by rw [V0.out.len]; exact s0
  have hz1 : z1.length ≤ 131072 := by rw [V1.out.len]; exact s1
  have hz2 : z2.length ≤ 131072 := by rw [V2.out.len]; exact s2
  have K := hide (valid_any w3 x0 x1 x2 z0 z1 z2.length Hx0.out Hx1'.out hz0 hz1 hz2)
  clear hx2 hor2 hbw3 Hx0' Hx1 Hb1 Hb2 V0 V1 V2 f0 f1 f2 s0 s1 s2
  go_wp2_with fail
  refine Calls.mono (Hid.out K) ?_
  rintro e1 w4 ⟨hbw4, hb⟩
  clear K
  rcases hb with rfl | ⟨rfl, hval⟩
  · have Hb4 := hide (Hb3.out.trans (hbw4.mono Hb3.out.size))
    clear hbw4
    go_wp2
    go_ret
    exact ⟨rfl, Hb4.out⟩
  have hpos := hval.pos
  obtain rfl : x0 = some ⟨w.heap.size, 0, none⟩ := Hor.out.resolve_left (fun h => by rw [h] at hpos; simp at hpos)
  have hG : GIn w3 w.heap.size x1 x2 z0 z1 z2 := by
    obtain ⟨b, off, he, hlt, _⟩ := Hx0.out.at hpos
    injection he with he
    injection he with e1 e2
    subst e1
    exact ⟨hlt, Hx0.out, Hx1'.out, Hx2.out, hval, hz0, hz1, U2.out⟩
  have HG := hide (hG.below hbw4)
  have Hb4 := hide (Hb3.out.trans (hbw4.mono Hb3.out.size))
  obtain ⟨N, hN⟩ : ∃ N, z0.length = N + 1 := ⟨z0.length - 1, by omega⟩
  have HN := hide hN
  rw [hN]
  have hNs : N ≤ 131072 := by omega
  clear hbw4 hval hG Hx0 Hx1' Hx2 Hb3 U2 Hor hN hpos hz0
  have K := hide (comps_any HG.out plain HN.out most hmo)
  go_wp2_with fail
  refine Calls.mono (Hid.out K) ?_
  rintro e1 w5 ⟨bL, aL, cL, ca, sa, rfl, ga, la, rL, rsa, hbw5⟩
  clear K
  have hA : (zGr z0 z1 z2 plain most).N = N := by show z0.length - 1 = N; rw [HN.out]; rfl
  have hg1 : ¬ ((N : Int) < (sa.length : Int)) := by omega
  have KL := hide (range_any rL (fun v hv => ga.lt v (by rw [hA]; exact hv)) hNs (Nat.le_trans la hNs))
  have KP := hide (pers_any (HG.out.below hbw5) plain HN.out most ga la rL)
  have Hb5 := hide (Hb4.out.trans (hbw5.mono Hb4.out.size))
  have Hga := hide ga
  have hsl : ∀ c, sa.getD c 0 ≤ 131072 := fun c => by
    by_cases hc : c < sa.length
    · have := ga.size_le c hc
      rw [hA] at this
      rw [List.getD_eq_getElem?_getD, List.getElem?_eq_getElem hc, Option.getD_some]; omega
    · rw [List.getD_eq_getElem?_getD, List.getElem?_eq_none (by omega)]; decide
  have Hsl := hide hsl
  have Hrsa := hide rsa
  clear ga rL rsa hbw5 Hb4 HG HN hA hsl
  go_wp2_with fail
  refine Calls.mono (Hid.out KL) ?_
  rintro e1 w7 ⟨rfl, hw⟩
  subst w7
  clear KL
  go_wp2_with fail
  refine Calls.mono (Hid.out KP) ?_
  rintro e1 w8 ⟨b, P, rfl, rP, hP, hbw8⟩
  clear KP
  have Hb8 := hide (Hb5.out.trans (hbw8.mono Hb5.out.size))
  have Hrsa8 := hide (Hrsa.out.below hbw8 (Nat.le_refl _))
  have HP := hide hP
  have HrP := hide rP
  have hne : ((sa.length : Int) != (sa.length : Int)) = false := by simp
  clear hP rP hbw8 Hb5 Hrsa hg1
  go_wp2
  clear hne
  go_loopw [15] (fun i wr => ∃ k : Nat, k ≤ sa.length ∧ i = .int .i64 k ∧ wr = w8) (fun i _ => sa.length - (intOf i).toNat)
  case atStart => exact ⟨0, Nat.zero_le _, rfl, rfl⟩
  case round =>
    obtain ⟨k, hk, rfl, rfl⟩ := hrel
    by_cases hlt : k < sa.length
    · have hki : (k : Int) < (sa.length : Int) := by omega
      obtain ⟨bb, off, rfl, hbl, hcs⟩ := Hrsa8.out.nat5 hlt
      replace hcs : wr.cell? ⟨bb, off + k, none⟩ = some (.int .i64 (sa.getD k 0 : Int)) := hcs
      have cp : wr.cell? ⟨b, k, none⟩ = some (.int .i64 (P k : Int)) := HrP.out.cellTab hlt
      obtain ⟨hp1, hp2⟩ := HP.out k hlt
      have hp3 := Hsl.out k
      generalize sa.getD k 0 = y at hcs hp2 hp3
      generalize P k = x at cp hp1 hp2
      have h1 : ¬ ((x : Int) < 1) := by omega
      by_cases hy : (y : Int) < 1
      · have h2 : ¬ ((1 : Int) < (x : Int)) := by omega
        go_wp2
        go_roundw
        case rel => exact ⟨k + 1, by omega, by go_num, trivial⟩
        case measure => simp [intOf]; omega
      · have h2 : ¬ ((y : Int) < (x : Int)) := by omega
        go_wp2
        go_roundw
        case rel => exact ⟨k + 1, by omega, by go_num, trivial⟩
        case measure => simp [intOf]; omega
    · have hki : ¬ ((k : Int) < (sa.length : Int)) := by omega
      go_wp2
      go_ret
      exact ⟨rfl, Hb8.out⟩
end Go.Proofs.Qxb6602044a
