/-
  THE LAW 'COMPONENTS COARSEN AS MOST GROWS': THE WALK.
-/
import Derived.Test.Qxb6602044aD4
import Derived.Test.Qxb6602044aCo
namespace Go.Proofs.Qxb6602044a
open Go.RowKit
set_option linter.unusedVariables false

def LawOut (w : World) (e : Ending) (w' : World) : Prop := e = .returned (.bool true) ∧ Below w.heap.size w w'

theorem wider_z (z0 z1 z2 : List Int) (plain : Int) {l h : Nat} (hlh : l ≤ h) : Tj.Wider (zGr z0 z1 z2 plain l) (zGr z0 z1 z2 plain h) :=
  ⟨rfl, rfl, rfl, rfl, fun i hi => by
    have : (z2.getD i 0).toNat ≤ l := of_decide_eq_true hi
    exact decide_eq_true (by omega)⟩

theorem Reads.nat {w : World} {a : Option Addr} {xs : List Nat} (h : Reads 0 w a (xs.map nv)) {i : Nat} (hi : i < xs.length) :
    ∃ b off, a = some ⟨b, off, none⟩ ∧ b < w.heap.size ∧ w.cell? ⟨b, off + i, none⟩ = some (nv (xs.getD i 0)) := by
  obtain ⟨b, off, h1, _, h2, h3⟩ := h i (by simpa using hi)
  refine ⟨b, off, h1, h2, ?_⟩
  rw [h3, List.getD_eq_getElem?_getD, List.getElem?_eq_getElem hi, List.getElem_map]
  rfl

theorem getD_nat {xs : List Nat} {i : Nat} (hi : i < xs.length) : xs.getD i 0 = xs[i] := by
  rw [List.getD_eq_getElem?_getD, List.getElem?_eq_getElem hi]; rfl

/-- what the law's loops know -/
structure Two (W : World) (N bL bH br : Nat) (aL aH : Option Addr) (A B : Tj.Gr) (ca cb rep : Nat → Nat) (sa sb : List Nat) : Prop where
  hw : Tj.Wider A B
  hN : A.N = N
  ga : Tj.Good A ca sa
  gb : Tj.Good B cb sb
  la : sa.length ≤ N
  small : N ≤ 131072
  rL : Row W bL 3 (Tab N (fun v => nv (ca v)))
  rH : Row W bH 3 (Tab N (fun v => nv (cb v)))
  rR : Row W br 3 (Tab sa.length (fun c => nv (rep c)))
  rsa : Reads 0 W aL (sa.map nv)
  rsb : Reads 0 W aH (sb.map nv)
  hrep : ∀ c, c < sa.length → rep c < N ∧ ca (rep c) = c

set_option maxRecDepth 100000 in
set_option maxHeartbeats 4000000 in
theorem law4_any (w : World) (a0 a1 a2 : Option Addr) (l0 l1 l2 c0 c1 c2 : Nat) (z0 z1 z2 : List Int) (v0 : VNums .i64 w a0 l0 c0 z0) (v1 : VNums .i64 w a1 l1 c1 z1) (v2 : VNums .u8 w a2 l2 c2 z2)
    (u2 : ∀ x ∈ z2, 0 ≤ x ∧ x < 256) (plain : Int) (lo hi : Nat) (hlo : lo < 256) (hhi : hi < 256) :
    Calls Try.prog 4 #[.slice a0 l0 c0, .slice a1 l1 c1, .slice a2 l2 c2, .int .i64 plain, .int .u8 (lo : Int), .int .u8 (hi : Int)] w (LawOut w) := by
  have K19 := hide (bytes19_any w a0 a1 a2 l0 l1 l2 c0 c1 c2 plain lo hi)
  have V0 := hide v0
  have V1 := hide v1
  have V2 := hide v2
  have U2 := hide u2
  clear v0 v1 v2 u2
  go_enter Try.func4, Try.ntmps4
  go_wp2_with fail
  refine Calls.mono (Hid.out K19) ?_
  rintro e1 w1 ⟨hw, hb⟩
  subst w1
  clear K19
  rcases hb with rfl | ⟨rfl, hfew⟩
  · go_wp2
    go_ret
    exact ⟨rfl, Below.refl _ _⟩
  obtain ⟨f0, f1, f2⟩ := hfew
  have K9 := hide (tooBig_any w a0 a1 a2 l0 l1 l2 c0 c1 c2 f0 f1 f2)
  go_wp2_with fail
  refine Calls.mono (Hid.out K9) ?_
  rintro e1 w1 ⟨hw, hb⟩
  subst w1
  clear K9
  rcases hb with rfl | ⟨rfl, hsm⟩
  · go_wp2
    go_ret
    exact ⟨rfl, Below.refl _ _⟩
  obtain ⟨s0, s1, s2⟩ := hsm
  have K := hide (cloneI_any V0.out f0)
  go_wp2_with fail
  refine Calls.mono (Hid.out K) ?_
  rintro e1 w1 ⟨x0, rfl, hx0, hor, hbw1⟩
  clear K
  have Hx0 := hide hx0
  have Hor := hide hor
  have Hb1 := hide hbw1
  have K := hide (cloneI_any (V1.out.below hbw1) f1)
  clear hx0 hor hbw1
  go_wp2_with fail
  refine Calls.mono (Hid.out K) ?_
  rintro e1 w2 ⟨x1, rfl, hx1, hor1, hbw2⟩
  clear K
  have Hx1 := hide hx1
  have Hb2 := hide (Hb1.out.trans (hbw2.mono Hb1.out.size))
  have Hx0' := hide (Hx0.out.below hbw2 (Nat.le_refl _))
  have K := hide (cloneB_any ((V2.out.below Hb1.out).below hbw2) f2)
  clear hx1 hor1 hbw2 Hx0
  go_wp2_with fail
  refine Calls.mono (Hid.out K) ?_
  rintro e1 w3 ⟨x2, rfl, hx2, hor2, hbw3⟩
  clear K
  have Hx2 := hide hx2
  have Hb3 := hide (Hb2.out.trans (hbw3.mono Hb2.out.size))
  have Hx0 := hide (Hx0'.out.below hbw3 (Nat.le_refl _))
  have Hx1' := hide (Hx1.out.below hbw3 (Nat.le_refl _))
  have hz0 : z0.length ≤ 131072 := by rw [V0.out.len]; exact s0
  have hz1 : z1.length ≤ 131072 := by rw [V1.out.len]; exact s1
  have hz2 : z2.length ≤ 131072 := by rw [V2.out.len]; exact s2
  have K := hide (valid_any w3 x0 x1 x2 z0 z1 z2.length Hx0.out Hx1'.out hz0 hz1 hz2)
  clear hx2 hor2 hbw3 Hx0' Hx1 Hb1 Hb2 V0 V1 V2 f0 f1 f2 s0 s1 s2
  go_wp2_with fail
  refine Calls.mono (Hid.out K) ?_
  rintro e1 w4 ⟨hbw4, hb⟩
  clear K
  rcases hb with rfl | ⟨rfl, hval⟩
  · have Hb4 := hide (Hb3.out.trans (hbw4.mono Hb3.out.size))
    clear hbw4
    go_wp2
    go_ret
    exact ⟨rfl, Hb4.out⟩
  have hpos := hval.pos
  obtain rfl : x0 = some ⟨w.heap.size, 0, none⟩ := Hor.out.resolve_left (fun h => by rw [h] at hpos; simp at hpos)
  have hG : GIn w3 w.heap.size x1 x2 z0 z1 z2 := by
    obtain ⟨b, off, he, hlt, _⟩ := Hx0.out.at hpos
    injection he with he
    injection he with e1 e2
    subst e1
    exact ⟨hlt, Hx0.out, Hx1'.out, Hx2.out, hval, hz0, hz1, U2.out⟩
  have HG := hide (hG.below hbw4)
  have Hb4 := hide (Hb3.out.trans (hbw4.mono Hb3.out.size))
  obtain ⟨N, hN⟩ : ∃ N, z0.length = N + 1 := ⟨z0.length - 1, by omega⟩
  have HN := hide hN
  rw [hN]
  have hNs : N ≤ 131072 := by omega
  clear hbw4 hval hG Hx0 Hx1' Hx2 Hb3 U2 Hor hN hpos hz0
  go_upto_if 48 with fail
  go_cut [4, 5] (fun x y wx => ∃ l h : Nat, x = .int .u8 (l : Int) ∧ y = .int .u8 (h : Int) ∧ l ≤ h ∧ h < 256 ∧ wx = w4)
  case first =>
    by_cases hlh : (hi : Int) < (lo : Int)
    · go_wp2
      go_meet
      exact ⟨hi, lo, rfl, rfl, by omega, hlo, rfl⟩
    · go_wp2
      go_meet
      exact ⟨lo, hi, rfl, rfl, by omega, hhi, rfl⟩
  case rest =>
    obtain ⟨l, h, rfl, rfl, hlh, hh, hwc⟩ := hcut
    subst hwc
    have Hw := hide (wider_z z0 z1 z2 plain hlh)
    have K := hide (comps_any HG.out plain HN.out l (by omega))
    go_wp2_with fail
    refine Calls.mono (Hid.out K) ?_
    rintro e1 w5 ⟨bL, aL, cL, ca, sa, rfl, ga, la, rL, rsa, hbw5⟩
    have K2 := hide (comps_any (HG.out.below hbw5) plain HN.out h hh)
    have Hga := hide (And.intro ga (And.intro rL rsa))
    have Hb5 := hide (Hb4.out.trans (hbw5.mono Hb4.out.size))
    clear K ga rL rsa hbw5 Hb4
    go_wp2_with fail
    refine Calls.mono (Hid.out K2) ?_
    rintro e1 w6 ⟨bH, aH, cH, cb, sb, rfl, gb, lb, rH, rsb, hbw6⟩
    clear K2
    obtain ⟨ga, rL0, rsa0⟩ := Hga.out
    have rL := rL0.below hbw6 rL0.lt
    have rsa := rsa0.below hbw6 (Nat.le_refl _)
    have hlen := Tj.coarse_len Hw.out ga gb
    have hA : (zGr z0 z1 z2 plain l).N = N := by show z0.length - 1 = N; rw [HN.out]; rfl
    have hB : (zGr z0 z1 z2 plain h).N = N := hA
    have Hb6 := hide (Hb5.out.trans (hbw6.mono Hb5.out.size))
    have KL := hide (range_any rL (fun v hv => ga.lt v (by rw [hA]; exact hv)) hNs (Nat.le_trans la hNs))
    have KH := hide (range_any rH (fun v hv => gb.lt v (by rw [hB]; exact hv)) hNs (Nat.le_trans lb hNs))
    have KR := hide (reps_any rL (fun v hv => ga.lt v (by rw [hA]; exact hv)) (fun c hc => by rw [← hA]; exact ga.some_ c hc) hNs (Nat.le_trans la hNs))
    have hg1 : ¬ ((N : Int) < (sa.length : Int)) := by omega
    have hg2 : ¬ ((sa.length : Int) < (sb.length : Int)) := by omega
    have Hall := hide (And.intro ga (And.intro gb (And.intro rL (And.intro rH (And.intro rsa (And.intro rsb (And.intro hA hbw6)))))))
    have hmk := mk_ints sb.length (by omega)
    clear ga gb rL rH rsa rsb rL0 rsa0 hA hB hbw6 Hga Hb5 HG HN
    go_wp2_with fail
    refine Calls.mono (Hid.out KL) ?_
    rintro e1 w7 ⟨rfl, hw⟩
    subst w7
    clear KL
    go_wp2_with fail
    refine Calls.mono (Hid.out KH) ?_
    rintro e1 w7 ⟨rfl, hw⟩
    subst w7
    clear KH
    go_wp2_with fail
    refine Calls.mono (Hid.out KR) ?_
    rintro e1 w7 ⟨rep, rfl, rR, hrep, hsz7, hbw7⟩
    have hT : Two w7 N bL bH w6.heap.size aL aH (zGr z0 z1 z2 plain l) (zGr z0 z1 z2 plain h) ca cb rep sa sb := by
      obtain ⟨ga, gb, rL, rH, rsa, rsb, hA, _⟩ := Hall.out
      exact ⟨Hw.out, hA, ga, gb, la, hNs, rL.below hbw7 rL.lt, rH.below hbw7 rH.lt, rR, rsa.below hbw7 (Nat.le_refl _), rsb.below hbw7 (Nat.le_refl _), hrep⟩
    have HT := hide hT
    have Hb7 := hide (Hb6.out.trans (hbw7.mono Hb6.out.size))
    clear KR rR hrep hsz7 hbw7 hT Hb6 Hall Hw
    generalize zGr z0 z1 z2 plain l = A at HT
    generalize zGr z0 z1 z2 plain h = B at HT
    go_wp2
    clear hmk hg1 hg2
    go_loopw [20] (fun i wr => ∃ k : Nat, k ≤ sa.length ∧ i = .int .i64 k ∧ Row wr w7.heap.size 3 (Tab sb.length (fun c => nv (Tj.merged (fun j => cb (rep j)) sa k c))) ∧ Below w7.heap.size w7 wr) (fun i _ => sa.length - (intOf i).toNat)
    case atStart =>
      refine ⟨0, Nat.zero_le _, rfl, ?_, (Below.refl _ _).alloc (Nat.le_refl _) _⟩
      refine row_at rfl ?_
      unfold Tab
      simp [List.map_const', Tj.merged, nv]
    case round =>
      obtain ⟨k, hk, rfl, hrow, hb⟩ := hrel
      by_cases hlt : k < sa.length
      · have hki : (k : Int) < (sa.length : Int) := by omega
        have hT := HT.out
        obtain ⟨hr1, hr2⟩ := hT.hrep k hlt
        have hcb : cb (rep k) < sb.length := hT.gb.lt _ (by rw [← hT.hw.N, hT.hN]; exact hr1)
        obtain ⟨b, off, rfl, hbl, hcs⟩ := hT.rsa.nat hlt
        have q1 : wr.cell? ⟨w6.heap.size, k, none⟩ = some (.int .i64 (rep k : Int)) := by rw [hb.cell (p := ⟨w6.heap.size, k, none⟩) hT.rR.lt]; exact hT.rR.cellTab hlt
        have q2 : wr.cell? ⟨bH, rep k, none⟩ = some (.int .i64 (cb (rep k) : Int)) := by rw [hb.cell (p := ⟨bH, rep k, none⟩) hT.rH.lt]; exact hT.rH.cellTab hr1
        have q3 : wr.cell? ⟨b, off + k, none⟩ = some (.int .i64 (sa.getD k 0 : Int)) := by rw [hb.cell (p := ⟨b, off + k, none⟩) hbl]; exact hcs
        have q4 : wr.cell? ⟨w7.heap.size, cb (rep k), none⟩ = some (.int .i64 (Tj.merged (fun j => cb (rep j)) sa k (cb (rep k)) : Int)) := hrow.cellTab hcb
        have f4 := hrow.frozen (cb (rep k))
        have hm1 : Tj.merged (fun j => cb (rep j)) sa k (cb (rep k)) ≤ 131072 := by
          have := Tj.merged_le hT.ga (fun j => cb (rep j)) (cb (rep k)) k hk
          rw [hT.hN] at this; omega
        have hm2 : sa.getD k 0 ≤ 131072 := by
          have := hT.ga.size_le k hlt
          rw [hT.hN] at this; rw [getD_nat hlt]; omega
        have hset : Row (wr.setCell ⟨w7.heap.size, cb (rep k), none⟩ (.int .i64 ((Tj.merged (fun j => cb (rep j)) sa k (cb (rep k)) : Int) + (sa.getD k 0 : Int)))) w7.heap.size 3 (Tab sb.length (fun c => nv (Tj.merged (fun j => cb (rep j)) sa (k + 1) c))) := by
          refine (hrow.setTab _ _).tabEq (fun c _ => ?_)
          by_cases h : c = cb (rep k)
          · subst h; rw [if_pos rfl]; simp [Tj.merged, nv]
          · rw [if_neg h]
            show _ = nv (Tj.merged (fun j => cb (rep j)) sa k c + if cb (rep k) = c then sa.getD k 0 else 0)
            rw [if_neg (Ne.symm h)]; rfl
        have Hset := hide hset
        have Hb := hide hb
        have Hrow := hide hrow
        have hrl : (rep k : Int) < (N : Int) := by omega
        have hcl : (cb (rep k) : Int) < (sb.length : Int) := by omega
        have hn0 : ¬ ((rep k : Int) < 0) := by omega
        have hne1 : w6.heap.size ≠ w7.heap.size := by have := hT.rR.lt; omega
        have hne2 : bH ≠ w7.heap.size := by have := hT.rH.lt; omega
        have hne3 : b ≠ w7.heap.size := by omega
        clear hT hrow hb hset hcs hr2 hr1
        generalize Tj.merged (fun j => cb (rep j)) sa k (cb (rep k)) = x at *
        generalize sa.getD k 0 = y at *
        generalize cb (rep k) = u at *
        generalize rep k = r at *
        go_upto_region 26 with fail
        go_region
        go_wp2
        go_roundw
        case rel => exact ⟨k + 1, by omega, by go_num, Hset.out.drew, (Hb.out.setCell (by simp) _).drew⟩
        case measure => simp [intOf]; omega
      · have hke : k = sa.length := by omega
        have Hrow : Hid (Row wr w7.heap.size 3 (Tab sb.length (fun c => nv (sb.getD c 0)))) := hide (hrow.tabEq (fun c hc => by
          show nv _ = nv _
          rw [hke, Tj.merged_all HT.out.hw HT.out.ga HT.out.gb (fun c hc => by rw [HT.out.hN]; exact HT.out.hrep c hc) c hc, getD_nat hc]))
        have Hb := hide hb
        clear hrow hb hke
        go_wp2
        go_loopw [21] (fun i wr2 => ∃ j : Nat, j ≤ N ∧ i = .int .i64 j ∧ Row wr2 w7.heap.size 3 (Tab sb.length (fun c => nv (sb.getD c 0))) ∧ Below w7.heap.size w7 wr2) (fun i _ => N - (intOf i).toNat)
        case atStart => exact ⟨0, Nat.zero_le _, rfl, Hrow.out, Hb.out⟩
        case round =>
          clear Hrow Hb
          obtain ⟨j, hj, rfl, hrow, hb⟩ := hrel
          by_cases hjn : j < N
          · have hji : (j : Int) < (N : Int) := by omega
            have hT := HT.out
            have hjA : j < A.N := by rw [hT.hN]; exact hjn
            have hca := hT.ga.lt j hjA
            obtain ⟨hr1, hr2⟩ := hT.hrep _ hca
            have heq : cb (rep (ca j)) = cb j := Tj.coarse hT.hw hT.ga hT.gb (by rw [hT.hN]; exact hr1) hjA hr2
            have q1 : wr.cell? ⟨bH, j, none⟩ = some (.int .i64 (cb j : Int)) := by rw [hb.cell (p := ⟨bH, j, none⟩) hT.rH.lt]; exact hT.rH.cellTab hjn
            have q2 : wr.cell? ⟨bL, j, none⟩ = some (.int .i64 (ca j : Int)) := by rw [hb.cell (p := ⟨bL, j, none⟩) hT.rL.lt]; exact hT.rL.cellTab hjn
            have q3 : wr.cell? ⟨w6.heap.size, ca j, none⟩ = some (.int .i64 (rep (ca j) : Int)) := by rw [hb.cell (p := ⟨w6.heap.size, ca j, none⟩) hT.rR.lt]; exact hT.rR.cellTab hca
            have q4 : wr.cell? ⟨bH, rep (ca j), none⟩ = some (.int .i64 (cb j : Int)) := by rw [hb.cell (p := ⟨bH, rep (ca j), none⟩) hT.rH.lt, hT.rH.cellTab hr1, heq]; rfl
            have hbn : ((cb j : Int) != (cb j : Int)) = false := by simp
            have h1i : (ca j : Int) < (sa.length : Int) := by omega
            have h2i : (rep (ca j) : Int) < (N : Int) := by omega
            have Hb := hide hb
            have Hrow := hide hrow
            clear hT hrow hb hr2 heq hr1 hca hjA
            generalize cb j = x at *
            generalize rep (ca j) = r at *
            generalize ca j = y at *
            go_upto_region 30 with fail
            go_quiet (fail)
            go_wp2
            go_roundw
            case rel => exact ⟨j + 1, by omega, by go_num, by have := Hrow.out; exact this, below_drew Hb.out _⟩
            case measure => simp [intOf]; omega
          · have Hb := hide hb
            have Hrow := hide hrow
            clear hb hrow
            go_wp2
            go_loopw [22] (fun i wr2 => ∃ j : Nat, j ≤ sb.length ∧ i = .int .i64 j ∧ Row wr2 w7.heap.size 3 (Tab sb.length (fun c => nv (sb.getD c 0))) ∧ Below w7.heap.size w7 wr2) (fun i _ => sb.length - (intOf i).toNat)
            case atStart => exact ⟨0, Nat.zero_le _, rfl, Hrow.out, Hb.out⟩
            case round =>
              clear Hrow Hb
              obtain ⟨c, hc, rfl, hrow, hb⟩ := hrel
              by_cases hcn : c < sb.length
              · have hci : (c : Int) < (sb.length : Int) := by omega
                have hT := HT.out
                obtain ⟨b, off, rfl, hbl, hcs⟩ := hT.rsb.nat hcn
                have q1 : wr.cell? ⟨w7.heap.size, c, none⟩ = some (.int .i64 (sb.getD c 0 : Int)) := hrow.cellTab hcn
                have q2 : wr.cell? ⟨b, off + c, none⟩ = some (.int .i64 (sb.getD c 0 : Int)) := by rw [hb.cell (p := ⟨b, off + c, none⟩) hbl]; exact hcs
                have hbn : ((sb.getD c 0 : Int) != (sb.getD c 0 : Int)) = false := by simp
                have Hb := hide hb
                have Hrow := hide hrow
                clear hT hrow hb hcs
                generalize sb.getD c 0 = x at q1 q2 hbn
                go_upto_region 35 with fail
                go_quiet (fail)
                go_wp2
                go_roundw
                case rel => exact ⟨c + 1, by omega, by go_num, by have := Hrow.out; exact this, below_drew Hb.out _⟩
                case measure => simp [intOf]; omega
              · have Hb := hide (Hb7.out.trans (hb.mono Hb7.out.size))
                clear hrow hb
                go_wp2
                go_ret
                exact ⟨rfl, Hb.out⟩
end Go.Proofs.Qxb6602044a
