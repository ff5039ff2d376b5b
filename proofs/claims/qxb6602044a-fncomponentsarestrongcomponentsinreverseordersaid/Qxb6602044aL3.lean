/-
  THE LAW 'COMPONENTS ARE STRONG COMPONENTS IN REVERSE ORDER': THE WALK.
-/
import Derived.Test.Qxb6602044aS3
import Derived.Test.Qxb6602044aS4
namespace Go.Proofs.Qxb6602044a
open Go.RowKit
set_option linter.unusedVariables false

def LawOut3 (w : World) (e : Ending) (w' : World) : Prop := e = .returned (.bool true) ∧ Below w.heap.size w w'

def cN (cmp : Nat → Nat) (k c : Nat) : Nat := (List.range k).countP (fun v => decide (cmp v = c))
def cP (cmp : Nat → Nat) (plain : Int) (k c : Nat) : Nat := (List.range k).countP (fun v => decide (cmp v = c) && decide ((v : Int) < plain))

theorem cN_succ (cmp : Nat → Nat) (k c : Nat) : cN cmp (k + 1) c = if c = cmp k then cN cmp k (cmp k) + 1 else cN cmp k c := by
  unfold cN
  rw [List.range_succ, List.countP_append]
  by_cases h : c = cmp k
  · subst h; rw [if_pos rfl]; simp
  · rw [if_neg h]; simp [Ne.symm h]

theorem cP_in (cmp : Nat → Nat) {plain : Int} {k : Nat} (hk : (k : Int) < plain) (c : Nat) : cP cmp plain (k + 1) c = if c = cmp k then cP cmp plain k (cmp k) + 1 else cP cmp plain k c := by
  unfold cP
  rw [List.range_succ, List.countP_append]
  by_cases h : c = cmp k
  · subst h; rw [if_pos rfl]; simp [hk]
  · rw [if_neg h]; simp [Ne.symm h]

theorem cP_out (cmp : Nat → Nat) {plain : Int} {k : Nat} (hk : ¬ (k : Int) < plain) (c : Nat) : cP cmp plain (k + 1) c = cP cmp plain k c := by
  unfold cP
  rw [List.range_succ, List.countP_append]
  have h0 : List.countP (fun v => decide (cmp v = c) && decide ((v : Int) < plain)) [k] = 0 := by
    rw [List.countP_cons, List.countP_nil]
    simp only [decide_eq_false hk, Bool.and_false]
    rfl
  omega

theorem cN_le (cmp : Nat → Nat) (k c : Nat) : cN cmp k c ≤ k := by
  unfold cN; exact Nat.le_trans List.countP_le_length (by simp)
theorem cP_le (cmp : Nat → Nat) (plain : Int) (k c : Nat) : cP cmp plain k c ≤ k := by
  unfold cP; exact Nat.le_trans List.countP_le_length (by simp)

theorem Reads.nat3 {w : World} {a : Option Addr} {xs : List Nat} (h : Reads 0 w a (xs.map nv)) {i : Nat} (hi : i < xs.length) :
    ∃ b off, a = some ⟨b, off, none⟩ ∧ b < w.heap.size ∧ w.cell? ⟨b, off + i, none⟩ = some (nv (xs.getD i 0)) := by
  obtain ⟨b, off, h1, _, h2, h3⟩ := h i (by simpa using hi)
  refine ⟨b, off, h1, h2, ?_⟩
  rw [h3, List.getD_eq_getElem?_getD, List.getElem?_eq_getElem hi, List.getElem_map]
  rfl

theorem roots_fw {G : Tj.Gr} (hv : G.Valid) {cmp : Nat → Nat} {size : List Nat} (g : Tj.Good G cmp size) {rep : Nat → Nat} (hr : ∀ c, c < size.length → rep c < G.N ∧ cmp (rep c) = c) : Roots (G.net cmp size.length) rep :=
  ⟨Tj.Gr.net_stay hv g, hr, fun v hvN => by
    have hvN' : v < G.N := hvN
    obtain ⟨h1, h2⟩ := hr (cmp v) (g.lt v hvN')
    exact Tj.Gr.net_reach g (g.same _ v h1 hvN' h2) h2⟩

theorem roots_bw {G : Tj.Gr} (hv : G.Valid) {cmp : Nat → Nat} {size : List Nat} (g : Tj.Good G cmp size) {rep : Nat → Nat} (hr : ∀ c, c < size.length → rep c < G.N ∧ cmp (rep c) = c) {r : Nat → Nat} (hl : Tj.Laid G cmp r G.M) : Roots (Tj.back G cmp size.length r) rep :=
  ⟨Tj.back_stay hv g hl, hr, fun v hvN => by
    have hvN' : v < G.N := hvN
    obtain ⟨h1, h2⟩ := hr (cmp v) (g.lt v hvN')
    exact Tj.back_reach hv g hl (g.same v _ hvN' h1 h2.symm) h2.symm⟩

set_option maxRecDepth 100000 in
set_option maxHeartbeats 4000000 in
theorem law3_any (w : World) (a0 a1 a2 : Option Addr) (l0 l1 l2 c0 c1 c2 : Nat) (z0 z1 z2 : List Int) (v0 : VNums .i64 w a0 l0 c0 z0) (v1 : VNums .i64 w a1 l1 c1 z1) (v2 : VNums .u8 w a2 l2 c2 z2)
    (u2 : ∀ x ∈ z2, 0 ≤ x ∧ x < 256) (plain : Int) (most : Nat) (hmo : most < 256) :
    Calls Try.prog 3 #[.slice a0 l0 c0, .slice a1 l1 c1, .slice a2 l2 c2, .int .i64 plain, .int .u8 (most : Int)] w (LawOut3 w) := by
  have K19 := hide (bytes8_any w a0 a1 a2 l0 l1 l2 c0 c1 c2 plain most)
  have V0 := hide v0
  have V1 := hide v1
  have V2 := hide v2
  have U2 := hide u2
  clear v0 v1 v2 u2
  go_enter Try.func3, Try.ntmps3
  go_wp2_with fail
  refine Calls.mono (Hid.out K19) ?_
  rintro e1 w1 ⟨hw, hb⟩
  subst w1
  clear K19
  rcases hb with rfl | ⟨rfl, hfew⟩
  · go_wp2
    go_ret
    exact ⟨rfl, Below.refl _ _⟩
  obtain ⟨f0, f1, f2⟩ := hfew
  have K9 := hide (tooBig_any w a0 a1 a2 l0 l1 l2 c0 c1 c2 f0 f1 f2)
  go_wp2_with fail
  refine Calls.mono (Hid.out K9) ?_
  rintro e1 w1 ⟨hw, hb⟩
  subst w1
  clear K9
  rcases hb with rfl | ⟨rfl, hsm⟩
  · go_wp2
    go_ret
    exact ⟨rfl, Below.refl _ _⟩
  obtain ⟨s0, s1, s2⟩ := hsm
  have K := hide (cloneI_any V0.out f0)
  go_wp2_with fail
  refine Calls.mono (Hid.out K) ?_
  rintro e1 w1 ⟨x0, rfl, hx0, hor, hbw1⟩
  clear K
  have Hx0 := hide hx0
  have Hor := hide hor
  have Hb1 := hide hbw1
  have K := hide (cloneI_any (V1.out.below hbw1) f1)
  clear hx0 hor hbw1
  go_wp2_with fail
  refine Calls.mono (Hid.out K) ?_
  rintro e1 w2 ⟨x1, rfl, hx1, hor1, hbw2⟩
  clear K
  have Hx1 := hide hx1
  have Hb2 := hide (Hb1.out.trans (hbw2.mono Hb1.out.size))
  have Hx0' := hide (Hx0.out.below hbw2 (Nat.le_refl _))
  have K := hide (cloneB_any ((V2.out.below Hb1.out).below hbw2) f2)
  clear hx1 hor1 hbw2 Hx0
  go_wp2_with fail
  refine Calls.mono (Hid.out K) ?_
  rintro e1 w3 ⟨x2, rfl, hx2, hor2, hbw3⟩
  clear K
  have Hx2 := hide hx2
  have Hb3 := hide (Hb2.out.trans (hbw3.mono Hb2.out.size))
  have Hx0 := hide (Hx0'.out.below hbw3 (Nat.le_refl _))
  have Hx1' := hide (Hx1.out.below hbw3 (Nat.le_refl _))
  have hz0 : z0.length ≤ 131072 := by rw [V0.out.len]; exact s0
  have hz1 : z1.length ≤ 131072 := by rw [V1.out.len]; exact s1
  have hz2 : z2.length ≤ 131072 := by rw [V2.out.len]; exact s2
  have K := hide (valid_any w3 x0 x1 x2 z0 z1 z2.length Hx0.out Hx1'.out hz0 hz1 hz2)
  clear hx2 hor2 hbw3 Hx0' Hx1 Hb1 Hb2 V0 V1 V2 f0 f1 f2 s0 s1 s2
  go_wp2_with fail
  refine Calls.mono (Hid.out K) ?_
  rintro e1 w4 ⟨hbw4, hb⟩
  clear K
  rcases hb with rfl | ⟨rfl, hval⟩
  · have Hb4 := hide (Hb3.out.trans (hbw4.mono Hb3.out.size))
    clear hbw4
    go_wp2
    go_ret
    exact ⟨rfl, Hb4.out⟩
  have hpos := hval.pos
  obtain rfl : x0 = some ⟨w.heap.size, 0, none⟩ := Hor.out.resolve_left (fun h => by rw [h] at hpos; simp at hpos)
  have hG : GIn w3 w.heap.size x1 x2 z0 z1 z2 := by
    obtain ⟨b, off, he, hlt, _⟩ := Hx0.out.at hpos
    injection he with he
    injection he with e1 e2
    subst e1
    exact ⟨hlt, Hx0.out, Hx1'.out, Hx2.out, hval, hz0, hz1, U2.out⟩
  have HG := hide (hG.below hbw4)
  have Hb4 := hide (Hb3.out.trans (hbw4.mono Hb3.out.size))
  obtain ⟨N, hN⟩ : ∃ N, z0.length = N + 1 := ⟨z0.length - 1, by omega⟩
  have HN := hide hN
  rw [hN]
  have hNs : N ≤ 131072 := by omega
  clear hbw4 hval hG Hx0 Hx1' Hx2 Hb3 U2 Hor hN hpos hz0
  have K := hide (comps_any HG.out plain HN.out most hmo)
  go_wp2_with fail
  refine Calls.mono (Hid.out K) ?_
  rintro e1 w5 ⟨bL, aL, cL, ca, sa, rfl, ga, la, rL, rsa, hbw5⟩
  clear K
  have hA : (zGr z0 z1 z2 plain most).N = N := by show z0.length - 1 = N; rw [HN.out]; rfl
  have hg1 : ¬ ((N : Int) < (sa.length : Int)) := by omega
  have KL := hide (range_any rL (fun v hv => ga.lt v (by rw [hA]; exact hv)) hNs (Nat.le_trans la hNs))
  have Hb5 := hide (Hb4.out.trans (hbw5.mono Hb4.out.size))
  have HG5 := hide (HG.out.below hbw5)
  have Hga := hide ga
  have HrL := hide rL
  have Hrsa := hide rsa
  have HA := hide hA
  have hmk := mk_ints sa.length (by omega)
  clear ga rL rsa hbw5 Hb4 HG hA
  go_wp2_with fail
  refine Calls.mono (Hid.out KL) ?_
  rintro e1 w7 ⟨rfl, hw⟩
  subst w7
  clear KL
  go_wp2
  clear hmk hg1
  rw [decide_eq_false (show ¬ N < sa.length by omega)]
  go_loopg [17] N (fun k i wr => ∃ n : Nat, n + k = N ∧ i = .int .i64 (n : Int) ∧ Row wr w5.heap.size 3 (Tab sa.length (fun c => nv (cN ca n c))) ∧ Row wr (w5.heap.size + 1) 3 (Tab sa.length (fun c => nv (cP ca plain n c))) ∧ Below w5.heap.size w5 wr)
  case atStart =>
    refine ⟨0, by omega, rfl, ?_, ?_, ((Below.refl _ _).alloc (Nat.le_refl _) _).alloc (by simp) _⟩
    · refine Row.alloc (row_at rfl ?_) _
      show (List.replicate sa.length (Value.int .i64 0)).toArray = _
      rw [tab_replicate]
      rfl
    · refine row_at (by simp) ?_
      show (List.replicate sa.length (Value.int .i64 0)).toArray = _
      rw [tab_replicate]
      rfl
  case round =>
    obtain ⟨n, hnk, rfl, hm, hp, hb⟩ := hrel
    by_cases hnN : n < N
    · have hni : (n : Int) < (N : Int) := by omega
      have hcn := Hga.out.lt n (by rw [HA.out]; exact hnN)
      have cc : wr.cell? ⟨bL, n, none⟩ = some (.int .i64 (ca n : Int)) := by rw [hb.cell (p := ⟨bL, n, none⟩) HrL.out.lt]; exact HrL.out.cellTab hnN
      have hci : (ca n : Int) < (sa.length : Int) := by omega
      have cm : wr.cell? ⟨w5.heap.size, ca n, none⟩ = some (.int .i64 (cN ca n (ca n) : Int)) := hm.cellTab hcn
      have fm := hm.frozen (ca n)
      have cp : wr.cell? ⟨w5.heap.size + 1, ca n, none⟩ = some (.int .i64 (cP ca plain n (ca n) : Int)) := hp.cellTab hcn
      have fp := hp.frozen (ca n)
      have hle1 := cN_le ca n (ca n)
      have hle2 := cP_le ca plain n (ca n)
      have hne : bL ≠ w5.heap.size := by have := HrL.out.lt; omega
      have hne2 : bL ≠ w5.heap.size + 1 := by have := HrL.out.lt; omega
      have hm1 := (hm.setTab (ca n) (nv (cN ca n (ca n) + 1))).tabEq (G := fun c => nv (cN ca (n + 1) c)) (fun c _ => by
        rw [cN_succ]
        by_cases h : c = ca n
        · rw [if_pos h, if_pos h]
        · rw [if_neg h, if_neg h])
      have hp1 := hp.other ⟨w5.heap.size, ca n, none⟩ (nv (cN ca n (ca n) + 1)) (by show w5.heap.size + 1 ≠ w5.heap.size; omega)
      have hb1 := hb.setCell (p := ⟨w5.heap.size, ca n, none⟩) (Nat.le_refl _) (nv (cN ca n (ca n) + 1))
      by_cases hpl : (n : Int) < plain
      · have Hm2 := hide (hm1.other ⟨w5.heap.size + 1, ca n, none⟩ (nv (cP ca plain n (ca n) + 1)) (by show w5.heap.size ≠ w5.heap.size + 1; omega))
        have Hp2 := hide ((hp1.setTab (ca n) (nv (cP ca plain n (ca n) + 1))).tabEq (G := fun c => nv (cP ca plain (n + 1) c)) (fun c _ => by
          rw [cP_in ca hpl]
          by_cases h : c = ca n
          · rw [if_pos h, if_pos h]
          · rw [if_neg h, if_neg h]))
        have Hb2 := hide (hb1.setCell (p := ⟨w5.heap.size + 1, ca n, none⟩) (by show w5.heap.size ≤ w5.heap.size + 1; omega) (nv (cP ca plain n (ca n) + 1)))
        clear hm hp hb hm1 hp1 hb1
        generalize cN ca n (ca n) = y1 at cm hle1 Hm2 Hp2 Hb2
        generalize cP ca plain n (ca n) = y2 at cp hle2 Hm2 Hp2 Hb2
        generalize ca n = x at cc hcn hci cm fm cp fp Hm2 Hp2 Hb2
        go_wp2
        go_roundg (gk - 1)
        case measure => omega
        case rel => exact ⟨n + 1, by omega, by go_num, Hm2.out, Hp2.out, Hb2.out⟩
      · have Hm2 := hide hm1
        have Hp2 := hide (hp1.tabEq (G := fun c => nv (cP ca plain (n + 1) c)) (fun c _ => by rw [cP_out ca hpl]))
        have Hb2 := hide hb1
        clear hm hp hb hm1 hp1 hb1
        generalize cN ca n (ca n) = y1 at cm hle1 Hm2 Hp2 Hb2
        generalize cP ca plain n (ca n) = y2 at cp hle2
        generalize ca n = x at cc hcn hci cm fm cp fp Hm2 Hp2 Hb2
        go_wp2
        go_roundg (gk - 1)
        case measure => omega
        case rel => exact ⟨n + 1, by omega, by go_num, Hm2.out, Hp2.out, Hb2.out⟩
    · have hni : ¬ ((n : Int) < (N : Int)) := by omega
      have hne : n = N := by omega
      have Hm := hide (show Row wr w5.heap.size 3 (Tab sa.length (fun c => nv (cN ca N c))) by rw [← hne]; exact hm)
      have Hp := hide (show Row wr (w5.heap.size + 1) 3 (Tab sa.length (fun c => nv (sa.getD c 0))) by
        refine hp.tabEq (fun c hc => ?_)
        show nv _ = nv _
        rw [List.getD_eq_getElem?_getD, List.getElem?_eq_getElem hc, Option.getD_some, Hga.out.sizes c hc, HA.out, hne]
        rfl)
      have Hb := hide hb
      clear hm hp hb hne
      go_wp2
      go_loopg [18] sa.length (fun k i wr => ∃ c : Nat, c + k = sa.length ∧ i = .int .i64 (c : Int) ∧ Row wr w5.heap.size 3 (Tab sa.length (fun c => nv (cN ca N c))) ∧ Row wr (w5.heap.size + 1) 3 (Tab sa.length (fun c => nv (sa.getD c 0))) ∧ Below w5.heap.size w5 wr)
      case atStart => exact ⟨0, by omega, rfl, Hm.out, Hp.out, Hb.out⟩
      case round =>
        clear Hm Hp Hb
        obtain ⟨c, hck, rfl, hm, hp, hb⟩ := hrel
        by_cases hcK : c < sa.length
        · have hci : (c : Int) < (sa.length : Int) := by omega
          have h1 : cN ca N c ≠ 0 := fun h0 => by
            obtain ⟨v, hv, he⟩ := Hga.out.some_ c hcK
            rw [HA.out] at hv
            have := List.countP_eq_zero.1 h0 v (by simpa using hv)
            exact this (decide_eq_true he)
          have cm : wr.cell? ⟨w5.heap.size, c, none⟩ = some (.int .i64 (cN ca N c : Int)) := hm.cellTab hcK
          have cp : wr.cell? ⟨w5.heap.size + 1, c, none⟩ = some (.int .i64 (sa.getD c 0 : Int)) := hp.cellTab hcK
          obtain ⟨b, off, rfl, hbl, hcs⟩ := Hrsa.out.nat3 hcK
          replace hcs : wr.cell? ⟨b, off + c, none⟩ = some (.int .i64 (sa.getD c 0 : Int)) := by rw [hb.cell (p := ⟨b, off + c, none⟩) hbl]; exact hcs
          have hz : ((cN ca N c : Int) == 0) = false := beq_eq_false_iff_ne.2 (by omega)
          have hq : ((sa.getD c 0 : Int) != (sa.getD c 0 : Int)) = false := by simp
          have Hm := hide hm
          have Hp := hide hp
          have Hb := hide hb
          clear hm hp hb
          generalize cN ca N c = y at cm hz
          generalize sa.getD c 0 = x at cp hcs hq
          go_upto_region 26 with fail
          go_quiet (fail)
          have Hm2 := hide (Hm.out.drews nq)
          have Hp2 := hide (Hp.out.drews nq)
          have Hb2 := hide (below_drew Hb.out nq)
          clear Hm Hp Hb
          go_wp2
          go_roundg (gk - 1)
          case measure => omega
          case rel => exact ⟨c + 1, by omega, by go_num, Hm2.out, Hp2.out, Hb2.out⟩
        · have hci : ¬ ((c : Int) < (sa.length : Int)) := by omega
          have Hb := hide hb
          clear hm hp hb
          go_wp2
          go_loopg [19] N (fun k i wr => ∃ u : Nat, u + k = N ∧ i = .int .i64 (u : Int) ∧ Below w5.heap.size w5 wr)
          case atStart => exact ⟨0, by omega, rfl, Hb.out⟩
          case round =>
            clear Hb
            obtain ⟨u, huk, rfl, hb⟩ := hrel
            by_cases huN : u < N
            · have hui : (u : Int) < (N : Int) := by omega
              have hui1 : (u : Int) < (N : Int) + 1 := by omega
              have hui2 : (u : Int) + 1 < (N : Int) + 1 := by omega
              have cs : wr.cell? ⟨w.heap.size, u, none⟩ = some (.int .i64 ((zGr z0 z1 z2 plain most).st u : Int)) := by rw [hb.cell (p := ⟨w.heap.size, u, none⟩) HG5.out.lt]; exact HG5.out.cst plain most (by rw [HN.out]; omega)
              have hmono := (HG5.out.valid plain most).mono u (by rw [HA.out]; exact huN)
              have hle := (HG5.out.valid plain most).le (u + 1) (by rw [HA.out]; omega)
              replace hle : (zGr z0 z1 z2 plain most).st (u + 1) ≤ z1.length := hle
              have Hb := hide hb
              clear hb
              go_wp2
              clear cs
              go_loopg [20] ((zGr z0 z1 z2 plain most).st (u + 1) - (zGr z0 z1 z2 plain most).st u) (fun k i wr => ∃ j : Nat, j + k = (zGr z0 z1 z2 plain most).st (u + 1) ∧ (zGr z0 z1 z2 plain most).st u ≤ j ∧ i = .int .i64 (j : Int) ∧ Below w5.heap.size w5 wr)
              case atStart => exact ⟨_, by omega, Nat.le_refl _, rfl, Hb.out⟩
              case round =>
                clear Hb
                obtain ⟨j, hjk, hj0, rfl, hb⟩ := hrel
                have c1 : wr.cell? ⟨w.heap.size, u + 1, none⟩ = some (.int .i64 ((zGr z0 z1 z2 plain most).st (u + 1) : Int)) := by rw [hb.cell (p := ⟨w.heap.size, u + 1, none⟩) HG5.out.lt]; exact HG5.out.cst plain most (by rw [HN.out]; omega)
                by_cases hlt3 : j < (zGr z0 z1 z2 plain most).st (u + 1)
                · have hji : (j : Int) < ((zGr z0 z1 z2 plain most).st (u + 1) : Int) := by omega
                  have hjM : j < z1.length := by omega
                  have hjMi : (j : Int) < (z1.length : Int) := by omega
                  have hjK : (j : Int) < (z2.length : Int) := by have := HG5.out.ok.kind; omega
                  obtain ⟨b1, o1, rfl, hb1, cto⟩ := HG5.out.cto plain most hjM
                  obtain ⟨b2, o2, rfl, hb2, ckd⟩ := HG5.out.ckd hjM
                  rw [← hb.cell (p := ⟨b1, o1 + j, none⟩) hb1] at cto
                  rw [← hb.cell (p := ⟨b2, o2 + j, none⟩) hb2] at ckd
                  have hvN : (zGr z0 z1 z2 plain most).to j < N := by have := (HG5.out.valid plain most).ends j hjM; rw [HA.out] at this; exact this
                  have cu : wr.cell? ⟨bL, u, none⟩ = some (.int .i64 (ca u : Int)) := by rw [hb.cell (p := ⟨bL, u, none⟩) HrL.out.lt]; exact HrL.out.cellTab huN
                  have cv : wr.cell? ⟨bL, (zGr z0 z1 z2 plain most).to j, none⟩ = some (.int .i64 (ca ((zGr z0 z1 z2 plain most).to j) : Int)) := by rw [hb.cell (p := ⟨bL, (zGr z0 z1 z2 plain most).to j, none⟩) HrL.out.lt]; exact HrL.out.cellTab hvN
                  have hmn : (z2.getD j 0).toNat ≤ most → ca ((zGr z0 z1 z2 plain most).to j) ≤ ca u := fun hk => Hga.out.mono u _ ⟨by rw [HA.out]; exact huN, j, hj0, hlt3, rfl, decide_eq_true hk⟩
                  have hmi : ((zGr z0 z1 z2 plain most).to j : Int) < (N : Int) := by omega
                  have Hb := hide hb
                  clear hb
                  generalize (zGr z0 z1 z2 plain most).to j = m at cto hvN cv hmn hmi
                  generalize (z2.getD j 0).toNat = kd at ckd hmn
                  generalize ca m = y at cv hmn
                  generalize ca u = x at cu hmn
                  by_cases hk : kd ≤ most
                  · have hd : decide ((kd : Int) ≤ (most : Int)) = true := decide_eq_true (by omega)
                    have hyx := hmn hk
                    have hnl : ¬ ((x : Int) < (y : Int)) := by omega
                    have hnd : decide ((x : Int) < (y : Int)) = false := decide_eq_false hnl
                    clear hmn
                    go_upto_region 34 with fail
                    go_quiet (fail)
                    have Hb2 := hide (below_drew Hb.out nq)
                    clear Hb
                    go_wp2
                    go_roundg (gk - 1)
                    case measure => omega
                    case rel => exact ⟨j + 1, by omega, by omega, by go_num, Hb2.out⟩
                  · have hd : decide ((kd : Int) ≤ (most : Int)) = false := decide_eq_false (by omega)
                    clear hmn
                    go_upto_region 34 with fail
                    go_quiet (fail)
                    have Hb2 := hide (below_drew Hb.out nq)
                    clear Hb
                    go_wp2
                    go_roundg (gk - 1)
                    case measure => omega
                    case rel => exact ⟨j + 1, by omega, by omega, by go_num, Hb2.out⟩
                · have hji : ¬ ((j : Int) < ((zGr z0 z1 z2 plain most).st (u + 1) : Int)) := by omega
                  have Hb := hide hb
                  clear hb
                  go_wp2
                  go_roundg (N - u - 1)
                  case measure => omega
                  case rel => exact ⟨u + 1, by omega, by go_num, Hb.out⟩
            · have hui : ¬ ((u : Int) < (N : Int)) := by omega
              have hKs : sa.length ≤ 131072 := Nat.le_trans la hNs
              have rL := HrL.out.below hb HrL.out.lt
              have KR := hide (reps_any rL (fun v hv => Hga.out.lt v (by rw [HA.out]; exact hv)) (fun c hc => by rw [← HA.out]; exact Hga.out.some_ c hc) hNs hKs)
              have HrL2 := hide rL
              have HG6 := hide (HG5.out.below hb)
              have Hb6 := hide (Hb5.out.trans (hb.mono Hb5.out.size))
              clear hb rL
              rename World => wb
              go_wp2_with fail
              refine Calls.mono (Hid.out KR) ?_
              rintro e1 w8 ⟨rep, rfl, rR, hrep, hsz8, hbw8⟩
              clear KR
              have hrep2 : ∀ c, c < sa.length → rep c < (zGr z0 z1 z2 plain most).N ∧ ca (rep c) = c := fun c hc => by rw [HA.out]; exact hrep c hc
              have HG7 := hide (HG6.out.below hbw8)
              have rL8 := HrL2.out.below hbw8 HrL2.out.lt
              have KF := hide (forward_any HG7.out plain HN.out hmo rL8 rR hKs (roots_fw (HG7.out.valid plain most) Hga.out hrep2))
              have Hb8 := hide (Hb6.out.trans (hbw8.mono Hb6.out.size))
              have Hrep := hide hrep2
              have HrL8 := hide rL8
              have HrR8 := hide rR
              clear rR hrep hsz8 hbw8 hrep2 rL8
              go_wp2_with fail
              refine Calls.mono (Hid.out KF) ?_
              rintro e1 w9 ⟨rfl, hbw9⟩
              clear KF
              have HG9 := hide (HG7.out.below hbw9)
              have rL9 := HrL8.out.below hbw9 HrL8.out.lt
              have rR9 := HrR8.out.below hbw9 HrR8.out.lt
              have KV := hide (reverse_any HG9.out plain HN.out hmo rL9)
              have Hb9 := hide (Hb8.out.trans (hbw9.mono Hb8.out.size))
              have HrR9 := hide rR9
              clear rL9 rR9 hbw9
              go_wp2_with fail
              refine Calls.mono (Hid.out KV) ?_
              rintro e1 w10 ⟨bs, bq, r, rfl, hs, hs2, hlaid, hbw10⟩
              clear KV
              have rR10 := HrR9.out.below hbw10 HrR9.out.lt
              have hR : Tj.pre (zGr z0 z1 z2 plain most) ca N ≤ 131072 := Nat.le_trans (Tj.pre_le _ _ _) hz1
              have KB := hide (backward_any plain (A := Tj.back (zGr z0 z1 z2 plain most) ca sa.length r) HA.out rfl (fun _ _ => rfl) hNs hKs hR hs hs2 rR10 (fun x hx => ⟨Tj.pre_mono _ _ (by omega), Tj.pre_mono _ _ (by omega)⟩) (roots_bw (HG9.out.valid plain most) Hga.out Hrep.out hlaid))
              have Hb10 := hide (Hb9.out.trans (hbw10.mono Hb9.out.size))
              clear hs hs2 hlaid hbw10 rR10
              generalize Tj.pre (zGr z0 z1 z2 plain most) ca N = R at KB hR
              go_wp2_with fail
              refine Calls.mono (Hid.out KB) ?_
              rintro e1 w11 ⟨v, rfl, hbw11⟩
              clear KB
              have Hb11 := hide (Hb10.out.trans (hbw11.mono Hb10.out.size))
              clear hbw11
              go_wp2
              go_ret
              exact ⟨rfl, Hb11.out⟩
end Go.Proofs.Qxb6602044a
