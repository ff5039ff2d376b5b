/-
  findFitsB1: WHAT A GRANTED INPUT LOOKS LIKE.
-/
import Derived.Test.Qxb6602558aPl
import Derived.Test.Qxb6602558aF11
namespace Go.Proofs.Qxb6602558a
open Go.RowKit
set_option linter.unusedVariables false

/-- the cells of a slice, each of a kind -/
def Cells (w : World) (a : Option Addr) (l : Nat) (Q : Nat → Value → Prop) : Prop := ∀ k, k < l → ∃ b off v, a = some ⟨b, off, none⟩ ∧ b < w.heap.size ∧ w.cell? ⟨b, off + k, none⟩ = some v ∧ Q k v

def RowQ (w : World) (n : Nat → Nat) (x : Nat → Nat → Int) (k : Nat) (v : Value) : Prop :=
  ∃ a c, v = .slice a (n k) c ∧ ∀ j, j < n k → ∃ b' o', a = some ⟨b', o', none⟩ ∧ b' < w.heap.size ∧ w.cell? ⟨b', o' + j, none⟩ = some (.int .i64 (x k j))

structure Fit (J : Job) (x1 : Nat → Nat → Int) (n2 : Nat → Nat) (l1 l2 l4 l5 : Nat) : Prop where
  e1 : l1 = J.nA
  e2 : l2 = J.nA
  e4 : l4 = J.L
  e5 : l5 = J.L
  anc : ∀ k, k < J.nA → 2 ≤ (J.A k).size ∧ (J.A k).size ≤ 1048576 ∧ J.n k ≤ 1048576 ∧ n2 k = J.n k ∧ ∀ j, j < J.n k → 0 ≤ x1 k j ∧ x1 k j < (J.L : Int)
  work : J.T.size * J.W J.nA ≤ 16777216

def FitsOut (w : World) (J : Job) (x1 : Nat → Nat → Int) (n2 : Nat → Nat) (l1 l2 l4 l5 : Nat) (e : Ending) (w' : World) : Prop :=
  Below w.heap.size w w' ∧ ∃ b : Bool, e = .returned (.bool b) ∧ (b = true → Fit J x1 n2 l1 l2 l4 l5)

def Good (J : Job) (x1 : Nat → Nat → Int) (n2 : Nat → Nat) (k : Nat) : Prop :=
  2 ≤ (J.A k).size ∧ (J.A k).size ≤ 1048576 ∧ J.n k ≤ 1048576 ∧ n2 k = J.n k ∧ ∀ j, j < J.n k → 0 ≤ x1 k j ∧ x1 k j < (J.L : Int)

theorem fits_no {w w' : World} {J : Job} {x1 : Nat → Nat → Int} {n2 : Nat → Nat} {l1 l2 l4 l5 : Nat} (hb : Below w.heap.size w w') : FitsOut w J x1 n2 l1 l2 l4 l5 (.returned (.bool false)) w' :=
  ⟨hb, false, rfl, fun h => by cases h⟩

theorem work_le {t W k : Nat} (h0 : 0 < t) (h1 : W ≤ k) (h : k ≤ 16777216 / t) : t * W ≤ 16777216 := by
  have h2 : t * (16777216 / t) ≤ 16777216 := Nat.mul_div_le _ _
  have h3 : t * W ≤ t * (16777216 / t) := Nat.mul_le_mul_left _ (by omega)
  omega

set_option maxRecDepth 100000 in
set_option maxHeartbeats 4000000 in
theorem fits_any (w : World) (J : Job) (x1 : Nat → Nat → Int) (n2 : Nat → Nat) (a0 a1 a2 a4 a5 : Option Addr) (l1 l2 l4 l5 c0 c1 c2 c4 c5 : Nat)
    (hT : J.T.size ≤ 1048576) (hA : J.nA ≤ 65536) (hL : J.L ≤ 65536)
    (h0 : Cells w a0 J.nA (fun k v => v = .string (J.A k))) (h1 : Cells w a1 l1 (RowQ w J.n x1)) (h2 : Cells w a2 l2 (fun k v => ∃ a c, v = .slice a (n2 k) c))
    (h4 : Cells w a4 l4 (fun k v => v = .pointer none ∨ ∃ x, v = .pointer (some x))) (h5 : Cells w a5 l5 (fun k v => v = .pointer none ∨ ∃ x, v = .pointer (some x))) :
    Calls Try.prog 15 #[.slice a0 J.nA c0, .slice a1 l1 c1, .slice a2 l2 c2, .int .i64 (J.L : Int), .slice a4 l4 c4, .slice a5 l5 c5, .string J.T] w (FitsOut w J x1 n2 l1 l2 l4 l5) := by
  have H0 := hide h0
  have H1 := hide h1
  have H2 := hide h2
  have H4 := hide h4
  have H5 := hide h5
  clear h0 h1 h2 h4 h5
  have HN : ∀ w', Below w.heap.size w w' → Hid (FitsOut w J x1 n2 l1 l2 l4 l5 (.returned (.bool false)) w') := fun w' hb => hide (fits_no hb)
  have HF := HN w (Below.refl _ _)
  by_cases e1 : l1 = J.nA
  rotate_left
  · have hd : ((l1 : Int) != (J.nA : Int)) = true := bne_iff_ne.2 (by omega)
    clear e1
    go_enter Try.func15, Try.ntmps15
    go_wp2
    go_ret
    exact HF.out
  by_cases e2 : l2 = J.nA
  rotate_left
  · have hd : ((l1 : Int) != (J.nA : Int)) = false := by rw [e1]; simp
    have hd2 : ((l2 : Int) != (J.nA : Int)) = true := bne_iff_ne.2 (by omega)
    clear e1 e2
    go_enter Try.func15, Try.ntmps15
    go_wp2
    go_ret
    exact HF.out
  by_cases e4 : l4 = J.L
  rotate_left
  · have hd : ((l1 : Int) != (J.nA : Int)) = false := by rw [e1]; simp
    have hd2 : ((l2 : Int) != (J.nA : Int)) = false := by rw [e2]; simp
    have hd4 : ((l4 : Int) != (J.L : Int)) = true := bne_iff_ne.2 (by omega)
    clear e1 e2 e4
    go_enter Try.func15, Try.ntmps15
    go_wp2
    go_ret
    exact HF.out
  by_cases e5 : l5 = J.L
  rotate_left
  · have hd : ((l1 : Int) != (J.nA : Int)) = false := by rw [e1]; simp
    have hd2 : ((l2 : Int) != (J.nA : Int)) = false := by rw [e2]; simp
    have hd4 : ((l4 : Int) != (J.L : Int)) = false := by rw [e4]; simp
    have hd5 : ((l5 : Int) != (J.L : Int)) = true := bne_iff_ne.2 (by omega)
    clear e1 e2 e4 e5
    go_enter Try.func15, Try.ntmps15
    go_wp2
    go_ret
    exact HF.out
  have hd : ((l1 : Int) != (J.nA : Int)) = false := by rw [e1]; simp
  have hd2 : ((l2 : Int) != (J.nA : Int)) = false := by rw [e2]; simp
  have hd4 : ((l4 : Int) != (J.L : Int)) = false := by rw [e4]; simp
  have hd5 : ((l5 : Int) != (J.L : Int)) = false := by rw [e5]; simp
  have E1 := hide e1
  have E2 := hide e2
  have E4 := hide e4
  have E5 := hide e5
  have hl1 : l1 ≤ 65536 := by omega
  have hl2 : l2 ≤ 65536 := by omega
  have hl4 : l4 ≤ 65536 := by omega
  have hl5 : l5 ≤ 65536 := by omega
  clear e1 e2 e4 e5
  by_cases g : (1048576 : Int) < (J.T.size : Int) + 16 * (J.nA : Int) + 24 * (l1 : Int) + 24 * (l2 : Int) + 8 * (l4 : Int) + 8 * (l5 : Int)
  · go_enter Try.func15, Try.ntmps15
    go_wp2
    go_ret
    exact HF.out
  go_enter Try.func15, Try.ntmps15
  go_wp2
  clear HF
  have Hg := hide g
  clear g
  go_loopw [15, 16, 17] (fun z u i wr => ∃ t wk k : Nat, t ≤ 1048576 ∧ J.W k ≤ wk ∧ wk ≤ t ∧ k ≤ J.nA ∧ z = .int .i64 (t : Int) ∧ u = .int .i64 (wk : Int) ∧ i = .int .i64 (k : Int) ∧ (∀ k', k' < k → Good J x1 n2 k') ∧ Below w.heap.size w wr) (fun _ _ i _ => J.nA - (intOf i).toNat)
  case atStart =>
    have hg := Hg.out
    refine ⟨J.T.size + 16 * J.nA + 24 * l1 + 24 * l2 + 8 * l4 + 8 * l5, 0, 0, by omega, Nat.le_refl _, by omega, Nat.zero_le _, ?_, rfl, rfl, fun k' hk' => absurd hk' (Nat.not_lt_zero _), Below.refl _ _⟩
    first | rfl | (congr 1; omega)
  case round =>
    clear Hg
    obtain ⟨t, wk, k, ht, hW, hwk, hk, rfl, rfl, rfl, hgood, hb⟩ := hrel
    have Hgood := hide hgood
    have Hb := hide hb
    have HW := hide hW
    by_cases hlt : k < J.nA
    · have hki : (k : Int) < (J.nA : Int) := by omega
      obtain ⟨bA, oA, vA, rfl, hbA, cA, rfl⟩ := H0.out k hlt
      obtain ⟨bL, oL, vL, rfl, hbL, cL, aR, cR, rfl, hrow⟩ := H1.out k (by rw [E1.out]; exact hlt)
      obtain ⟨bN, oN, vN, rfl, hbN, cN, aR2, cR2, rfl⟩ := H2.out k (by rw [E2.out]; exact hlt)
      rw [← hb.cell (p := ⟨bA, oA + k, none⟩) hbA] at cA
      rw [← hb.cell (p := ⟨bL, oL + k, none⟩) hbL] at cL
      rw [← hb.cell (p := ⟨bN, oN + k, none⟩) hbN] at cN
      have Hrow := hide hrow
      have Hno := HN wr hb
      have hk1 : (k : Int) < (l1 : Int) := by rw [E1.out]; exact hki
      have hk2 : (k : Int) < (l2 : Int) := by rw [E2.out]; exact hki
      clear hrow hgood hb hW
      obtain ⟨s, Hs⟩ : ∃ s, Hid (J.A k = s) := ⟨_, hide rfl⟩
      rw [Hs.out] at cA
      obtain ⟨n, Hn⟩ : ∃ n, Hid (J.n k = n) := ⟨_, hide rfl⟩
      rw [Hn.out] at cL Hrow
      obtain ⟨m, Hm⟩ : ∃ m, Hid (n2 k = m) := ⟨_, hide rfl⟩
      rw [Hm.out] at cN
      by_cases s1 : (s.size : Int) < 2
      · go_wp2
        go_ret
        exact Hno.out
      by_cases s2 : (1048576 : Int) < (s.size : Int)
      · go_wp2
        go_ret
        exact Hno.out
      have hs1 : 2 ≤ s.size := by omega
      have hs2 : s.size ≤ 1048576 := by omega
      by_cases s3 : (1048576 : Int) < (n : Int)
      · have hd3 : decide ((1048576 : Int) < (n : Int)) = true := decide_eq_true s3
        have Hno2 : ∀ nq, Hid (FitsOut w J x1 n2 l1 l2 l4 l5 (.returned (.bool false)) (wr.drewN nq)) := fun nq => HN _ (below_drew Hb.out nq)
        go_upto_region 14 with fail
        go_quiet (fail)
        go_wp2
        go_ret
        exact (Hno2 _).out
      have hd3 : decide ((1048576 : Int) < (n : Int)) = false := decide_eq_false s3
      have hn : n ≤ 1048576 := by omega
      by_cases s4 : n = m
      rotate_left
      · have hd4' : ((n : Int) != (m : Int)) = true := bne_iff_ne.2 (by omega)
        have Hno2 : ∀ nq, Hid (FitsOut w J x1 n2 l1 l2 l4 l5 (.returned (.bool false)) (wr.drewN nq)) := fun nq => HN _ (below_drew Hb.out nq)
        clear s4
        go_upto_region 14 with fail
        go_quiet (fail)
        go_wp2
        go_ret
        exact (Hno2 _).out
      have hd4' : ((n : Int) != (m : Int)) = false := by rw [s4]; simp
      have S4 := hide s4
      clear s4
      go_upto_region 14 with fail
      go_quiet (fail)
      have hb2 := below_drew Hb.out nq
      rw [← (show (wr.drewN nq).cell? ⟨bA, oA + k, none⟩ = wr.cell? ⟨bA, oA + k, none⟩ from (below_drew (Below.refl (wr.heap.size) wr) nq).cell (p := ⟨bA, oA + k, none⟩) (Nat.lt_of_lt_of_le hbA Hb.out.size))] at cA
      rw [← (show (wr.drewN nq).cell? ⟨bL, oL + k, none⟩ = wr.cell? ⟨bL, oL + k, none⟩ from (below_drew (Below.refl (wr.heap.size) wr) nq).cell (p := ⟨bL, oL + k, none⟩) (Nat.lt_of_lt_of_le hbL Hb.out.size))] at cL
      clear Hb cN Hno
      have Hb2 := hide hb2
      generalize wr.drewN nq = w2 at cA cL hb2 Hb2
      have Hno2 : ∀ nq, Hid (FitsOut w J x1 n2 l1 l2 l4 l5 (.returned (.bool false)) (w2.drewN nq)) := fun nq => HN _ (below_drew Hb2.out nq)
      clear hb2
      by_cases g2 : (1048576 : Int) < (t : Int) + ((s.size : Int) + 16 * (n : Int))
      · go_upto_region 16 with fail
        go_quiet (fail)
        go_wp2
        go_ret
        exact (Hno2 _).out
      go_upto_region 16 with fail
      go_quiet (fail)
      have hb3 := below_drew Hb2.out nq
      rw [← (show (w2.drewN nq).cell? ⟨bA, oA + k, none⟩ = w2.cell? ⟨bA, oA + k, none⟩ from (below_drew (Below.refl (w2.heap.size) w2) nq).cell (p := ⟨bA, oA + k, none⟩) (Nat.lt_of_lt_of_le hbA Hb2.out.size))] at cA
      rw [← (show (w2.drewN nq).cell? ⟨bL, oL + k, none⟩ = w2.cell? ⟨bL, oL + k, none⟩ from (below_drew (Below.refl (w2.heap.size) w2) nq).cell (p := ⟨bL, oL + k, none⟩) (Nat.lt_of_lt_of_le hbL Hb2.out.size))] at cL
      clear Hb2 Hno2
      have Hb3 := hide hb3
      generalize w2.drewN nq = w3 at cA cL hb3 Hb3
      clear hb3
      go_upto_region 19 with fail
      go_quiet (fail)
      have hb4 := below_drew Hb3.out nq
      clear Hb3 cA cL
      have Hb4 := hide hb4
      generalize w3.drewN nq = w4 at hb4 Hb4
      clear hb4
      have hg2 : t + (s.size + 16 * n) ≤ 1048576 := by omega
      go_wp2
      go_loopw [18] (fun i wr => ∃ j : Nat, j ≤ n ∧ i = .int .i64 (j : Int) ∧ (∀ j', j' < j → 0 ≤ x1 k j' ∧ x1 k j' < (J.L : Int)) ∧ Below w.heap.size w wr) (fun i _ => n - (intOf i).toNat)
      case atStart => exact ⟨0, Nat.zero_le _, rfl, fun j' hj' => absurd hj' (Nat.not_lt_zero _), Hb4.out⟩
      case round =>
        clear Hb4
        obtain ⟨j, hj, rfl, hall, hb⟩ := hrel
        obtain ⟨bL2, oL2, vL2, hae, hbL2, cL, aR, cR, rfl, hrow⟩ := H1.out k (by rw [E1.out]; exact hlt)
        injection hae with hae
        injection hae with hae1 hae2
        subst hae1 hae2
        rw [← hb.cell (p := ⟨bL, oL + k, none⟩) hbL] at cL
        rw [Hn.out] at cL hrow
        have Hall := hide hall
        have Hb := hide hb
        have Hno := HN wr hb
        by_cases hlj : j < n
        · have hji : (j : Int) < (n : Int) := by omega
          obtain ⟨bj, oj, rfl, hbj, cj⟩ := hrow j hlj
          rw [← hb.cell (p := ⟨bj, oj + j, none⟩) hbj] at cj
          clear hrow hall hb
          obtain ⟨x, Hx⟩ : ∃ x, Hid (x1 k j = x) := ⟨_, hide rfl⟩
          rw [Hx.out] at cj
          by_cases d1 : x < 0
          · go_wp2
            go_ret
            exact Hno.out
          by_cases d2 : (J.L : Int) ≤ x
          · go_wp2
            go_ret
            exact Hno.out
          go_wp2
          go_roundw
          case rel =>
            refine ⟨j + 1, by omega, by go_num, fun j' hj' => ?_, Hb.out⟩
            by_cases he : j' = j
            · subst he; rw [Hx.out]; exact ⟨by omega, by omega⟩
            · exact Hall.out j' (by omega)
          case measure => simp [intOf]; omega
        · have hji : ¬ ((j : Int) < (n : Int)) := by omega
          clear hrow hall hb
          go_wp2
          go_roundw
          case rel =>
            refine ⟨t + (s.size + 16 * n), wk + (s.size + n), k + 1, hg2, ?_, by omega, by omega, by first | rfl | (congr 1; omega) | go_num, by first | rfl | (congr 1; omega) | go_num, by go_num, fun k' hk' => ?_, Hb.out⟩
            · have := HW.out
              show J.W k + J.n k ≤ _
              rw [Hn.out]; omega
            · by_cases he : k' = k
              · subst he
                refine ⟨by rw [Hs.out]; exact hs1, by rw [Hs.out]; exact hs2, by rw [Hn.out]; exact hn, by rw [Hn.out, Hm.out]; exact S4.out.symm, fun j' hj' => Hall.out j' ?_⟩
                rw [Hn.out] at hj'
                omega
              · exact Hgood.out k' (by omega)
          case measure => simp [intOf]; omega
    · have hki : ¬ ((k : Int) < (J.nA : Int)) := by omega
      have hke : k = J.nA := by omega
      have Hwk : Hid (J.W J.nA ≤ wk) := hide (by rw [← hke]; exact hW)
      have Hgd : Hid (∀ k', k' < J.nA → Good J x1 n2 k') := hide (by rw [← hke]; exact hgood)
      have Hno := HN wr hb
      clear hgood hb hW HW Hgood hke
      go_upto_region 25 with fail
      go_cut [171] (fun v wx => ∃ b1 : Bool, v = .bool b1 ∧ (b1 = false → J.T.size * J.W J.nA ≤ 16777216) ∧ wx = wr)
      case first =>
        by_cases z0 : J.T.size = 0
        · have hz : ¬ ((0 : Int) < (J.T.size : Int)) := by omega
          have Hwork : Hid (J.T.size * J.W J.nA ≤ 16777216) := hide (by rw [z0]; omega)
          clear z0
          go_wp2_with fail
          go_meet
          exact ⟨false, rfl, fun _ => Hwork.out, rfl⟩
        · have hz : (0 : Int) < (J.T.size : Int) := by omega
          have hz0 : 0 < J.T.size := by omega
          have hne : ((J.T.size : Int) == 0) = false := beq_eq_false_iff_ne.2 (by omega)
          have hne2 : ¬ ((J.T.size : Int) = 0) := by omega
          have hquo : IntKind.i64.wrap (Int.tdiv 16777216 (J.T.size : Int)) = ((16777216 / J.T.size : Nat) : Int) := by
            have h1 : Int.tdiv 16777216 (J.T.size : Int) = ((16777216 / J.T.size : Nat) : Int) := by
              rw [Int.tdiv_eq_ediv_of_nonneg (by omega)]; exact (Int.natCast_ediv 16777216 J.T.size).symm
            have h2 : 16777216 / J.T.size ≤ 16777216 := Nat.div_le_self _ _
            rw [h1, IntKind.wrap_i64]
            generalize 16777216 / J.T.size = q at h2
            omega
          have Hw : Hid (wk ≤ 16777216 / J.T.size → J.T.size * J.W J.nA ≤ 16777216) := hide (work_le hz0 Hwk.out)
          clear z0
          generalize 16777216 / J.T.size = q at hquo Hw
          by_cases hgt : (q : Int) < (wk : Int)
          · go_wp2_with fail
            go_meet
            exact ⟨true, rfl, fun h => (by cases h), rfl⟩
          · go_wp2_with fail
            go_meet
            exact ⟨false, rfl, fun _ => Hw.out (by omega), rfl⟩
      case rest =>
        obtain ⟨b1, rfl, hwork, hw⟩ := hcut
        subst hw
        have Hwork := hide hwork
        clear hwork
        cases b1 with
        | true =>
          go_wp2
          go_ret
          exact Hno.out
        | false =>
          have Hwk2 : Hid (J.T.size * J.W J.nA ≤ 16777216) := hide (Hwork.out rfl)
          clear Hno Hwork
          go_wp2
          go_loopw [15, 19] (fun z i wr => ∃ t l : Nat, l ≤ J.L ∧ t ≤ 1048576 + 512 * l ∧ z = .int .i64 (t : Int) ∧ i = .int .i64 (l : Int) ∧ Below w.heap.size w wr) (fun _ i _ => J.L - (intOf i).toNat)
          case atStart => exact ⟨t, 0, Nat.zero_le _, by omega, rfl, rfl, Hb.out⟩
          case round =>
            clear Hb
            obtain ⟨t2, l, hl, ht2, rfl, rfl, hb⟩ := hrel
            have Hb := hide hb
            by_cases hll : l < J.L
            · have hli : (l : Int) < (J.L : Int) := by omega
              have hl4i : (l : Int) < (l4 : Int) := by rw [E4.out]; exact hli
              have hl5i : (l : Int) < (l5 : Int) := by rw [E5.out]; exact hli
              obtain ⟨b4, o4, v4, rfl, hb4, q4, hv4⟩ := H4.out l (by rw [E4.out]; exact hll)
              obtain ⟨b5, o5, v5, rfl, hb5, q5, hv5⟩ := H5.out l (by rw [E5.out]; exact hll)
              rw [← hb.cell (p := ⟨b4, o4 + l, none⟩) hb4] at q4
              rw [← hb.cell (p := ⟨b5, o5 + l, none⟩) hb5] at q5
              clear hb
              rcases hv4 with rfl | ⟨y4, rfl⟩
              · rcases hv5 with rfl | ⟨y5, rfl⟩
                · go_wp2
                  go_roundw
                  case rel => exact ⟨t2, l + 1, by omega, by omega, by first | rfl | (congr 1; omega) | go_num, by go_num, Hb.out⟩
                  case measure => simp [intOf]; omega
                · go_wp2
                  go_roundw
                  case rel => exact ⟨t2 + 256, l + 1, by omega, by omega, by first | rfl | (congr 1; omega) | go_num, by go_num, Hb.out⟩
                  case measure => simp [intOf]; omega
              · rcases hv5 with rfl | ⟨y5, rfl⟩
                · go_wp2
                  go_roundw
                  case rel => exact ⟨t2 + 256, l + 1, by omega, by omega, by first | rfl | (congr 1; omega) | go_num, by go_num, Hb.out⟩
                  case measure => simp [intOf]; omega
                · go_wp2
                  go_roundw
                  case rel => exact ⟨t2 + 512, l + 1, by omega, by omega, by first | rfl | (congr 1; omega) | go_num, by go_num, Hb.out⟩
                  case measure => simp [intOf]; omega
            · have hli : ¬ ((l : Int) < (J.L : Int)) := by omega
              have Hfin : ∀ b : Bool, Hid (FitsOut w J x1 n2 l1 l2 l4 l5 (.returned (.bool b)) wr) := fun b => hide ⟨hb, b, rfl, fun _ => ⟨E1.out, E2.out, E4.out, E5.out, Hgd.out, Hwk2.out⟩⟩
              clear hb
              go_wp2
              go_ret
              exact (Hfin _).out
end Go.Proofs.Qxb6602558a
