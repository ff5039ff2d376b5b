/-
  FnFindMatchesNaiveScan.
-/
import Derived.Test.Qxb6602558aBd
namespace Go.Proofs.Qxb6602558a
open Go.RowKit
set_option linter.unusedVariables false

def LawOut (w : World) (e : Ending) (w' : World) : Prop := e = .returned (.bool true) ∧ Below w.heap.size w w'

theorem Try.nfo36 : (Try.prog.info? 36).map (fun i => (i.zero, i.size)) = some (some (.agg (Array.replicate 1024 (.int .u64 0))), 1024) := by kernel_rfl
theorem Try.nfo38 : (Try.prog.info? 38).map (fun i => (i.zero, i.size)) = some (some (.agg (Array.replicate 256 (.slice none 0 0))), 256) := by kernel_rfl

theorem Fam.cellAll {w : World} {base n : Nat} {V : Nat → Value} {X : Fams} (h : Fam w base n V X) {i : Nat} (hi : i < n) :
    ∃ a c, V i = .slice a (X i).length c ∧ ∀ wr, Below w.heap.size w wr → ∀ j v, (X i)[j]? = some v → ∃ g, a = some ⟨g, 0, none⟩ ∧ wr.cell? ⟨g, j, none⟩ = some v := by
  obtain ⟨a, c, hv⟩ := owns_form (h.own i hi)
  refine ⟨a, c, hv, fun wr hb j v hj => ?_⟩
  obtain ⟨a', c', hv', hc⟩ := h.cellAt hb hi
  rw [hv] at hv'
  injection hv' with hv' _ _
  subst hv'
  exact hc j v hj

theorem ptr_form {w : World} {v : Value} {S : Option (Nat → Bool)} (h : SetAt w v S) : v = .pointer none ∨ ∃ x, v = .pointer (some x) := by
  rcases h with ⟨h, _⟩ | ⟨b, off, f, h, _⟩
  · exact .inl h
  · exact .inr ⟨_, h⟩

set_option maxRecDepth 100000 in
set_option maxHeartbeats 4000000 in
theorem law_core (w : World) (J : Job) (x1 : Nat → Nat → Int) (n2 : Nat → Nat) (a0 a1 a2 a4 a5 : Option Addr) (l1 l2 l4 l5 c0 c1 c2 c4 c5 : Nat) (L : Int)
    (h0 : Cells w a0 J.nA (fun k v => v = .string (J.A k))) (h1 : Cells w a1 l1 (RowQ w J.n x1)) (h2 : Cells w a2 l2 (RowQ w n2 J.ia)) (h4 : Cells w a4 l4 (fun k v => SetAt w v (J.S1 k))) (h5 : Cells w a5 l5 (fun k v => SetAt w v (J.S2 k)))
    (hil : ∀ k j, J.il k j = (x1 k j).toNat) (hLJ : J.L = L.toNat)
    (K16 : J.nA ≤ 1048576 → ∀ wx, Below w.heap.size w wx → Calls Try.prog 16 #[.slice a0 J.nA c0] wx (Copied wx J.nA (fun _ k v => v = .string (J.A k))))
    (K17a : l1 ≤ 1048576 → (∀ k, k < l1 → J.n k ≤ 1048576) → ∀ wx, Below w.heap.size w wx → Calls Try.prog 17 #[.slice a1 l1 c1] wx (Copied wx l1 (fun w' => RowQ w' J.n x1)))
    (K17b : l2 ≤ 1048576 → (∀ k, k < l2 → n2 k ≤ 1048576) → ∀ wx, Below w.heap.size w wx → Calls Try.prog 17 #[.slice a2 l2 c2] wx (Copied wx l2 (fun w' => RowQ w' n2 J.ia)))
    (K18a : l4 ≤ 1048576 → ∀ wx, Below w.heap.size w wx → Calls Try.prog 18 #[.slice a4 l4 c4] wx (Copied wx l4 (fun w' k v => SetAt w' v (J.S1 k))))
    (K18b : l5 ≤ 1048576 → ∀ wx, Below w.heap.size w wx → Calls Try.prog 18 #[.slice a5 l5 c5] wx (Copied wx l5 (fun w' k v => SetAt w' v (J.S2 k)))) :
    Calls Try.prog 5 #[.slice a0 J.nA c0, .slice a1 l1 c1, .slice a2 l2 c2, .int .i64 L, .slice a4 l4 c4, .slice a5 l5 c5, .string J.T] w (LawOut w) := by
  have HN : ∀ w', Below w.heap.size w w' → Hid (LawOut w (.returned (.bool true)) w') := fun w' hb => hide ⟨rfl, hb⟩
  have HF := HN w (Below.refl _ _)
  have K14 := hide (bytes14_any w a0 a1 a2 a4 a5 J.nA l1 l2 l4 l5 c0 c1 c2 c4 c5 L J.T (h0.each (fun k v h => ⟨_, h⟩)) (h1.each (fun k v ⟨a, c, h, _⟩ => ⟨a, _, c, h⟩)) (h2.each (fun k v ⟨a, c, h, _⟩ => ⟨a, _, c, h⟩)) (h4.each (fun k v h => ptr_form h)) (h5.each (fun k v h => ptr_form h)))
  have H0 := hide h0
  have H1 := hide h1
  have H2 := hide h2
  have H4 := hide h4
  have H5 := hide h5
  have HIL := hide hil
  have HLJ := hide hLJ
  have Q16 := hide K16
  have Q17a := hide K17a
  have Q17b := hide K17b
  have Q18a := hide K18a
  have Q18b := hide K18b
  clear h0 h1 h2 h4 h5 hil hLJ K16 K17a K17b K18a K18b
  go_enter Try.func5, Try.ntmps5
  go_wp2_with fail
  refine Calls.mono (Hid.out K14) ?_
  rintro e w1 ⟨rfl, b14, rfl⟩
  clear K14
  cases b14 with
  | false =>
    go_wp2
    go_ret
    exact HF.out
  | true =>
  by_cases t0 : (65536 : Int) < (J.nA : Int)
  · go_wp2
    go_ret
    exact HF.out
  by_cases t1 : (65536 : Int) < (l1 : Int)
  · go_wp2
    go_ret
    exact HF.out
  by_cases t2 : (65536 : Int) < (l2 : Int)
  · go_wp2
    go_ret
    exact HF.out
  by_cases t4 : (65536 : Int) < (l4 : Int)
  · go_wp2
    go_ret
    exact HF.out
  by_cases t5 : (65536 : Int) < (l5 : Int)
  · go_wp2
    go_ret
    exact HF.out
  by_cases t6 : (1048576 : Int) < (J.T.size : Int)
  · go_wp2
    go_ret
    exact HF.out
  by_cases t7 : L < 0
  · go_wp2
    go_ret
    exact HF.out
  by_cases t8 : 65536 < L
  · go_wp2
    go_ret
    exact HF.out
  obtain ⟨L0, rfl⟩ : ∃ L0 : Nat, L = (L0 : Int) := ⟨L.toNat, by omega⟩
  have hL0 : L0 = J.L := by have := HLJ.out; omega
  subst hL0
  clear HLJ
  have hA : J.nA ≤ 65536 := by omega
  have hT : J.T.size ≤ 1048576 := by omega
  have hL : J.L ≤ 65536 := by omega
  have d0 := decide_eq_false t0
  have d1 := decide_eq_false t1
  have d2 := decide_eq_false t2
  have d4 := decide_eq_false t4
  have d5 := decide_eq_false t5
  have d6 := decide_eq_false t6
  have d7 := decide_eq_false t7
  have d8 := decide_eq_false t8
  have K15 := hide (fits_any w1 J x1 n2 a0 a1 a2 a4 a5 l1 l2 l4 l5 c0 c1 c2 c4 c5 hT hA hL H0.out H1.out (H2.out.weaker (fun k v ⟨a, c, h, _⟩ => ⟨a, c, h⟩)) (H4.out.weaker (fun k v h => ptr_form h)) (H5.out.weaker (fun k v h => ptr_form h)))
  go_wp2_with fail
  refine Calls.mono (Hid.out K15) ?_
  rintro e w2 ⟨hb12, b15, rfl, hfit⟩
  have Hb12 := hide hb12
  clear hb12 K15 HF
  cases b15 with
  | false =>
    have HF := HN w2 Hb12.out
    clear hfit
    go_wp2
    go_ret
    exact HF.out
  | true =>
  have Hfit := hide (hfit rfl)
  clear hfit
  obtain rfl : l1 = J.nA := Hfit.out.e1
  obtain rfl : l2 = J.nA := Hfit.out.e2
  obtain rfl : l4 = J.L := Hfit.out.e4
  obtain rfl : l5 = J.L := Hfit.out.e5
  have K16 := hide (Q16.out (by omega) w2 Hb12.out)
  clear Q16 H0 H1 H2 H4 H5
  go_wp2_with fail
  refine Calls.mono (Hid.out K16) ?_
  rintro e w3 ⟨aA, cA, rfl, g0, gb⟩
  have G0 := hide g0
  have Hb3 := hide (Hb12.out.trans (gb.mono Hb12.out.size))
  clear g0 gb K16 Hb12
  have K17 := hide (Q17a.out (by omega) (fun k hk => (Hfit.out.anc k hk).2.2.1) w3 Hb3.out)
  clear Q17a
  go_wp2_with fail
  refine Calls.mono (Hid.out K17) ?_
  rintro e w4 ⟨aL, cL, rfl, g1, gb⟩
  have G1 := hide g1
  have Hb4 := hide (Hb3.out.trans (gb.mono Hb3.out.size))
  have G0' := hide (G0.out.below gb)
  clear g1 gb K17 G0 Hb3
  have K17 := hide (Q17b.out (by omega) (fun k hk => by rw [(Hfit.out.anc k hk).2.2.2.1]; exact (Hfit.out.anc k hk).2.2.1) w4 Hb4.out)
  clear Q17b
  go_wp2_with fail
  refine Calls.mono (Hid.out K17) ?_
  rintro e w5 ⟨aN, cN, rfl, g2, gb⟩
  have G2 := hide g2
  have Hb5 := hide (Hb4.out.trans (gb.mono Hb4.out.size))
  have G0 := hide (G0'.out.below gb)
  have G1' := hide ((G1.out.below gb).weaker (fun k v h => RowQ.below h gb))
  clear g2 gb K17 G0' G1 Hb4
  have K18 := hide (Q18a.out (by omega) w5 Hb5.out)
  clear Q18a
  go_wp2_with fail
  refine Calls.mono (Hid.out K18) ?_
  rintro e w6 ⟨aB, cB, rfl, g4, gb⟩
  have G4 := hide g4
  have Hb6 := hide (Hb5.out.trans (gb.mono Hb5.out.size))
  have G0' := hide (G0.out.below gb)
  have G1 := hide ((G1'.out.below gb).weaker (fun k v h => RowQ.below h gb))
  have G2' := hide ((G2.out.below gb).weaker (fun k v h => RowQ.below h gb))
  clear g4 gb K18 G0 G1' G2 Hb5
  have K18 := hide (Q18b.out (by omega) w6 Hb6.out)
  clear Q18b
  go_wp2_with fail
  refine Calls.mono (Hid.out K18) ?_
  rintro e w7 ⟨aF, cF, rfl, g5, gb⟩
  have Hb7 := hide (Hb6.out.trans (gb.mono Hb6.out.size))
  have HM := hide (inmem_of Hfit.out hT hA hL HIL.out (G0'.out.below gb) ((G1.out.below gb).weaker (fun k v h => RowQ.below h gb)) ((G2'.out.below gb).weaker (fun k v h => RowQ.below h gb)) ((G4.out.below gb).weaker (fun k v h => SetAt.below h gb)) g5)
  clear g5 gb K18 G0' G1 G2' G4 Hb6 Hfit HIL
  have hz36 := (zero_of_info Try.nfo36).1
  have hz38 := (zero_of_info Try.nfo38).1
  have Hbt := hide (built_init w7 J)
  go_wp2
  clear hz36 hz38
  go_loopw [17] (fun i wr => ∃ k : Nat, k ≤ J.nA ∧ i = .int .i64 (k : Int) ∧ ∃ P V X, Built w7 wr J w7.heap.size k k P V X) (fun i _ => J.nA - (intOf i).toNat)
  case atStart => exact ⟨0, Nat.zero_le _, rfl, _, _, _, Hbt.out⟩
  case round =>
    clear Hbt
    obtain ⟨k, hk, rfl, P, V, X, hm⟩ := hrel
    by_cases hlt : k < J.nA
    · have hki : (k : Int) < (J.nA : Int) := by omega
      obtain ⟨bA, oA, rfl, hbA, cA1⟩ := HM.out.anc k hlt
      rw [← hm.below.cell (p := ⟨bA, oA + k, none⟩) hbA] at cA1
      have h2 := HM.out.ok.two k hlt
      have hsz := HM.out.ok.small k hlt
      obtain ⟨a, Ha⟩ : ∃ a, Hid (J.A k = a) := ⟨_, hide rfl⟩
      rw [Ha.out] at cA1 h2 hsz
      have h0n : 0 < a.size := by omega
      have h1n : 1 < a.size := by omega
      have h0s : (0 : Int) < (a.size : Int) := by omega
      have h1s : (1 : Int) < (a.size : Int) := by omega
      have hb0 : a[0].toNat < 256 := UInt8.toNat_lt _
      have hb1 : a[1].toNat < 256 := UInt8.toNat_lt _
      have hb0i : (a[0].toNat : Int) < 256 := by omega
      have hw0 := wrap16 a[0].toNat (by omega)
      have hw1 := wrap16 a[1].toNat (by omega)
      have e1 := pair_or a[0].toNat a[1].toNat hb1
      have hw2 : IntKind.u16.wrap ((a[0].toNat : Int) * 256) = (a[0].toNat : Int) * 256 := by rw [IntKind.wrap_u16]; omega
      rw [hw1, hw2] at e1
      have HQ : Hid (a[0].toNat % 256 * 256 + a[1].toNat = J.q k) := hide (by unfold Job.q; rw [Ha.out, byteAt_in h0n, byteAt_in h1n]; omega)
      have Hc : Hid (byteAt (J.A k) 0 = a[0].toNat) := hide (by rw [Ha.out, byteAt_in h0n])
      rw [HQ.out] at e1
      have hq := J.q_lt k
      have Hm := hide hm
      clear hm HQ
      obtain ⟨q, HQ⟩ : ∃ q, Hid (J.q k = q) := ⟨_, hide rfl⟩
      rw [HQ.out] at e1 hq
      go_upto_region 22 with fail
      go_quiet (fail)
      have hm1 := Hm.out.drewN nq
      clear Hm cA1
      generalize wr.drewN nq = w8 at hm1
      have hd : q / 64 < 1024 := by omega
      have cP := hm1.p.cellTab hd
      have fP := hm1.p.frozen (q / 64)
      have e2 := or_u64 (hm1.lt (q / 64) hd) (show q % 64 < 64 by omega)
      have hpair := hm1.pair
      rw [HQ.out] at hpair
      obtain ⟨z, Hz⟩ : ∃ z, Hid (P (q / 64) ||| 2 ^ (q % 64) = z) := ⟨_, hide rfl⟩
      rw [Hz.out] at hpair e2
      have Hpair := hide hpair
      clear hm1 hpair
      go_upto_region 24 with fail
      have hm9 := Hpair.out
      clear cP fP e1 e2 hw0 hw1 hw2 Hpair
      generalize w8.setCell ⟨w7.heap.size, q / 64, none⟩ (.int .u64 (z : Int)) = w9 at hm9
      obtain ⟨c, HC⟩ : ∃ c, Hid (a[0].toNat = c) := ⟨_, hide rfl⟩
      have hc : c < 256 := by rw [← HC.out]; exact hb0
      obtain ⟨n3, Hn3⟩ : ∃ n3, Hid ((X (2 * c)).length = n3) := ⟨_, hide rfl⟩
      have hn3 : n3 ≤ 65536 := by
        rw [← Hn3.out, hm9.ks c hc, List.length_map]
        exact Nat.le_trans (List.length_filter_le _ _) (by simp; omega)
      obtain ⟨a3, c3, hV3⟩ : ∃ a c', V (2 * c) = .slice a (X (2 * c)).length c' := owns_form (hm9.fam.own (2 * c) (by omega))
      rw [Hn3.out] at hV3
      have cS : w9.cell? ⟨w7.heap.size + 1, a[0].toNat, none⟩ = some (.slice a3 n3 c3) := by rw [HC.out, ← hV3]; exact hm9.s.cellTab hc
      have hroom := hm9.room
      have aS : (w9.alloc (.cells #[.int .i64 (k : Int)] 3)).drew.cell? ⟨w7.heap.size + 1, a[0].toNat, none⟩ = some (.slice a3 n3 c3) := by
        rw [((Below.refl w9.heap.size w9).alloc (Nat.le_refl _) _).drew.cell (p := ⟨w7.heap.size + 1, a[0].toNat, none⟩) (by show w7.heap.size + 1 < _; omega)]; exact cS
      have Hm6 := hide ((hm9.alloc (.cells #[.int .i64 (k : Int)] 3)).grown (grownBy_drew _ _))
      have Hown := hide (show (w9.alloc (.cells #[.int .i64 (k : Int)] 3)).drew.ownsRow (w7.heap.size + 2) 3 1 (.slice a3 n3 c3) n3 (X (2 * c)) by
        have := Hm6.out.fam.own (2 * c) (by omega)
        rw [hV3, ety_even, Hn3.out] at this
        exact this)
      obtain ⟨i0, hi, hz0, hz1, hz2⟩ := info_parts Try.nfo3
      have hnb : (w9.alloc (.cells #[.int .i64 (k : Int)] 3)).drew.heap[w9.heap.size]? = some (.cells #[.int .i64 (k : Int)] 3 (0, 0)) := heap_alloc_new _ _
      have hs6 : (w9.alloc (.cells #[.int .i64 (k : Int)] 3)).drew.heap.size = w9.heap.size + 1 := by simp [World.drew]
      have Hnb := hide hnb
      have HV3 := hide hV3
      clear hm9 hnb hV3
      go_region_law (refine step_append_lies ((w9.alloc (.cells #[.int .i64 (k : Int)] 3)).drew) rfl (.tmp 119) (.tmp 121) 37 rfl (w7.heap.size + 2) 3 i0 (.int .i64 0) 1 8 Try.underlying37 hi hz0 hz1 hz2 rfl (by decide) (.slice a3 n3 c3) n3 _ (by simp [Act.eval]) Hown.out ⟨w9.heap.size, 0, none⟩ 1 1 [.int .i64 (k : Int)] (by simp [Act.eval]) rfl (World.news_of_block Hnb.out) (by simp [Value.oneCell']) (by omega) (by unfold maxLen; omega) (by omega) (by rw [hs6]; omega) (w9.heap.size + 1) hs6 ?_; intro g7 cap7 wz hown7 hgrow7 hloc7 hglt7; have hrS := hide (Built.keepS Hm6.out (i := 2 * c) (by omega) (by rw [HV3.out]; exact hgrow7)); have d10 := hrS.out.cellTab hc; have e10 := hrS.out.frozen c; rw [← HC.out] at d10 e10; have Hp := hide (Hm6.out.push (g := g7) (cap := cap7) (Hc.out.trans HC.out) hc (by rw [HV3.out]; exact hgrow7) (by rw [Hn3.out]; exact hown7) (by rw [HV3.out]; rcases hloc7 with q | q; exact .inl q; exact .inr (by rw [hs6]; omega))); clear hown7 hgrow7 hloc7 hglt7 hrS)
      all_goals
        have Hfin : Hid (∃ P V X, Built w7 (wz.setCell ⟨w7.heap.size + 1, a[0].toNat, none⟩ (.slice (some ⟨g7, 0, none⟩) (n3 + 1) cap7)) J w7.heap.size (k + 1) (k + 1) P V X) := by
          have h8 := Hp.out
          rw [Hn3.out, ← HC.out] at h8
          exact hide ⟨_, _, _, h8⟩
        clear Hp d10 e10
        go_wp2
        go_roundw
        case rel => exact ⟨k + 1, by omega, by go_num, Hfin.out⟩
        case measure => simp [intOf]; omega
    · have hki : ¬ ((k : Int) < (J.nA : Int)) := by omega
      have hke : k = J.nA := by omega
      rw [hke] at hm
      have hparts := hm.parts
      have hl36 := run_loadVar_row (P := Try.prog) wr w7.heap.size 36 36 (Tab 1024 (fun i => Value.int .u64 (P i : Int))).toArray (0, 0) _ hm.p Try.underlying36 rfl (by rw [Try.size36]; simp [Tab.length])
      have hl38 := run_loadVar_row (P := Try.prog) wr (w7.heap.size + 1) 38 38 (Tab 256 (fun c => V (2 * c))).toArray (0, 0) _ hm.s Try.underlying38 rfl (by rw [Try.size38]; simp [Tab.length])
      generalize (Tab 1024 (fun i => Value.int .u64 (P i : Int))).toArray = ps at hl36 hparts
      generalize (Tab 256 (fun c => V (2 * c))).toArray = st at hl38 hparts
      have HMr := hide (HM.out.below hm.below)
      have Hbr := hide (Hb7.out.trans (hm.below.mono Hb7.out.size))
      have K19 := hide (zfind_any (cA := cA) (cL := cL) (cN := cN) (cB := cB) (cF := cF) HMr.out hparts)
      have Hlen : Hid (∀ i, (J.nP J.T.size i).length ≤ 16777216) := hide (fun i => Nat.le_trans (J.nP_len i J.T.size) HM.out.work)
      clear hm hparts hke HM Hb7
      go_upto_region 25 with fail
      go_wp2_with fail
      unfold Oper.wp
      rw [run_load_op rfl (by rfl) hl36, Oper.upon_value]
      go_wp2_with fail
      unfold Oper.wp
      rw [run_load_op rfl (by rfl) hl38, Oper.upon_value]
      clear hl36 hl38
      go_wp2_with fail
      refine Calls.mono (Hid.out K19) ?_
      rintro e wA ⟨V1, base1, B1, B2, rfl, r1, r2, f1, hbA⟩
      have R1 := hide r1
      have R2 := hide r2
      have F1 := hide f1
      have HbA := hide (Hbr.out.trans (hbA.mono Hbr.out.size))
      have K20 := hide (naive_any (cA := cA) (cL := cL) (cN := cN) (cB := cB) (cF := cF) (HMr.out.below hbA))
      clear r1 r2 f1 hbA K19 HMr Hbr
      go_wp2_with fail
      refine Calls.mono (Hid.out K20) ?_
      rintro e wB ⟨V2, rfl, nm⟩
      have R1' := hide (R1.out.below nm.below R1.out.lt)
      have R2' := hide (R2.out.below nm.below R2.out.lt)
      have F1' := hide (F1.out.grown (below_grown nm.below))
      have S1' := hide nm.s
      have S2' := hide nm.p
      have F2' := hide nm.fam
      have HbB := hide (HbA.out.trans (nm.below.mono HbA.out.size))
      clear nm R1 R2 F1 HbA K20
      have HK := hide (J.kinds J.T.size)
      obtain ⟨XX, HX⟩ : ∃ XX, Hid (J.nP J.T.size = XX) := ⟨_, hide rfl⟩
      rw [HX.out] at F1' F2' HK Hlen
      obtain ⟨BN, HBN⟩ : ∃ BN, Hid (wA.heap.size = BN) := ⟨_, hide rfl⟩
      rw [HBN.out] at S1' S2' F2' ⊢
      go_wp2
      go_loopw [24] (fun i wr => ∃ l : Nat, l ≤ J.L ∧ i = .int .i64 (l : Int) ∧ Below wB.heap.size wB wr) (fun i _ => J.L - (intOf i).toNat)
      case atStart => exact ⟨0, Nat.zero_le _, rfl, Below.refl _ _⟩
      case round =>
        obtain ⟨l, hl, rfl, hb⟩ := hrel
        by_cases hll : l < J.L
        · have hli : (l : Int) < (J.L : Int) := by omega
          obtain ⟨aG, cG, hVG, hcG⟩ := F1'.out.cellAll (i := 2 * l) (by omega)
          obtain ⟨aH, cH, hVH, hcH⟩ := F1'.out.cellAll (i := 2 * l + 1) (by omega)
          obtain ⟨aW, cW, hVW, hcW⟩ := F2'.out.cellAll (i := 2 * l) (by omega)
          obtain ⟨aZ, cZ, hVZ, hcZ⟩ := F2'.out.cellAll (i := 2 * l + 1) (by omega)
          obtain ⟨n0, Hn0⟩ : ∃ n, Hid ((XX (2 * l)).length = n) := ⟨_, hide rfl⟩
          obtain ⟨n1, Hn1⟩ : ∃ n, Hid ((XX (2 * l + 1)).length = n) := ⟨_, hide rfl⟩
          have hn0 : n0 ≤ 16777216 := by rw [← Hn0.out]; exact Hlen.out _
          have hn1 : n1 ≤ 16777216 := by rw [← Hn1.out]; exact Hlen.out _
          rw [Hn0.out] at hVG hVW
          rw [Hn1.out] at hVH hVZ
          have HG : Hid (∀ wr, Below wB.heap.size wB wr → wr.cell? ⟨B1, l, none⟩ = some (.slice aG n0 cG)) := hide (fun wr hb => by rw [hb.cell (p := ⟨B1, l, none⟩) R1'.out.lt, R1'.out.cellTab hll, hVG])
          have HH : Hid (∀ wr, Below wB.heap.size wB wr → wr.cell? ⟨B2, l, none⟩ = some (.slice aH n1 cH)) := hide (fun wr hb => by rw [hb.cell (p := ⟨B2, l, none⟩) R2'.out.lt, R2'.out.cellTab hll, hVH])
          have HW : Hid (∀ wr, Below wB.heap.size wB wr → wr.cell? ⟨BN, l, none⟩ = some (.slice aW n0 cW)) := hide (fun wr hb => by rw [hb.cell (p := ⟨BN, l, none⟩) S1'.out.lt, S1'.out.cellTab hll, hVW])
          have HZ : Hid (∀ wr, Below wB.heap.size wB wr → wr.cell? ⟨BN + 1, l, none⟩ = some (.slice aZ n1 cZ)) := hide (fun wr hb => by rw [hb.cell (p := ⟨BN + 1, l, none⟩) S2'.out.lt, S2'.out.cellTab hll, hVZ])
          have HcG := hide hcG
          have HcH := hide hcH
          have HcW := hide hcW
          have HcZ := hide hcZ
          have Hb := hide hb
          have q1 := HG.out wr hb
          have q2 := HH.out wr hb
          have q3 := HW.out wr hb
          have q4 := HZ.out wr hb
          have z0 : ((n0 : Int) != (n0 : Int)) = false := by simp
          have z1 : ((n1 : Int) != (n1 : Int)) = false := by simp
          clear hcG hcH hcW hcZ hb hVG hVH hVW hVZ
          go_upto_region 32 with fail
          go_quiet (fail)
          have Hb2 := hide (below_drew Hb.out nq)
          clear q1 q2 q3 q4 z0 z1 Hb
          generalize wr.drewN nq = wr1 at Hb2
          go_wp2
          go_loopw [25] (fun i wr => ∃ j : Nat, j ≤ n0 ∧ i = .int .i64 (j : Int) ∧ Below wB.heap.size wB wr) (fun i _ => n0 - (intOf i).toNat)
          case atStart => exact ⟨0, Nat.zero_le _, rfl, Hb2.out⟩
          case round =>
            clear Hb2
            obtain ⟨j, hj, rfl, hb⟩ := hrel
            have q1 := HG.out wr hb
            have q3 := HW.out wr hb
            have Hb := hide hb
            by_cases hjl : j < n0
            · have hji : (j : Int) < (n0 : Int) := by omega
              obtain ⟨v, hv⟩ : ∃ v, (XX (2 * l))[j]? = some v := ⟨_, List.getElem?_eq_getElem (by rw [Hn0.out]; exact hjl)⟩
              obtain ⟨z, rfl⟩ := (HK.out l j v).1 hv
              obtain ⟨g1, rfl, k1⟩ := HcG.out wr hb j _ hv
              obtain ⟨g2, rfl, k2⟩ := HcW.out wr hb j _ hv
              have zz : (z != z) = false := by simp
              clear hv hb
              go_upto_region 37 with fail
              go_quiet (fail)
              have Hb2 := hide (below_drew Hb.out nq)
              clear q1 q3 Hb k1 k2
              generalize wr.drewN nq = wr2 at Hb2
              go_wp2
              go_roundw
              case rel => exact ⟨j + 1, by omega, by go_num, Hb2.out⟩
              case measure => simp [intOf]; omega
            · have hji : ¬ ((j : Int) < (n0 : Int)) := by omega
              clear hb
              go_wp2
              clear q1 q3
              go_loopw [26] (fun i wr => ∃ j : Nat, j ≤ n1 ∧ i = .int .i64 (j : Int) ∧ Below wB.heap.size wB wr) (fun i _ => n1 - (intOf i).toNat)
              case atStart => exact ⟨0, Nat.zero_le _, rfl, Hb.out⟩
              case round =>
                clear Hb
                obtain ⟨j, hj, rfl, hb⟩ := hrel
                have q1 := HH.out wr hb
                have q3 := HZ.out wr hb
                have Hb := hide hb
                by_cases hjl : j < n1
                · have hji : (j : Int) < (n1 : Int) := by omega
                  obtain ⟨v, hv⟩ : ∃ v, (XX (2 * l + 1))[j]? = some v := ⟨_, List.getElem?_eq_getElem (by rw [Hn1.out]; exact hjl)⟩
                  obtain ⟨z, rfl⟩ := (HK.out l j v).2 hv
                  obtain ⟨g1, rfl, k1⟩ := HcH.out wr hb j _ hv
                  obtain ⟨g2, rfl, k2⟩ := HcZ.out wr hb j _ hv
                  have zz : (z != z) = false := by simp
                  clear hv hb
                  go_upto_region 42 with fail
                  go_quiet (fail)
                  have Hb2 := hide (below_drew Hb.out nq)
                  clear q1 q3 Hb k1 k2
                  generalize wr.drewN nq = wr2 at Hb2
                  go_wp2
                  go_roundw
                  case rel => exact ⟨j + 1, by omega, by go_num, Hb2.out⟩
                  case measure => simp [intOf]; omega
                · have hji : ¬ ((j : Int) < (n1 : Int)) := by omega
                  clear hb
                  go_wp2
                  go_roundw
                  case rel => exact ⟨l + 1, by omega, by go_num, Hb.out⟩
                  case measure => simp [intOf]; omega
        · have hli : ¬ ((l : Int) < (J.L : Int)) := by omega
          have HF := HN wr (HbB.out.trans (hb.mono HbB.out.size))
          clear hb
          go_wp2
          go_ret
          exact HF.out
end Go.Proofs.Qxb6602558a
