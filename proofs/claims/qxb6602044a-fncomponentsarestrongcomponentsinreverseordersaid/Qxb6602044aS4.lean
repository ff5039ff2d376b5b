/-
  zzBackwardLabels: EVERY NODE REACHES ITS CLASS's NODE.
-/
import Derived.Test.Qxb6602044aS2
namespace Go.Proofs.Qxb6602044a
open Go.RowKit
set_option linter.unusedVariables false

def BwOut (w : World) (e : Ending) (w' : World) : Prop := ∃ v, e = .returned (.tuple #[v, .bool true]) ∧ Below w.heap.size w w'

theorem bw_init {w : World} {N : Nat} (hN : N ≤ 131072) :
    Q3 w (((w.alloc (.cells (List.replicate N (.int .i64 0)).toArray 3)).alloc (.cells (List.replicate N (.bool false)).toArray 4)).alloc (.cells (List.replicate N (.int .i64 0)).toArray 3)) w.heap.size (w.heap.size + 2) w.heap.size (w.heap.size + 1) N (fun _ => nv 0) (fun _ => false) (.slice (some ⟨w.heap.size + 2, 0, none⟩) 0 N) [] := by
  refine ⟨?_, fun v => ⟨_, rfl⟩, ?_, ?_, by omega, by omega, by omega, ?_, by omega, by simp⟩
  · exact ((row_at rfl (by rw [tab_replicate]; rfl)).alloc _).alloc _
  · exact (row_at (by simp) (by rw [tab_replicate])).alloc _
  · exact owns_room (by omega) (row_at (by simp) rfl) (by unfold maxLen; omega)
  · exact (((Below.refl _ _).alloc (Nat.le_refl _) _).alloc (by simp) _).alloc (by simp <;> omega) _

set_option maxRecDepth 100000 in
set_option maxHeartbeats 4000000 in
theorem backward_any {w : World} {bs bq br K N R : Nat} (plain : Int) {A : Tj.Net} {rep : Nat → Nat} (hAN : A.N = N) (hAK : A.K = K) (hkp : ∀ x t, A.kp x t = true) (hN : N ≤ 131072) (hK : K ≤ 131072) (hR : R ≤ 131072)
    (hs : Row w bs 3 (Tab (N + 1) (fun v => nv (A.st v)))) (hs2 : Row w bq 3 (Tab R (fun t => nv (A.su t)))) (hr : Row w br 3 (Tab K (fun c => nv (rep c)))) (hmono : ∀ x, x < N → A.st x ≤ A.st (x + 1) ∧ A.st (x + 1) ≤ R) (hro : Roots A rep) :
    Calls Try.prog 18 #[.int .i64 (N : Int), .slice (some ⟨bs, 0, none⟩) (N + 1) (N + 1), .slice (some ⟨bq, 0, none⟩) R R, .int .i64 plain, .slice (some ⟨br, 0, none⟩) K K] w (BwOut w) := by
  have hm1 := mk_ints N (by omega)
  have hm2 := mkBools N (by omega)
  have hmr := mk_room N (by omega)
  have Hq0 := hide (bw_init (w := w) hN)
  have Hs := hide hs
  have Hs2 := hide hs2
  have Hr := hide hr
  have Hro := hide hro
  have HAN := hide hAN
  have HAK := hide hAK
  have Hkp := hide hkp
  have Hmono := hide hmono
  clear hs hs2 hr hro hAN hAK hkp hmono
  go_enter Try.func18, Try.ntmps18
  go_wp2
  simp only [Nat.add_assoc, Nat.reduceAdd]
  clear hm1 hm2 hmr
  go_loopg [14, 15] K (fun k z i wr => ∃ c : Nat, c + k = K ∧ i = .int .i64 (c : Int) ∧ ∃ q seen f, (∀ v, v < A.N → seen v = decide (A.cmp v < c)) ∧ Q3 w wr w.heap.size (w.heap.size + 2) w.heap.size (w.heap.size + 1) A.N f seen z q)
  case atStart =>
    refine ⟨0, by omega, rfl, [], fun _ => false, fun _ => nv 0, fun v _ => (decide_eq_false (Nat.not_lt_zero _)).symm, ?_⟩
    rw [HAN.out]
    exact Hq0.out
  case round =>
    obtain ⟨c, hck, rfl, q, seen, f, hsn, hq⟩ := hrel
    clear Hq0
    by_cases hlt : c < K
    · have hci : (c : Int) < (K : Int) := by omega
      obtain ⟨hrN, hrc⟩ := Hro.out.at_ c (by rw [HAK.out]; exact hlt)
      have cr : wr.cell? ⟨br, c, none⟩ = some (.int .i64 (rep c : Int)) := by rw [hq.below.cell (p := ⟨br, c, none⟩) Hr.out.lt]; exact Hr.out.cellTab hlt
      have Hst := hide (Tj.BInv.start hsn hrN hrc)
      obtain ⟨y, cb⟩ : ∃ y, wr.cell? ⟨w.heap.size + 1, rep c, none⟩ = some y := ⟨_, hq.r2.cellTab hrN⟩
      have fb := hq.r2.frozen (rep c)
      have hri : (rep c : Int) < (N : Int) := by have := HAN.out; omega
      have hq1 := hq.sn_ (by omega) (rep c) true
      have Hrc := hide hrc
      have hr0 : ¬ ((rep c : Int) < 0) := by omega
      clear hq hsn hrc
      obtain ⟨r, Hre⟩ : ∃ r, Hid (rep c = r) := ⟨_, hide rfl⟩
      rw [Hre.out] at cr Hst cb fb hri hq1 Hrc hrN hr0
      go_upto_region 10 with fail
      generalize wr.setCell ⟨w.heap.size + 1, r, none⟩ (.bool true) = w1 at hq1
      clear cb fb cr
      have Hq1 := hide hq1
      clear hq1
      go_cut [14] (fun z wx => ∃ g cap, z = .slice (some ⟨g, 0, none⟩) 1 cap ∧ Q3 w wx w.heap.size (w.heap.size + 2) w.heap.size (w.heap.size + 1) A.N f (Tj.upd seen r true) z [r])
      case first =>
        obtain ⟨i0, hi, hz0, hz1, hz2⟩ := info_parts Try.inf3
        have hnb : (w1.alloc (.cells #[.int .i64 (r : Int)] 3)).heap[w1.heap.size]? = some (.cells #[.int .i64 (r : Int)] 3 (0, 0)) := heap_alloc_new _ _
        have Hnb := hide hnb
        clear hnb
        have hroom := Hq1.out.room
        rcases Hq1.out.clear with ⟨rfl, hq2⟩ | ⟨g, cap, rfl, hc1, hc2, hq2⟩
        · have Hq2 := hide (hq2.alloc (.cells #[.int .i64 (r : Int)] 3))
          clear hq2
          go_wp2_with (at_builtin; refine wpList_append_lies (w1.alloc (.cells #[.int .i64 (r : Int)] 3)) (by rfl) _ _ 22 (by rfl) (w.heap.size + 2) 3 i0 (.int .i64 0) 1 8 Try.underlying22 hi hz0 hz1 hz2 rfl (by decide) (.slice none 0 0) 0 _ (by rfl) Hq2.out.oQ ⟨w1.heap.size, 0, none⟩ 1 1 [.int .i64 (r : Int)] (by rfl) rfl (World.news_of_block Hnb.out) (by simp [Value.oneCell']) (by omega) (by unfold maxLen; omega) (by omega) (by simp; omega) (w1.heap.size + 1) (by simp) ?_; intro g2 cap2 w4 hown4 hgrow4 hloc4 hglt4; have Hq3 := hide (Hq2.out.push (n := r) hgrow4 hown4); clear hown4 hgrow4 hloc4 hglt4)
          go_meet
          exact ⟨_, _, rfl, Hq3.out⟩
        · have Hq2 := hide (hq2.alloc (.cells #[.int .i64 (r : Int)] 3))
          clear hq2
          go_wp2_with (at_builtin; refine wpList_append_lies (w1.alloc (.cells #[.int .i64 (r : Int)] 3)) (by rfl) _ _ 22 (by rfl) (w.heap.size + 2) 3 i0 (.int .i64 0) 1 8 Try.underlying22 hi hz0 hz1 hz2 rfl (by decide) (.slice (some ⟨g, 0, none⟩) 0 cap) 0 _ (by rfl) Hq2.out.oQ ⟨w1.heap.size, 0, none⟩ 1 1 [.int .i64 (r : Int)] (by rfl) rfl (World.news_of_block Hnb.out) (by simp [Value.oneCell']) (by omega) (by unfold maxLen; omega) (by omega) (by simp; omega) (w1.heap.size + 1) (by simp) ?_; intro g2 cap2 w4 hown4 hgrow4 hloc4 hglt4; have Hq3 := hide (Hq2.out.push (n := r) hgrow4 hown4); clear hown4 hgrow4 hloc4 hglt4)
          go_meet
          exact ⟨_, _, rfl, Hq3.out⟩
      case rest =>
        obtain ⟨g, cap, rfl, hq3⟩ := hcut
        have Hq3 := hide hq3
        clear hq3 Hq1
        go_wp2
        go_loopg [14, 17] N (fun k z i wr => ∃ (i' : Nat) (q : List Nat), i' + k = N ∧ i = .int .i64 (i' : Int) ∧ i' ≤ q.length ∧ FRel w A w.heap.size (w.heap.size + 2) w.heap.size (w.heap.size + 1) c r i' z q wr)
        case atStart => exact ⟨0, [r], by omega, rfl, Nat.zero_le _, _, _, Hst.out, fun k hk => absurd hk (Nat.not_lt_zero _), Hq3.out⟩
        case round =>
          clear Hst Hq3 f seen q
          obtain ⟨i, q, hik, rfl, hiq, seen, f, hinv, hexp, hq⟩ := hrel
          have hqN : q.length ≤ N := by have := hinv.len; rw [HAN.out] at this; exact this
          by_cases hlt2 : i < q.length
          · obtain ⟨g2, cap2, rfl, cq⟩ := hq.at hlt2
            have hnq : q.getD i 0 ∈ q := by rw [List.getD_eq_getElem?_getD, List.getElem?_eq_getElem hlt2]; exact List.getElem_mem hlt2
            have hxN : q.getD i 0 < N := by have := (hinv.qN _ hnq).1; rw [HAN.out] at this; exact this
            have hxc : A.cmp (q.getD i 0) = c := (hinv.qN _ hnq).2
            obtain ⟨x, Hx⟩ : ∃ n, Hid (q.getD i 0 = n) := ⟨_, hide rfl⟩
            rw [Hx.out] at cq hxN hxc
            replace cq : wr.cell? ⟨g2, i, none⟩ = some (.int .i64 (x : Int)) := cq
            have hli : (i : Int) < (q.length : Int) := by omega
            have cs : wr.cell? ⟨bs, x, none⟩ = some (.int .i64 (A.st x : Int)) := by rw [hq.below.cell (p := ⟨bs, x, none⟩) Hs.out.lt]; exact Hs.out.cellTab (show x < N + 1 by omega)
            have hxi : (x : Int) < (N : Int) + 1 := by omega
            have Hxc := hide hxc
            have Hall : Hid (FRel w A w.heap.size (w.heap.size + 2) w.heap.size (w.heap.size + 1) c r i (.slice (some ⟨g2, 0, none⟩) q.length cap2) q wr) := hide ⟨seen, f, hinv, hexp, hq⟩
            obtain ⟨hmono, hle⟩ := Hmono.out x hxN
            clear hinv hexp hq hnq hxc
            go_wp2
            clear cs cq
            go_loopg [14, 19] (A.st (x + 1) - A.st x) (fun k z j wr => ∃ (j' : Nat) (q' : List Nat), j' + k = A.st (x + 1) ∧ A.st x ≤ j' ∧ j = .int .i64 (j' : Int) ∧ i < q'.length ∧ q'.getD i 0 = x ∧ Tj.ExpJ A q' x j' ∧ FRel w A w.heap.size (w.heap.size + 2) w.heap.size (w.heap.size + 1) c r i z q' wr)
            case atStart => exact ⟨A.st x, q, by omega, Nat.le_refl _, rfl, hlt2, Hx.out, Tj.ExpJ.init rfl, Hall.out⟩
            case round =>
              clear Hall
              obtain ⟨j, q', hjk, hj0, rfl, hiq', hqn', hej, seen', f', hinv, hexp, hq⟩ := hrel
              have c1 : wr.cell? ⟨bs, x + 1, none⟩ = some (.int .i64 (A.st (x + 1) : Int)) := by rw [hq.below.cell (p := ⟨bs, x + 1, none⟩) Hs.out.lt]; exact Hs.out.cellTab (show x + 1 < N + 1 by omega)
              have hx1i : (x : Int) + 1 < (N : Int) + 1 := by omega
              have Hqn := hide hqn'
              clear hqn'
              by_cases hlt3 : j < A.st (x + 1)
              · have hji : (j : Int) < (A.st (x + 1) : Int) := by omega
                have hjR : j < R := by omega
                have hjRi : (j : Int) < (R : Int) := by omega
                have cto : wr.cell? ⟨bq, j, none⟩ = some (.int .i64 (A.su j : Int)) := by rw [hq.below.cell (p := ⟨bq, j, none⟩) Hs2.out.lt]; exact Hs2.out.cellTab hjR
                have hF : A.F x (A.su j) := ⟨by rw [HAN.out]; exact hxN, j, hj0, hlt3, Hkp.out x j, rfl⟩
                obtain ⟨hvA, hmc⟩ := Hro.out.stay.stay _ _ hF
                have hvN : A.su j < N := by rw [HAN.out] at hvA; exact hvA
                rw [Hxc.out] at hmc
                have cb : wr.cell? ⟨w.heap.size + 1, A.su j, none⟩ = some (.bool (seen' (A.su j))) := hq.r2.cellTab hvA
                have fb := hq.r2.frozen (A.su j)
                have Hej := hide hej
                have Hinv := hide hinv
                have Hexp := hide hexp
                have Hq := hide hq
                clear hej hinv hexp hq hF
                obtain ⟨m, Hsu⟩ : ∃ m, Hid (A.su j = m) := ⟨_, hide rfl⟩
                rw [Hsu.out] at cto hvN cb fb hvA hmc
                have hmi : (m : Int) < (N : Int) := by omega
                cases hsn : seen' m with
                | true =>
                  have Hall : Hid (FRel w A w.heap.size (w.heap.size + 2) w.heap.size (w.heap.size + 1) c r i u14 q' wr) := hide ⟨_, _, Hinv.out, Hexp.out, Hq.out⟩
                  have Hnx := hide (Hej.out.next (fun _ => by rw [Hsu.out]; exact (Hinv.out.mid m hvA hmc).1 hsn))
                  rw [hsn] at cb
                  clear hsn hmc
                  go_wp2
                  go_roundg (gk - 1)
                  case measure => omega
                  case rel => exact ⟨j + 1, q', by omega, by omega, by go_num, hiq', Hqn.out, Hnx.out, Hall.out⟩
                | false =>
                  rw [hsn] at cb
                  have Hadd := hide (Hinv.out.add hvA hmc hsn)
                  have Hexp2 := hide (Hexp.out.add (m := m) (by omega))
                  have Hnx := hide (Tj.ExpJ.next (Hej.out.add (m := m)) (fun _ => by rw [Hsu.out]; simp))
                  have hql : q'.length ≤ N := by have := Hinv.out.len; rw [HAN.out] at this; exact this
                  have hq3 := Hq.out.sn_ (by omega) m true
                  clear hsn hmc Hq
                  go_upto_region 21 with fail
                  clear cb fb cto c1
                  generalize wr.setCell ⟨w.heap.size + 1, m, none⟩ (.bool true) = w3 at hq3
                  have KW := hide (weight35_any w3.drew m plain)
                  obtain ⟨lx, hlx⟩ := hq3.ints x
                  have cx : w3.cell? ⟨w.heap.size, x, none⟩ = some (.int .i64 lx) := by have := hq3.r1.cellTab (show x < A.N by rw [HAN.out]; exact hxN); rw [hlx] at this; exact this
                  obtain ⟨y1, cm1⟩ : ∃ y, w3.cell? ⟨w.heap.size, m, none⟩ = some y := ⟨_, hq3.r1.cellTab hvA⟩
                  have fm1 := hq3.r1.frozen m
                  have hxi0 : (x : Int) < (N : Int) := by omega
                  have Hq5 := hide hq3
                  clear hq3 hlx
                  generalize (if (m : Int) < plain then (1 : Int) else 0) = wt at KW
                  go_cut [] (fun wx => ∃ f2, Q3 w wx w.heap.size (w.heap.size + 2) w.heap.size (w.heap.size + 1) A.N f2 (Tj.upd seen' m true) u14 q')
                  case first =>
                    go_region_with (go_at_call 35; refine Calls.mono (Hid.out KW) ?_; rintro e1 w5 ⟨rfl, hw5⟩; subst w5)
                    all_goals
                      go_wp2_with fail
                      go_meet
                      exact ⟨_, (Hq5.out.lab (Nat.le_refl _) m _).drew⟩
                  case rest =>
                    obtain ⟨f2, hq6⟩ := hcut
                    have Hq5 := hide hq6
                    clear hq6 cx cm1 fm1 KW
                    obtain ⟨az, cz, rfl⟩ : ∃ a c, u14 = .slice a q'.length c := owns_form Hq5.out.oQ
                    obtain ⟨i0, hi, hz0, hz1, hz2⟩ := info_parts Try.inf3
                    have hnb : (wc.alloc (.cells #[.int .i64 (m : Int)] 3)).heap[wc.heap.size]? = some (.cells #[.int .i64 (m : Int)] 3 (0, 0)) := heap_alloc_new _ _
                    have Hnb := hide hnb
                    have hroom := Hq5.out.room
                    have Hq6 := hide (Hq5.out.alloc (.cells #[.int .i64 (m : Int)] 3))
                    clear hnb Hq5
                    go_wp2_with (at_builtin; refine wpList_append_lies (wc.alloc (.cells #[.int .i64 (m : Int)] 3)) (by rfl) _ _ 22 (by rfl) (w.heap.size + 2) 3 i0 (.int .i64 0) 1 8 Try.underlying22 hi hz0 hz1 hz2 rfl (by decide) (.slice az q'.length cz) q'.length _ (by rfl) Hq6.out.oQ ⟨wc.heap.size, 0, none⟩ 1 1 [.int .i64 (m : Int)] (by rfl) rfl (World.news_of_block Hnb.out) (by simp [Value.oneCell']) (by omega) (by unfold maxLen; omega) (by omega) (by simp; omega) (wc.heap.size + 1) (by simp) ?_; intro g4 cap4 w6 hown6 hgrow6 hloc6 hglt6; have Hq7 := hide (Hq6.out.push (n := m) hgrow6 hown6); clear hown6 hgrow6 hloc6 hglt6)
                    clear Hq6 Hnb hi hz0 hz1 hz2
                    have Hall : Hid (FRel w A w.heap.size (w.heap.size + 2) w.heap.size (w.heap.size + 1) c r i (.slice (some ⟨g4, 0, none⟩) (q'.length + 1) cap4) (q' ++ [m]) w6) := hide ⟨_, _, Hadd.out, Hexp2.out, Hq7.out⟩
                    have Hqn2 : Hid ((q' ++ [m]).getD i 0 = x) := hide (by rw [Tj.getD_app hiq']; exact Hqn.out)
                    clear Hq7
                    go_roundg (gk - 1)
                    case measure => omega
                    case rel => exact ⟨j + 1, q' ++ [m], by omega, by omega, by go_num, by simp; omega, Hqn2.out, Hnx.out, Hall.out⟩
              · have hji : ¬ ((j : Int) < (A.st (x + 1) : Int)) := by omega
                have Hall : Hid (FRel w A w.heap.size (w.heap.size + 2) w.heap.size (w.heap.size + 1) c r (i + 1) u14 q' wr) := hide ⟨_, _, hinv, hexp.next (by rw [Hqn.out]; exact hej) (by rw [Hqn.out]; omega), hq⟩
                have hql : q'.length ≤ N := by have := hinv.len; rw [HAN.out] at this; exact this
                clear hinv hexp hq hej
                go_wp2
                go_roundg (N - i - 1)
                case measure => omega
                case rel => exact ⟨i + 1, q', by omega, by go_num, by omega, Hall.out⟩
          · have hli : ¬ ((i : Int) < (q.length : Int)) := by omega
            have hie : i = q.length := by omega
            have Hfin := hide (hinv.finish Hro.out.stay (by rw [hie] at hexp; exact hexp) (fun v hv hcv => by
              have := Hro.out.all v hv
              rw [hcv, Hre.out] at this
              exact this))
            have Hq := hide hq
            obtain ⟨az, cz, rfl⟩ : ∃ a c, u14 = .slice a q.length c := owns_form hq.oQ
            clear hinv hexp hq hie
            go_wp2
            go_roundg (K - c - 1)
            case measure => omega
            case rel => exact ⟨c + 1, by omega, by go_num, q, seen, f, Hfin.out, Hq.out⟩
    · have hci : ¬ ((c : Int) < (K : Int)) := by omega
      have hall : ∀ v, v < N → wr.cell? ⟨w.heap.size + 1, v, none⟩ = some (.bool true) := fun v hv => by
        have hvA : v < A.N := by rw [HAN.out]; exact hv
        have h1 := hq.r2.cellTab hvA
        rw [hsn v hvA, decide_eq_true (by have := Hro.out.stay.lt v hvA; rw [HAK.out] at this; omega)] at h1
        exact h1
      have Hcells := hide hall
      have Hb := hide hq.below
      clear hq hsn hall
      rename World => wb
      go_wp2
      go_loopw [21] (fun i wr => ∃ k : Nat, k ≤ N ∧ i = .int .i64 k ∧ wr = wb) (fun i _ => N - (intOf i).toNat)
      case atStart => exact ⟨0, Nat.zero_le _, rfl, rfl⟩
      case round =>
        obtain ⟨k, hk, rfl, rfl⟩ := hrel
        by_cases hkn : k < N
        · have hki : (k : Int) < (N : Int) := by omega
          have hcc := Hcells.out k hkn
          go_wp2
          go_roundw
          case rel => exact ⟨k + 1, by omega, by go_num, trivial⟩
          case measure => simp [intOf]; omega
        · have hki : ¬ ((k : Int) < (N : Int)) := by omega
          go_wp2
          go_ret2
          exact ⟨_, rfl, Hb.out⟩
end Go.Proofs.Qxb6602044a
