/-
  zzForwardReachesAll: EVERY NODE IS REACHED.
-/
import Derived.Test.Qxb6602044aS1
namespace Go.Proofs.Qxb6602044a
open Go.RowKit
set_option linter.unusedVariables false

/-- the search of class c from r, queue q, its first i nodes gone through -/
def FRel (w : World) (A : Tj.Net) (B0 base b1 b2 c r i : Nat) (z : Value) (q : List Nat) (wr : World) : Prop :=
  ∃ seen f, Tj.BInv A c r seen q ∧ Tj.Exp A q i ∧ Q3 w wr B0 base b1 b2 A.N f seen z q

/-- what a class search is told: A's steps stay in a class and reach all of it from rep -/
structure Roots (A : Tj.Net) (rep : Nat → Nat) : Prop where
  stay : A.Stay
  at_ : ∀ c, c < A.K → rep c < A.N ∧ A.cmp (rep c) = c
  all : ∀ v, v < A.N → Tj.Reach A.F (rep (A.cmp v)) v

def FwOut (w : World) (e : Ending) (w' : World) : Prop := e = .returned (.bool true) ∧ Below w.heap.size w w'

theorem fw_init {w : World} {bc N : Nat} {cmp : Nat → Nat} (hc : Row w bc 3 (Tab N (fun v => nv (cmp v)))) (hN : N ≤ 131072) :
    Q3 w ((w.alloc (.cells (List.replicate N (.bool false)).toArray 4)).alloc (.cells (List.replicate N (.int .i64 0)).toArray 3)) w.heap.size (w.heap.size + 1) bc w.heap.size N (fun v => nv (cmp v)) (fun _ => false) (.slice (some ⟨w.heap.size + 1, 0, none⟩) 0 N) [] := by
  have hlt := hc.lt
  refine ⟨(hc.alloc _).alloc _, fun v => ⟨_, rfl⟩, ?_, ?_, by omega, by omega, by omega, ?_, by omega, by simp⟩
  · exact (row_at rfl (by rw [tab_replicate])).alloc _
  · exact owns_room (by omega) (row_at (by simp) rfl) (by unfold maxLen; omega)
  · exact ((Below.refl _ _).alloc (Nat.le_refl _) _).alloc (by simp) _

set_option maxRecDepth 100000 in
set_option maxHeartbeats 4000000 in
theorem forward_any {w : World} {b0 bc br K N : Nat} {a1 a2 : Option Addr} {z0 z1 z2 : List Int} (h : GIn w b0 a1 a2 z0 z1 z2) (plain : Int) (hN : z0.length = N + 1) {most : Nat} (hmo : most < 256) {cmp rep : Nat → Nat}
    (hc : Row w bc 3 (Tab N (fun v => nv (cmp v)))) (hr : Row w br 3 (Tab K (fun c => nv (rep c)))) (hK : K ≤ 131072) (hro : Roots ((zGr z0 z1 z2 plain most).net cmp K) rep) :
    Calls Try.prog 16 #[.slice (some ⟨b0, 0, none⟩) (N + 1) (N + 1), .slice a1 z1.length z1.length, .slice a2 z2.length z2.length, .int .i64 (most : Int), .slice (some ⟨bc, 0, none⟩) N N, .slice (some ⟨br, 0, none⟩) K K] w (FwOut w) := by
  have hNs : N ≤ 131072 := by have := h.s0; omega
  have hs1 := h.s1
  have hm2 := mkBools N (by omega)
  have hmr := mk_room N (by omega)
  obtain ⟨G, HG⟩ : ∃ G, Hid (zGr z0 z1 z2 plain most = G) := ⟨_, hide rfl⟩
  rw [HG.out] at hro
  have hGN : G.N = N := by rw [← HG.out]; show z0.length - 1 = N; rw [hN]; rfl
  have hGM : G.M = z1.length := by rw [← HG.out]; rfl
  have hcst : ∀ n, n ≤ N → w.cell? ⟨b0, n, none⟩ = some (.int .i64 (G.st n : Int)) := fun n hn => by rw [← HG.out]; exact h.cst plain most (by omega)
  have hcto : ∀ j, j < z1.length → ∃ b off, a1 = some ⟨b, off, none⟩ ∧ b < w.heap.size ∧ w.cell? ⟨b, off + j, none⟩ = some (.int .i64 (G.to j : Int)) := fun j hj => by rw [← HG.out]; exact h.cto plain most hj
  have hckd : ∀ j, j < z1.length → ∃ b off, a2 = some ⟨b, off, none⟩ ∧ b < w.heap.size ∧ w.cell? ⟨b, off + j, none⟩ = some (.int .u8 ((z2.getD j 0).toNat : Int)) := fun j hj => h.ckd hj
  have hkd : ∀ j, (z2.getD j 0).toNat < 256 := fun i => by
    by_cases hi : i < z2.length
    · have := h.u2 _ (getD_mem hi)
      omega
    · rw [List.getD_eq_getElem?_getD, List.getElem?_eq_none (by omega)]
      decide
  have hok : ∀ j, G.ok j = decide ((z2.getD j 0).toNat ≤ most) := fun j => by rw [← HG.out]; rfl
  have hval : G.Valid := by rw [← HG.out]; exact h.valid plain most
  have hz2 : z2.length = z1.length := h.ok.kind
  have hlt0 := h.lt
  generalize hA : G.net cmp K = A at hro
  have hAN : A.N = N := by rw [← hA]; exact hGN
  have hAK : A.K = K := by rw [← hA]; rfl
  have hAs : A.st = G.st := by rw [← hA]; rfl
  have hAu : A.su = G.to := by rw [← hA]; rfl
  have hAc : A.cmp = cmp := by rw [← hA]; rfl
  have hAk : ∀ x t, A.kp x t = (G.ok t && decide (cmp x = cmp (G.to t))) := fun x t => by rw [← hA]; rfl
  have Hq0 := hide (fw_init hc hNs)
  have Hc := hide hc
  have Hr := hide hr
  have Hro := hide hro
  have Hcst := hide hcst
  have Hcto := hide hcto
  have Hckd := hide hckd
  have Hkd := hide hkd
  have Hok := hide hok
  have Hval := hide hval
  have HGN := hide hGN
  have HGM := hide hGM
  have HAN := hide hAN
  have HAK := hide hAK
  have HAs := hide hAs
  have HAu := hide hAu
  have HAc := hide hAc
  have HAk := hide hAk
  rw [hz2]
  clear h hN hc hr hro hcst hcto hckd hkd hok hval hGN hGM hAN hAK hAs hAu hAc hAk hA hz2
  go_enter Try.func16, Try.ntmps16
  go_wp2
  clear hm2 hmr
  go_loopg [15, 16] K (fun k z i wr => ∃ c : Nat, c + k = K ∧ i = .int .i64 (c : Int) ∧ ∃ q seen f, (∀ v, v < A.N → seen v = decide (A.cmp v < c)) ∧ Q3 w wr w.heap.size (w.heap.size + 1) bc w.heap.size A.N f seen z q)
  case atStart =>
    refine ⟨0, by omega, rfl, [], fun _ => false, fun v => nv (cmp v), fun v _ => (decide_eq_false (Nat.not_lt_zero _)).symm, ?_⟩
    rw [HAN.out]
    exact Hq0.out
  case round =>
    obtain ⟨c, hck, rfl, q, seen, f, hsn, hq⟩ := hrel
    clear Hq0
    by_cases hlt : c < K
    · have hci : (c : Int) < (K : Int) := by omega
      obtain ⟨hrN, hrc⟩ := Hro.out.at_ c (by rw [HAK.out]; exact hlt)
      have cr : wr.cell? ⟨br, c, none⟩ = some (.int .i64 (rep c : Int)) := by rw [hq.below.cell (p := ⟨br, c, none⟩) Hr.out.lt]; exact Hr.out.cellTab hlt
      have Hst := hide (Tj.BInv.start hsn hrN hrc)
      obtain ⟨y, cb⟩ : ∃ y, wr.cell? ⟨w.heap.size, rep c, none⟩ = some y := ⟨_, hq.r2.cellTab hrN⟩
      have fb := hq.r2.frozen (rep c)
      have hri : (rep c : Int) < (N : Int) := by have := HAN.out; omega
      have hq1 := hq.sn_ (Nat.le_refl _) (rep c) true
      have Hrc := hide hrc
      have hr0 : ¬ ((rep c : Int) < 0) := by omega
      clear hq hsn hrc
      obtain ⟨r, Hre⟩ : ∃ r, Hid (rep c = r) := ⟨_, hide rfl⟩
      rw [Hre.out] at cr Hst cb fb hri hq1 Hrc hrN hr0
      go_upto_region 10 with fail
      generalize wr.setCell ⟨w.heap.size, r, none⟩ (.bool true) = w1 at hq1
      clear cb fb cr
      have Hq1 := hide hq1
      clear hq1
      go_cut [15] (fun z wx => ∃ g cap, z = .slice (some ⟨g, 0, none⟩) 1 cap ∧ Q3 w wx w.heap.size (w.heap.size + 1) bc w.heap.size A.N f (Tj.upd seen r true) z [r])
      case first =>
        obtain ⟨i0, hi, hz0, hz1, hz2⟩ := info_parts Try.inf3
        have hnb : (w1.alloc (.cells #[.int .i64 (r : Int)] 3)).heap[w1.heap.size]? = some (.cells #[.int .i64 (r : Int)] 3 (0, 0)) := heap_alloc_new _ _
        have Hnb := hide hnb
        clear hnb
        have hroom := Hq1.out.room
        rcases Hq1.out.clear with ⟨rfl, hq2⟩ | ⟨g, cap, rfl, hc1, hc2, hq2⟩
        · have Hq2 := hide (hq2.alloc (.cells #[.int .i64 (r : Int)] 3))
          clear hq2
          go_wp2_with (at_builtin; refine wpList_append_lies (w1.alloc (.cells #[.int .i64 (r : Int)] 3)) (by rfl) _ _ 22 (by rfl) (w.heap.size + 1) 3 i0 (.int .i64 0) 1 8 Try.underlying22 hi hz0 hz1 hz2 rfl (by decide) (.slice none 0 0) 0 _ (by rfl) Hq2.out.oQ ⟨w1.heap.size, 0, none⟩ 1 1 [.int .i64 (r : Int)] (by rfl) rfl (World.news_of_block Hnb.out) (by simp [Value.oneCell']) (by omega) (by unfold maxLen; omega) (by omega) (by simp; omega) (w1.heap.size + 1) (by simp) ?_; intro g2 cap2 w4 hown4 hgrow4 hloc4 hglt4; have Hq3 := hide (Hq2.out.push (n := r) hgrow4 hown4); clear hown4 hgrow4 hloc4 hglt4)
          go_meet
          exact ⟨_, _, rfl, Hq3.out⟩
        · have Hq2 := hide (hq2.alloc (.cells #[.int .i64 (r : Int)] 3))
          clear hq2
          go_wp2_with (at_builtin; refine wpList_append_lies (w1.alloc (.cells #[.int .i64 (r : Int)] 3)) (by rfl) _ _ 22 (by rfl) (w.heap.size + 1) 3 i0 (.int .i64 0) 1 8 Try.underlying22 hi hz0 hz1 hz2 rfl (by decide) (.slice (some ⟨g, 0, none⟩) 0 cap) 0 _ (by rfl) Hq2.out.oQ ⟨w1.heap.size, 0, none⟩ 1 1 [.int .i64 (r : Int)] (by rfl) rfl (World.news_of_block Hnb.out) (by simp [Value.oneCell']) (by omega) (by unfold maxLen; omega) (by omega) (by simp; omega) (w1.heap.size + 1) (by simp) ?_; intro g2 cap2 w4 hown4 hgrow4 hloc4 hglt4; have Hq3 := hide (Hq2.out.push (n := r) hgrow4 hown4); clear hown4 hgrow4 hloc4 hglt4)
          go_meet
          exact ⟨_, _, rfl, Hq3.out⟩
      case rest =>
        obtain ⟨g, cap, rfl, hq3⟩ := hcut
        have Hq3 := hide hq3
        clear hq3 Hq1
        go_wp2
        go_loopg [15, 18] N (fun k z i wr => ∃ (i' : Nat) (q : List Nat), i' + k = N ∧ i = .int .i64 (i' : Int) ∧ i' ≤ q.length ∧ FRel w A w.heap.size (w.heap.size + 1) bc w.heap.size c r i' z q wr)
        case atStart => exact ⟨0, [r], by omega, rfl, Nat.zero_le _, _, _, Hst.out, fun k hk => absurd hk (Nat.not_lt_zero _), Hq3.out⟩
        case round =>
          clear Hst Hq3 f seen q
          obtain ⟨i, q, hik, rfl, hiq, seen, f, hinv, hexp, hq⟩ := hrel
          have hqN : q.length ≤ N := by have := hinv.len; rw [HAN.out] at this; exact this
          by_cases hlt2 : i < q.length
          · obtain ⟨g2, cap2, rfl, cq⟩ := hq.at hlt2
            have hnq : q.getD i 0 ∈ q := by rw [List.getD_eq_getElem?_getD, List.getElem?_eq_getElem hlt2]; exact List.getElem_mem hlt2
            have hxN : q.getD i 0 < N := by have := (hinv.qN _ hnq).1; rw [HAN.out] at this; exact this
            have hxc : A.cmp (q.getD i 0) = c := (hinv.qN _ hnq).2
            obtain ⟨x, Hx⟩ : ∃ n, Hid (q.getD i 0 = n) := ⟨_, hide rfl⟩
            rw [Hx.out] at cq hxN hxc
            replace cq : wr.cell? ⟨g2, i, none⟩ = some (.int .i64 (x : Int)) := cq
            have hli : (i : Int) < (q.length : Int) := by omega
            have cs : wr.cell? ⟨b0, x, none⟩ = some (.int .i64 (G.st x : Int)) := by rw [hq.below.cell (p := ⟨b0, x, none⟩) hlt0]; exact Hcst.out x (by omega)
            have hxi : (x : Int) < (N : Int) + 1 := by omega
            have Hxc := hide hxc
            have Hall : Hid (FRel w A w.heap.size (w.heap.size + 1) bc w.heap.size c r i (.slice (some ⟨g2, 0, none⟩) q.length cap2) q wr) := hide ⟨seen, f, hinv, hexp, hq⟩
            have hmono := Hval.out.mono x (by rw [HGN.out]; exact hxN)
            have hle := Hval.out.le (x + 1) (by rw [HGN.out]; omega)
            rw [HGM.out] at hle
            clear hinv hexp hq hnq hxc
            go_wp2
            clear cs cq
            go_loopg [15, 20] (G.st (x + 1) - G.st x) (fun k z j wr => ∃ (j' : Nat) (q' : List Nat), j' + k = G.st (x + 1) ∧ G.st x ≤ j' ∧ j = .int .i64 (j' : Int) ∧ i < q'.length ∧ q'.getD i 0 = x ∧ Tj.ExpJ A q' x j' ∧ FRel w A w.heap.size (w.heap.size + 1) bc w.heap.size c r i z q' wr)
            case atStart => exact ⟨G.st x, q, by omega, Nat.le_refl _, rfl, hlt2, Hx.out, Tj.ExpJ.init (by rw [HAs.out]), Hall.out⟩
            case round =>
              clear Hall
              obtain ⟨j, q', hjk, hj0, rfl, hiq', hqn', hej, seen', f', hinv, hexp, hq⟩ := hrel
              have c1 : wr.cell? ⟨b0, x + 1, none⟩ = some (.int .i64 (G.st (x + 1) : Int)) := by rw [hq.below.cell (p := ⟨b0, x + 1, none⟩) hlt0]; exact Hcst.out (x + 1) (by omega)
              have hx1i : (x : Int) + 1 < (N : Int) + 1 := by omega
              have Hqn := hide hqn'
              clear hqn'
              by_cases hlt3 : j < G.st (x + 1)
              · have hji : (j : Int) < (G.st (x + 1) : Int) := by omega
                have hjM : j < z1.length := by omega
                have hjMi : (j : Int) < (z1.length : Int) := by omega
                obtain ⟨b1, o1, rfl, hb1, cto⟩ := Hcto.out j hjM
                obtain ⟨b2, o2, rfl, hb2, ckd⟩ := Hckd.out j hjM
                rw [← hq.below.cell (p := ⟨b1, o1 + j, none⟩) hb1] at cto
                rw [← hq.below.cell (p := ⟨b2, o2 + j, none⟩) hb2] at ckd
                have hvN : G.to j < N := by have := Hval.out.ends j (by rw [HGM.out]; exact hjM); rw [HGN.out] at this; exact this
                have hkd1 := Hkd.out j
                have K34 := hide (keep_any (wr := wr) (bc := bc) (N := N) (cmp := cmp) (fun v hv => by rw [hq.below.cell (p := ⟨bc, v, none⟩) Hc.out.lt]; exact Hc.out.cellTab hv) hxN hvN hkd1 hmo hNs)
                have hkp : A.kp x j = (decide ((z2.getD j 0).toNat ≤ most) && decide (cmp x = cmp (G.to j))) := by rw [HAk.out, Hok.out]
                rw [← hkp] at K34
                have hsu : A.su j = G.to j := by rw [HAu.out]
                have hcv : A.kp x j = true → A.cmp (G.to j) = c := fun hk => by
                  rw [hkp, Bool.and_eq_true, decide_eq_true_eq, decide_eq_true_eq] at hk
                  have := Hxc.out
                  rw [HAc.out] at this ⊢
                  omega
                have Hcv := hide hcv
                have Hsu := hide hsu
                have Hej := hide hej
                have Hinv := hide hinv
                have Hexp := hide hexp
                have Hq := hide hq
                clear hkp hcv hsu hej hinv hexp hq
                generalize hm : G.to j = m at cto hvN K34 Hcv Hsu
                generalize hd : (z2.getD j 0).toNat = kd at ckd hkd1 K34
                clear hm hd
                have hmi : (m : Int) < (N : Int) := by omega
                go_wp2_with fail
                refine Calls.mono (Hid.out K34) ?_
                rintro e1 w2 ⟨rfl, k2, rfl⟩
                have hq2 := Hq.out.drewN k2
                clear K34 Hq cto ckd c1
                generalize wr.drewN k2 = w2 at hq2
                have hvA : m < A.N := by rw [HAN.out]; exact hvN
                have cb : w2.cell? ⟨w.heap.size, m, none⟩ = some (.bool (seen' m)) := hq2.r2.cellTab hvA
                have fb := hq2.r2.frozen m
                have Hq2 := hide hq2
                clear hq2
                cases hkp : A.kp x j with
                | false =>
                  have Hall : Hid (FRel w A w.heap.size (w.heap.size + 1) bc w.heap.size c r i u15 q' w2) := hide ⟨_, _, Hinv.out, Hexp.out, Hq2.out⟩
                  have Hnx := hide (Hej.out.next (fun h => by rw [hkp] at h; cases h))
                  clear hkp
                  go_wp2
                  go_roundg (gk - 1)
                  case measure => omega
                  case rel => exact ⟨j + 1, q', by omega, by omega, by go_num, hiq', Hqn.out, Hnx.out, Hall.out⟩
                | true =>
                  have hmc := Hcv.out hkp
                  have Hkp := hide hkp
                  clear hkp
                  cases hsn : seen' m with
                  | true =>
                    have Hall : Hid (FRel w A w.heap.size (w.heap.size + 1) bc w.heap.size c r i u15 q' w2) := hide ⟨_, _, Hinv.out, Hexp.out, Hq2.out⟩
                    have Hnx := hide (Hej.out.next (fun _ => by rw [Hsu.out]; exact (Hinv.out.mid m hvA hmc).1 hsn))
                    rw [hsn] at cb
                    clear hsn hmc
                    go_wp2
                    go_roundg (gk - 1)
                    case measure => omega
                    case rel => exact ⟨j + 1, q', by omega, by omega, by go_num, hiq', Hqn.out, Hnx.out, Hall.out⟩
                  | false =>
                    rw [hsn] at cb
                    have Hadd := hide (Hinv.out.add hvA hmc hsn)
                    have Hexp2 := hide (Hexp.out.add (m := m) (by omega))
                    have Hnx := hide (Tj.ExpJ.next (Hej.out.add (m := m)) (fun _ => by rw [Hsu.out]; simp))
                    have hql : q'.length ≤ N := by have := Hinv.out.len; rw [HAN.out] at this; exact this
                    have hq3 := Hq2.out.sn_ (Nat.le_refl _) m true
                    clear hsn hmc Hq2
                    go_upto_region 21 with fail
                    clear cb fb
                    generalize w2.setCell ⟨w.heap.size, m, none⟩ (.bool true) = w3 at hq3
                    have Hq5 := hide hq3
                    clear hq3
                    obtain ⟨az, cz, rfl⟩ : ∃ a c, u15 = .slice a q'.length c := owns_form Hq5.out.oQ
                    obtain ⟨i0, hi, hz0, hz1, hz2⟩ := info_parts Try.inf3
                    have hnb : (w3.alloc (.cells #[.int .i64 (m : Int)] 3)).heap[w3.heap.size]? = some (.cells #[.int .i64 (m : Int)] 3 (0, 0)) := heap_alloc_new _ _
                    have Hnb := hide hnb
                    have hroom := Hq5.out.room
                    have Hq6 := hide (Hq5.out.alloc (.cells #[.int .i64 (m : Int)] 3))
                    clear hnb Hq5
                    go_wp2_with (at_builtin; refine wpList_append_lies (w3.alloc (.cells #[.int .i64 (m : Int)] 3)) (by rfl) _ _ 22 (by rfl) (w.heap.size + 1) 3 i0 (.int .i64 0) 1 8 Try.underlying22 hi hz0 hz1 hz2 rfl (by decide) (.slice az q'.length cz) q'.length _ (by rfl) Hq6.out.oQ ⟨w3.heap.size, 0, none⟩ 1 1 [.int .i64 (m : Int)] (by rfl) rfl (World.news_of_block Hnb.out) (by simp [Value.oneCell']) (by omega) (by unfold maxLen; omega) (by omega) (by simp; omega) (w3.heap.size + 1) (by simp) ?_; intro g4 cap4 w6 hown6 hgrow6 hloc6 hglt6; have Hq7 := hide (Hq6.out.push (n := m) hgrow6 hown6); clear hown6 hgrow6 hloc6 hglt6)
                    clear Hq6 Hnb hi hz0 hz1 hz2
                    have Hall : Hid (FRel w A w.heap.size (w.heap.size + 1) bc w.heap.size c r i (.slice (some ⟨g4, 0, none⟩) (q'.length + 1) cap4) (q' ++ [m]) w6) := hide ⟨_, _, Hadd.out, Hexp2.out, Hq7.out⟩
                    have Hqn2 : Hid ((q' ++ [m]).getD i 0 = x) := hide (by rw [Tj.getD_app hiq']; exact Hqn.out)
                    clear Hq7
                    go_roundg (gk - 1)
                    case measure => omega
                    case rel => exact ⟨j + 1, q' ++ [m], by omega, by omega, by go_num, by simp; omega, Hqn2.out, Hnx.out, Hall.out⟩
              · have hji : ¬ ((j : Int) < (G.st (x + 1) : Int)) := by omega
                have Hall : Hid (FRel w A w.heap.size (w.heap.size + 1) bc w.heap.size c r (i + 1) u15 q' wr) := hide ⟨_, _, hinv, hexp.next (by rw [Hqn.out]; exact hej) (by rw [Hqn.out, HAs.out]; omega), hq⟩
                have hql : q'.length ≤ N := by have := hinv.len; rw [HAN.out] at this; exact this
                clear hinv hexp hq hej
                go_wp2
                go_roundg (N - i - 1)
                case measure => omega
                case rel => exact ⟨i + 1, q', by omega, by go_num, by omega, Hall.out⟩
          · have hli : ¬ ((i : Int) < (q.length : Int)) := by omega
            have hie : i = q.length := by omega
            have Hfin := hide (hinv.finish Hro.out.stay (by rw [hie] at hexp; exact hexp) (fun v hv hcv => by
              have := Hro.out.all v hv
              rw [hcv, Hre.out] at this
              exact this))
            have Hq := hide hq
            obtain ⟨az, cz, rfl⟩ : ∃ a c, u15 = .slice a q.length c := owns_form hq.oQ
            clear hinv hexp hq hie
            go_wp2
            go_roundg (K - c - 1)
            case measure => omega
            case rel => exact ⟨c + 1, by omega, by go_num, q, seen, f, Hfin.out, Hq.out⟩
    · have hci : ¬ ((c : Int) < (K : Int)) := by omega
      have hall : ∀ v, v < N → wr.cell? ⟨w.heap.size, v, none⟩ = some (.bool true) := fun v hv => by
        have hvA : v < A.N := by rw [HAN.out]; exact hv
        have h1 := hq.r2.cellTab hvA
        rw [hsn v hvA, decide_eq_true (by have := Hro.out.stay.lt v hvA; rw [HAK.out] at this; omega)] at h1
        exact h1
      have Hcells := hide hall
      have Hb := hide hq.below
      clear hq hsn hall
      rename World => wb
      go_wp2
      go_loopw [22] (fun i wr => ∃ k : Nat, k ≤ N ∧ i = .int .i64 k ∧ wr = wb) (fun i _ => N - (intOf i).toNat)
      case atStart => exact ⟨0, Nat.zero_le _, rfl, rfl⟩
      case round =>
        obtain ⟨k, hk, rfl, rfl⟩ := hrel
        by_cases hkn : k < N
        · have hki : (k : Int) < (N : Int) := by omega
          have hcc := Hcells.out k hkn
          go_wp2
          go_roundw
          case rel => exact ⟨k + 1, by omega, by go_num, trivial⟩
          case measure => simp [intOf]; omega
        · have hki : ¬ ((k : Int) < (N : Int)) := by omega
          go_wp2
          go_ret
          exact ⟨rfl, Hb.out⟩
end Go.Proofs.Qxb6602044a
