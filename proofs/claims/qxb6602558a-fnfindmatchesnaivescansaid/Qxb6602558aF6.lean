/-
  naiveFindB1.
-/
import Derived.Test.Qxb6602558aF5
import Derived.Deep.LoopGhost
import Derived.Deep.RegionWith
import Derived.Deep.RegionLaw
namespace Go.Proofs.Qxb6602558a
open Go.RowKit
set_option linter.unusedVariables false

theorem Try.nfo37 : (Try.prog.info? 37).map (fun i => (i.zero, i.size, i.bytes)) = some (some (.slice none 0 0), 1, 24) := by kernel_rfl
theorem Try.nfo22 : (Try.prog.info? 22).map (fun i => (i.zero, i.size, i.bytes)) = some (some (.slice none 0 0), 1, 24) := by kernel_rfl

theorem mk_rowsI (n : Nat) (hn : n ≤ 1048576) (w : World) : (Instr.makeSlice 29 (.int .i64 (n : Int)) (.int .i64 (n : Int))).run Try.prog w =
    .ok (.slice (some ⟨w.heap.size, 0, none⟩) n n) (w.alloc (.cells (List.replicate n (.slice none 0 0)).toArray 37)) := by
  obtain ⟨i0, hi, hz0, hz1, hz2⟩ := info_parts Try.nfo37
  have h := run_make (P := Try.prog) w 29 37 i0 _ Try.underlying29 hi hz0 .i64 .i64 (n : Int) (n : Int) (by omega) (Int.le_refl _) (by rw [hz2]; omega) (by omega)
  rw [h, hz1, Nat.mul_one, Int.toNat_natCast, madeCells_replicate _ _ rfl]

theorem mk_rowsB (n : Nat) (hn : n ≤ 1048576) (w : World) : (Instr.makeSlice 41 (.int .i64 (n : Int)) (.int .i64 (n : Int))).run Try.prog w =
    .ok (.slice (some ⟨w.heap.size, 0, none⟩) n n) (w.alloc (.cells (List.replicate n (.slice none 0 0)).toArray 22)) := by
  obtain ⟨i0, hi, hz0, hz1, hz2⟩ := info_parts Try.nfo22
  have h := run_make (P := Try.prog) w 41 22 i0 _ Try.underlying41 hi hz0 .i64 .i64 (n : Int) (n : Int) (by omega) (Int.le_refl _) (by rw [hz2]; omega) (by omega)
  rw [h, hz1, Nat.mul_one, Int.toNat_natCast, madeCells_replicate _ _ rfl]

/-- what the naive scan hands back -/
def NaiveOut (w : World) (J : Job) (e : Ending) (w' : World) : Prop :=
  ∃ V, e = .returned (.tuple #[.slice (some ⟨w.heap.size, 0, none⟩) J.L J.L, .slice (some ⟨w.heap.size + 1, 0, none⟩) J.L J.L]) ∧ NMem w w' w.heap.size J.L V (J.nP J.T.size)

theorem naive_init (w : World) (L : Nat) : NMem w ((w.alloc (.cells (List.replicate L (.slice none 0 0)).toArray 37)).alloc (.cells (List.replicate L (.slice none 0 0)).toArray 22)) w.heap.size L (fun _ => .slice none 0 0) (fun _ => []) := by
  refine ⟨?_, ?_, ⟨fun i _ => World.ownsRow_nil _ _ _ _, fun i j _ _ _ g h => by simp [Value.ownBlock] at h⟩, ?_, by simp⟩
  · exact (row_at rfl (by rw [tab_replicate])).alloc _
  · exact row_at (by simp) (by rw [tab_replicate])
  · exact ((Below.refl _ _).alloc (Nat.le_refl _) _).alloc (by simp) _

def ok1 (T : ByteArray) (S : Option (Nat → Bool)) (p : Nat) : Prop := ∀ f, S = some f → p = 0 ∨ f (byteAt T (p - 1)) = true
def ok2 (T : ByteArray) (S : Option (Nat → Bool)) (e : Nat) : Prop := ∀ f, S = some f → e < T.size ∧ f (byteAt T e) = true

set_option maxRecDepth 100000 in
set_option maxHeartbeats 4000000 in
theorem naive_any {w : World} {J : Job} {aA aL aN aB aF : Option Addr} {cA cL cN cB cF : Nat} (h : InMem w J aA aL aN aB aF) :
    Calls Try.prog 20 #[.slice aA J.nA cA, .slice aL J.nA cL, .slice aN J.nA cN, .int .i64 (J.L : Int), .slice aB J.L cB, .slice aF J.L cF, .string J.T] w (NaiveOut w J) := by
  have H := hide h
  obtain ⟨hT, hL, hA⟩ := And.intro h.ok.text (And.intro h.ok.lists h.ok.ancs)
  have hm1 := mk_rowsI J.L (by omega)
  have hm2 := mk_rowsB J.L (by omega)
  have Hn0 := hide (naive_init w J.L)
  clear h
  go_enter Try.func20, Try.ntmps20
  go_wp2
  clear hm1 hm2
  go_loopg [18] J.T.size (fun k i wr => ∃ p : Nat, p + k = J.T.size ∧ i = .int .i64 (p : Int) ∧ ∃ V, NMem w wr w.heap.size J.L V (J.nP p))
  case atStart => exact ⟨0, by omega, rfl, _, Hn0.out⟩
  case round =>
    clear Hn0
    obtain ⟨p, hpk, rfl, V, hm⟩ := hrel
    by_cases hp : p < J.T.size
    · have hpi : (p : Int) < (J.T.size : Int) := by omega
      have Hm := hide hm
      clear hm
      go_wp2
      go_loopg [19] J.nA (fun kk i wr => ∃ k : Nat, k + kk = J.nA ∧ i = .int .i64 (k : Int) ∧ ∃ V, NMem w wr w.heap.size J.L V (J.nK p (J.nP p) k))
      case atStart => exact ⟨0, by omega, rfl, V, Hm.out⟩
      case round =>
        clear Hm V
        obtain ⟨k, hkk, rfl, V, hm⟩ := hrel
        by_cases hk : k < J.nA
        · have hki : (k : Int) < (J.nA : Int) := by omega
          obtain ⟨bA, oA, rfl, hbA, cA1⟩ := H.out.anc k hk
          rw [← hm.below.cell (p := ⟨bA, oA + k, none⟩) hbA] at cA1
          have hsz := H.out.ok.small k hk
          have K27 := hide (sameAt_any wr J.T (J.A k) p hT hsz (by omega))
          have Hm := hide hm
          clear hm
          obtain ⟨a, Ha⟩ : ∃ a, Hid (J.A k = a) := ⟨_, hide rfl⟩
          rw [Ha.out] at cA1 K27 hsz
          go_wp2_with fail
          refine Calls.mono (Hid.out K27) ?_
          rintro e1 w1 ⟨b, rfl, hb, k1, rfl⟩
          have hm1 := Hm.out.drewN k1
          clear K27 cA1 Hm
          generalize wr.drewN k1 = w1 at hm1
          cases b with
          | false =>
            have hno : ¬ At J.T p (J.A k) := by rw [Ha.out]; exact fun hh => by have := hb.2 hh; cases this
            have Hm : Hid (NMem w w1 w.heap.size J.L V (J.nK p (J.nP p) (k + 1))) := hide (by rw [Job.nK_no hno]; exact hm1)
            clear hm1 hb hno
            go_wp2
            go_roundg (J.nA - k - 1)
            case measure => omega
            case rel => exact ⟨k + 1, by omega, by go_num, V, Hm.out⟩
          | true =>
            have hat : At J.T p a := hb.1 rfl
            have hsum : p + a.size ≤ J.T.size := hat.1
            have Hat := hide (show At J.T p (J.A k) by rw [Ha.out]; exact hat)
            have hnk := H.out.rows k hk
            have Hm := hide hm1
            obtain ⟨en, Hen⟩ : ∃ en, Hid (p + a.size = en) := ⟨_, hide rfl⟩
            rw [Hen.out] at hsum
            have heE : (p : Int) + (a.size : Int) = (en : Int) := by have := Hen.out; omega
            clear hm1 hb hat
            go_wp2
            try rw [heE]
            clear heE
            go_loopg [22] (J.n k) (fun kj i wr => ∃ j : Nat, j + kj = J.n k ∧ i = .int .i64 (j : Int) ∧ ∃ V, NMem w wr w.heap.size J.L V (J.hit p k (J.nK p (J.nP p) k) j))
            case atStart => exact ⟨0, by omega, rfl, V, Hm.out⟩
            case round =>
              clear Hm V
              obtain ⟨j, hjk, rfl, V, hm⟩ := hrel
              obtain ⟨bL, oL, rfl, hbL, aj, cj, cL1, hrow⟩ := H.out.row k hk
              rw [← hm.below.cell (p := ⟨bL, oL + k, none⟩) hbL] at cL1
              by_cases hj : j < J.n k
              · have hji : (j : Int) < (J.n k : Int) := by omega
                obtain ⟨bj, oj, rfl, hbj, cj1⟩ := hrow j hj
                rw [← hm.below.cell (p := ⟨bj, oj + j, none⟩) hbj] at cj1
                have hl := H.out.ok.list k j hk hj
                obtain ⟨bB, oB, rfl, hbB, vb, cB1, hset1⟩ := H.out.bef _ hl
                obtain ⟨bF, oF, rfl, hbF, va, cF1, hset2⟩ := H.out.aft _ hl
                obtain ⟨bN, oN, rfl, hbN, an, cn, cN1, hnum⟩ := H.out.num k hk
                obtain ⟨bn, on, rfl, hbn, cn1⟩ := hnum j hj
                rw [← hm.below.cell (p := ⟨bB, oB + J.il k j, none⟩) hbB] at cB1
                replace hset1 := hset1.below hm.below
                have Hset2 := hide (And.intro hbF (And.intro cF1 hset2))
                have Hnum := hide (And.intro hbN (And.intro cN1 (And.intro hbn cn1)))
                have hkeep : J.keeps p k j ↔ ok1 J.T (J.S1 (J.il k j)) p ∧ ok2 J.T (J.S2 (J.il k j)) (p + (J.A k).size) := Iff.rfl
                rw [Ha.out, Hen.out] at hkeep
                have hlen := J.mid_len hp hk (Nat.le_of_lt hj) H.out.work
                have Hkeep := hide hkeep
                have Hlen := hide hlen
                have Hm := hide hm
                clear hm hrow hnum cN1 cn1 cF1 hset2 hkeep hlen
                obtain ⟨l, Hl⟩ : ∃ l, Hid (J.il k j = l) := ⟨_, hide rfl⟩
                rw [Hl.out] at cj1 cB1 hl hset1 Hset2 Hkeep
                have hli : (l : Int) < (J.L : Int) := by omega
                go_upto_region 17 with fail
                go_cut [91] (fun v wx => ∃ b1 : Bool, v = .bool b1 ∧ (b1 = true ↔ ¬ ok1 J.T (J.S1 l) p) ∧ ∃ n, wx = wr.drewN n)
                case first =>
                  clear cB1 cL1 cj1
                  rcases hset1 with ⟨rfl, hS⟩ | ⟨b1, o1, f1, rfl, hS, hb1, hc1⟩
                  · have Hok : Hid (ok1 J.T (J.S1 l) p) := hide (fun f hf => by rw [hS] at hf; cases hf)
                    clear hS
                    go_quiet (fail)
                    go_wp2_with fail
                    go_meet
                    exact ⟨false, rfl, ⟨fun h => (by cases h), fun h => absurd Hok.out h⟩, _, rfl⟩
                  · by_cases hp0 : p = 0
                    · have Hok : Hid (ok1 J.T (J.S1 l) p) := hide (fun f hf => .inl hp0)
                      have hd : decide ((0 : Int) < (p : Int)) = false := decide_eq_false (by omega)
                      have hd2 : decide (0 < p) = false := decide_eq_false (by omega)
                      clear hS hp0 hc1
                      go_quiet (fail)
                      go_wp2_with fail
                      go_meet
                      exact ⟨false, rfl, ⟨fun h => (by cases h), fun h => absurd Hok.out h⟩, _, rfl⟩
                    · have hd : decide ((0 : Int) < (p : Int)) = true := decide_eq_true (by omega)
                      have hd2 : decide (0 < p) = true := decide_eq_true (by omega)
                      obtain ⟨m, Hmm⟩ : ∃ m, Hid (p - 1 = m) := ⟨_, hide rfl⟩
                      have hmT : m < J.T.size := by have := Hmm.out; omega
                      have hmi : (m : Int) < (J.T.size : Int) := by omega
                      have hwr : IntKind.i64.wrap ((p : Int) - 1) = (m : Int) := by rw [IntKind.wrap_i64]; have := Hmm.out; omega
                      have hbm := byteAt_in hmT
                      have hlt8 := byteAt_lt J.T m
                      rw [hbm] at hlt8
                      have hlt8i : (J.T[m].toNat : Int) < 256 := by omega
                      have cs := hc1 (byteAt J.T m) (byteAt_lt J.T m)
                      cases hf1 : f1 (byteAt J.T m) with
                      | true =>
                        have Hok : Hid (ok1 J.T (J.S1 l) p) := hide (fun f hf => by rw [hS] at hf; injection hf with hf; subst hf; rw [Hmm.out]; exact .inr hf1)
                        rw [hf1, hbm] at cs
                        clear hS hp0 hc1 hf1 hbm
                        go_quiet (fail)
                        go_wp2_with fail
                        go_meet
                        exact ⟨false, rfl, ⟨fun h => (by cases h), fun h => absurd Hok.out h⟩, _, rfl⟩
                      | false =>
                        have Hok : Hid (¬ ok1 J.T (J.S1 l) p) := hide (fun h => by
                          rcases h f1 hS with h | h
                          · exact hp0 h
                          · rw [Hmm.out, hf1] at h; cases h)
                        rw [hf1, hbm] at cs
                        clear hS hp0 hc1 hf1 hbm
                        go_quiet (fail)
                        go_wp2_with fail
                        go_meet
                        exact ⟨true, rfl, ⟨fun _ => Hok.out, fun _ => rfl⟩, _, rfl⟩
                case rest =>
                  obtain ⟨b1, rfl, hb1, n1, rfl⟩ := hcut
                  have hm2 := Hm.out.drewN n1
                  clear Hm hset1 cB1 cL1 cj1
                  generalize wr.drewN n1 = w2 at hm2
                  cases b1 with
                  | true =>
                    have hno : ¬ J.keeps p k j := fun hh => hb1.1 rfl (Hkeep.out.1 hh).1
                    have Hm : Hid (NMem w w2 w.heap.size J.L V (J.hit p k (J.nK p (J.nP p) k) (j + 1))) := hide (by rw [Job.hit_no hno]; exact hm2)
                    clear hm2 hno hb1
                    go_wp2
                    go_roundg (J.n k - j - 1)
                    case measure => omega
                    case rel => exact ⟨j + 1, by omega, by go_num, V, Hm.out⟩
                  | false =>
                    have Hok1 := hide (show ok1 J.T (J.S1 l) p from Classical.byContradiction fun hn => by have := hb1.2 hn; cases this)
                    obtain ⟨hbF, cF1, hset2⟩ := Hset2.out
                    rw [← hm2.below.cell (p := ⟨bF, oF + l, none⟩) hbF] at cF1
                    replace hset2 := hset2.below hm2.below
                    have Hm := hide hm2
                    clear hm2 hb1
                    go_upto_region 19 with fail
                    go_cut [113] (fun v wx => ∃ b1 : Bool, v = .bool b1 ∧ (b1 = true ↔ ¬ ok2 J.T (J.S2 l) en) ∧ ∃ n, wx = w2.drewN n)
                    case first =>
                      clear cF1
                      rcases hset2 with ⟨rfl, hS⟩ | ⟨b2, o2, f2, rfl, hS, hb2, hc2⟩
                      · have Hok : Hid (ok2 J.T (J.S2 l) en) := hide (fun f hf => by rw [hS] at hf; cases hf)
                        clear hS
                        go_quiet (fail)
                        go_wp2_with fail
                        go_meet
                        exact ⟨false, rfl, ⟨fun h => (by cases h), fun h => absurd Hok.out h⟩, _, rfl⟩
                      · by_cases he : en = J.T.size
                        · have Hok : Hid (¬ ok2 J.T (J.S2 l) en) := hide (fun h => by have := (h f2 hS).1; omega)
                          have hd : ((en : Int) == (J.T.size : Int)) = true := beq_iff_eq.2 (by omega)
                          clear hS he hc2
                          go_quiet (fail)
                          go_wp2_with fail
                          go_meet
                          exact ⟨true, rfl, ⟨fun _ => Hok.out, fun _ => rfl⟩, _, rfl⟩
                        · have hd : ((en : Int) == (J.T.size : Int)) = false := beq_eq_false_iff_ne.2 (by omega)
                          have heT : en < J.T.size := by omega
                          have hbe := byteAt_in heT
                          have hlt8 := byteAt_lt J.T en
                          rw [hbe] at hlt8
                          have hlt8i : (J.T[en].toNat : Int) < 256 := by omega
                          have cs := hc2 (byteAt J.T en) (byteAt_lt J.T en)
                          have hein : (en : Int) < (J.T.size : Int) := by omega
                          cases hf2 : f2 (byteAt J.T en) with
                          | true =>
                            have Hok : Hid (ok2 J.T (J.S2 l) en) := hide (fun f hf => by rw [hS] at hf; injection hf with hf; subst hf; exact ⟨heT, hf2⟩)
                            rw [hf2, hbe] at cs
                            clear hS he hc2 hf2 hbe
                            go_quiet (fail)
                            go_wp2_with fail
                            go_meet
                            exact ⟨false, rfl, ⟨fun h => (by cases h), fun h => absurd Hok.out h⟩, _, rfl⟩
                          | false =>
                            have Hok : Hid (¬ ok2 J.T (J.S2 l) en) := hide (fun h => by have := (h f2 hS).2; rw [hf2] at this; cases this)
                            rw [hf2, hbe] at cs
                            clear hS he hc2 hf2 hbe
                            go_quiet (fail)
                            go_wp2_with fail
                            go_meet
                            exact ⟨true, rfl, ⟨fun _ => Hok.out, fun _ => rfl⟩, _, rfl⟩
                    case rest =>
                      obtain ⟨b2, rfl, hb2, n2, rfl⟩ := hcut
                      have hm3 := Hm.out.drewN n2
                      clear Hm hset2 cF1
                      generalize w2.drewN n2 = w3 at hm3
                      cases b2 with
                      | true =>
                        have hno : ¬ J.keeps p k j := fun hh => hb2.1 rfl (Hkeep.out.1 hh).2
                        have Hm : Hid (NMem w w3 w.heap.size J.L V (J.hit p k (J.nK p (J.nP p) k) (j + 1))) := hide (by rw [Job.hit_no hno]; exact hm3)
                        clear hm3 hno hb2
                        go_wp2
                        go_roundg (J.n k - j - 1)
                        case measure => omega
                        case rel => exact ⟨j + 1, by omega, by go_num, V, Hm.out⟩
                      | false =>
                        have hyes : J.keeps p k j := Hkeep.out.2 ⟨Hok1.out, Classical.byContradiction fun hn => by have := hb2.2 hn; cases this⟩
                        have Hyes := hide (Job.hit_yes (X := J.nK p (J.nP p) k) hyes)
                        rw [Hl.out] at Hyes
                        clear hb2 hyes
                        generalize J.hit p k (J.nK p (J.nP p) k) j = X at hm3 Hyes Hlen
                        have hlen1 : (X (2 * l)).length ≤ 16777216 := Hlen.out _
                        have hlen2 : (X (2 * l + 1)).length ≤ 16777216 := Hlen.out _
                        obtain ⟨a3, c3, hV3⟩ : ∃ a c, V (2 * l) = .slice a (X (2 * l)).length c := owns_form (hm3.fam.own (2 * l) (by omega))
                        have cS : w3.cell? ⟨w.heap.size, l, none⟩ = some (.slice a3 (X (2 * l)).length c3) := by rw [← hV3]; exact hm3.s.cellTab hl
                        obtain ⟨i0, hi, hz0, hz1, hz2⟩ := info_parts Try.nfo3
                        have hnb : (w3.alloc (.cells #[.int .i64 (p : Int)] 3)).heap[w3.heap.size]? = some (.cells #[.int .i64 (p : Int)] 3 (0, 0)) := heap_alloc_new _ _
                        have Hnb := hide hnb
                        have hroom := hm3.room
                        have Hm4 := hide (hm3.alloc (.cells #[.int .i64 (p : Int)] 3))
                        have Hown := hide (show (w3.alloc (.cells #[.int .i64 (p : Int)] 3)).ownsRow (w.heap.size + 2) 3 1 (.slice a3 (X (2 * l)).length c3) (X (2 * l)).length (X (2 * l)) by
                          have := Hm4.out.fam.own (2 * l) (by omega); rw [hV3, ety_even] at this; exact this)
                        have HV3 := hide hV3
                        clear hnb hm3 hV3
                        go_upto_region 21 with (at_builtin; refine wpList_append_lies (w3.alloc (.cells #[.int .i64 (p : Int)] 3)) (by rfl) _ _ 37 (by rfl) (w.heap.size + 2) 3 i0 (.int .i64 0) 1 8 Try.underlying37 hi hz0 hz1 hz2 rfl (by decide) (.slice a3 (X (2 * l)).length c3) (X (2 * l)).length _ (by rfl) Hown.out ⟨w3.heap.size, 0, none⟩ 1 1 [.int .i64 (p : Int)] (by rfl) rfl (World.news_of_block Hnb.out) (by simp [Value.oneCell']) (by omega) (by unfold maxLen; omega) (by omega) (by simp; omega) (w3.heap.size + 1) (by simp) ?_; intro g cap w4 hown4 hgrow4 hloc4 hglt4; have hrS := hide (NMem.keepS Hm4.out (i := 2 * l) (by omega) (by rw [HV3.out]; exact hgrow4)); have d1 := hrS.out.1.cellTab hl; have e1 := hrS.out.1.frozen l; have Hp := hide (Hm4.out.start (x := nv p) hl (by rw [HV3.out]; exact hgrow4) hown4 (by rw [HV3.out]; rcases hloc4 with q | q; exact .inl q; exact .inr (by simp; omega))); clear hown4 hgrow4 hloc4 hglt4 hrS)
                        have hm5 := Hp.out
                        clear d1 e1 Hp Hm4 Hnb cS hi hz0 hz1 hz2 Hown HV3
                        generalize w4.setCell ⟨w.heap.size, l, none⟩ (.slice (some ⟨g, 0, none⟩) ((X (2 * l)).length + 1) cap) = w5 at hm5
                        have hV5 : (upd V (2 * l) (.slice (some ⟨g, 0, none⟩) ((X (2 * l)).length + 1) cap)) (2 * l + 1) = V (2 * l + 1) := upd_other _ _ (by omega)
                        have hX5 : (upd X (2 * l) (X (2 * l) ++ [nv p])) (2 * l + 1) = X (2 * l + 1) := upd_other _ _ (by omega)
                        obtain ⟨a5, c5, hV⟩ : ∃ a c, V (2 * l + 1) = .slice a (X (2 * l + 1)).length c := owns_form (by have := hm5.fam.own (2 * l + 1) (by omega); rw [hV5, hX5] at this; exact this)
                        have cP : w5.cell? ⟨w.heap.size + 1, l, none⟩ = some (.slice a5 (X (2 * l + 1)).length c5) := by
                          have := hm5.p.cellTab hl
                          rw [hV5, hV] at this
                          exact this
                        obtain ⟨hbN, cN1, hbn, cn1⟩ := Hnum.out
                        rw [← hm5.below.cell (p := ⟨bN, oN + k, none⟩) hbN] at cN1
                        rw [← hm5.below.cell (p := ⟨bn, on + j, none⟩) hbn] at cn1
                        have hbN5 : bN < w5.heap.size := Nat.lt_of_lt_of_le hbN hm5.below.size
                        have hbn5 : bn < w5.heap.size := Nat.lt_of_lt_of_le hbn hm5.below.size
                        have hroom5 := hm5.room
                        generalize J.ia k j = z at cn1 Hyes
                        obtain ⟨x, Hx⟩ : ∃ x, Hid (IntKind.u8.wrap z = x) := ⟨_, hide rfl⟩
                        have hwx : IntKind.u8.wrap z = x := Hx.out
                        have hA : ∀ q : Addr, q.block < w5.heap.size → (w5.alloc (.cells #[.int .u8 x] 5)).drew.cell? q = w5.cell? q := fun q hq =>
                          (((Below.refl w5.heap.size w5).alloc (Nat.le_refl _) _).drew.cell hq)
                        have aP := (hA ⟨w.heap.size + 1, l, none⟩ (by show w.heap.size + 1 < _; omega)).trans cP
                        have aN := (hA ⟨bN, oN + k, none⟩ hbN5).trans cN1
                        have an1 := (hA ⟨bn, on + j, none⟩ hbn5).trans cn1
                        have Hm6 := hide ((hm5.alloc (.cells #[.int .u8 x] 5)).grown (grownBy_drew _ _))
                        have Hown := hide (show (w5.alloc (.cells #[.int .u8 x] 5)).drew.ownsRow (w.heap.size + 2) 5 1 (.slice a5 (X (2 * l + 1)).length c5) (X (2 * l + 1)).length (X (2 * l + 1)) by
                          have := Hm6.out.fam.own (2 * l + 1) (by omega)
                          rw [hV5, hX5, hV, ety_odd] at this
                          exact this)
                        obtain ⟨i0, hi, hz0, hz1, hz2⟩ := info_parts Try.nfo5
                        have hnb : (w5.alloc (.cells #[.int .u8 x] 5)).drew.heap[w5.heap.size]? = some (.cells #[.int .u8 x] 5 (0, 0)) := heap_alloc_new _ _
                        have hs6 : (w5.alloc (.cells #[.int .u8 x] 5)).drew.heap.size = w5.heap.size + 1 := by simp [World.drew]
                        have Hnb := hide hnb
                        have HV := hide (And.intro hV5 (And.intro hX5 hV))
                        have hnki : (j : Int) < (J.n k : Int) := by omega
                        clear hm5 hA hnb hV5 hX5 hV
                        go_region_law (refine step_append_lies ((w5.alloc (.cells #[.int .u8 x] 5)).drew) rfl (.tmp 129) (.tmp 138) 22 rfl (w.heap.size + 2) 5 i0 (.int .u8 0) 1 1 Try.underlying22 hi hz0 hz1 hz2 rfl (by decide) (.slice a5 (X (2 * l + 1)).length c5) (X (2 * l + 1)).length _ (by simp [Act.eval]) Hown.out ⟨w5.heap.size, 0, none⟩ 1 1 [.int .u8 x] (by simp [Act.eval]) rfl (World.news_of_block Hnb.out) (by simp [Value.oneCell']) (by omega) (by unfold maxLen; omega) (by omega) (by rw [hs6]; omega) (w5.heap.size + 1) hs6 ?_; intro g7 cap7 w7 hown7 hgrow7 hloc7 hglt7; have hrS := hide (NMem.keepS Hm6.out (i := 2 * l + 1) (by omega) (by rw [HV.out.1, HV.out.2.2]; exact hgrow7)); have d1 := hrS.out.2.cellTab hl; have e1 := hrS.out.2.frozen l; have Hp := hide (Hm6.out.place (x := .int .u8 x) (g := g7) (cap := cap7) hl (by rw [HV.out.1, HV.out.2.2]; exact hgrow7) (by rw [HV.out.2.1]; exact hown7) (by rw [HV.out.1, HV.out.2.2]; rcases hloc7 with q | q; exact .inl q; exact .inr (by rw [hs6]; omega))); clear hown7 hgrow7 hloc7 hglt7 hrS)
                        all_goals
                          have Hfin : Hid (∃ V', NMem w (w7.setCell ⟨w.heap.size + 1, l, none⟩ (.slice (some ⟨g7, 0, none⟩) ((X (2 * l + 1)).length + 1) cap7)) w.heap.size J.L V' (J.hit p k (J.nK p (J.nP p) k) (j + 1))) := by
                            have h8 := Hp.out
                            rw [HV.out.2.1] at h8
                            rw [Hyes.out, Hx.out]
                            exact hide ⟨_, h8⟩
                          clear Hp d1 e1
                          go_wp2
                          go_roundg (J.n k - j - 1)
                          case measure => omega
                          case rel => exact ⟨j + 1, by omega, by go_num, Hfin.out⟩
              · have hji : ¬ ((j : Int) < (J.n k : Int)) := by omega
                have hje : j = J.n k := by omega
                have Hm : Hid (NMem w wr w.heap.size J.L V (J.nK p (J.nP p) (k + 1))) := hide (by rw [Job.nK_yes Hat.out, ← hje]; exact hm)
                clear hm hje hrow
                go_wp2
                go_roundg (J.nA - k - 1)
                case measure => omega
                case rel => exact ⟨k + 1, by omega, by go_num, V, Hm.out⟩
        · have hki : ¬ ((k : Int) < (J.nA : Int)) := by omega
          have hke : k = J.nA := by omega
          have Hm : Hid (NMem w wr w.heap.size J.L V (J.nP (p + 1))) := hide (by rw [hke] at hm; exact hm)
          clear hm hke
          go_wp2
          go_roundg (J.T.size - p - 1)
          case measure => omega
          case rel => exact ⟨p + 1, by omega, by go_num, V, Hm.out⟩
    · have hpi : ¬ ((p : Int) < (J.T.size : Int)) := by omega
      have hpe : p = J.T.size := by omega
      have Hfin : Hid (NaiveOut w J (.returned (.tuple #[.slice (some ⟨w.heap.size, 0, none⟩) J.L J.L, .slice (some ⟨w.heap.size + 1, 0, none⟩) J.L J.L])) wr) := hide ⟨V, rfl, by rw [hpe] at hm; exact hm⟩
      clear hm hpe
      go_wp2
      go_ret2
      exact Hfin.out
end Go.Proofs.Qxb6602558a
