/-
  THE WALK OF periods.
-/
import Derived.Test.Qxb6602044aQ1
import Derived.Deep.LoopGhost
import Derived.Deep.RegionWith
namespace Go.Proofs.Qxb6602044a
open Go.RowKit
set_option linter.unusedVariables false

/-- the world with g in its box -/
abbrev boxed (w : World) (bg : Nat) : World := w.alloc (.cells #[.pointer (some ⟨bg, 0, none⟩)] 50)

def Bfs (w : World) (bg : Nat) (G : Tj.Gr) (cmp : Nat → Nat) (z : Value) (q : List Nat) (wr : World) : Prop :=
  ∃ num nbd vis, Tj.NInv G cmp num nbd vis ∧ Q2 (boxed w bg) wr (w.heap.size + 1) (w.heap.size + 3) (w.heap.size + 1) (w.heap.size + 2) G.N num nbd z q ∧ q.Nodup ∧ ∀ v ∈ q, v ∈ vis

/-- what periods hands back -/
def PerOut (w : World) (G : Tj.Gr) (cmp : Nat → Nat) (K : Nat) (e : Ending) (w' : World) : Prop :=
  ∃ b num P, e = .returned (.slice (some ⟨b, 0, none⟩) K K) ∧ Row w' b 3 (Tab K (fun c => nv (if P c = 0 then 1 else P c))) ∧ Tj.PInv G cmp num P (fun _ _ => True) ∧ Below w.heap.size w w'

theorem bfs_init (w : World) (bg N : Nat) : Q2 (boxed w bg) (((boxed w bg).alloc (.cells (List.replicate N (.int .i64 0)).toArray 3)).alloc (.cells (List.replicate N (.bool false)).toArray 4)) (w.heap.size + 1) (w.heap.size + 3) (w.heap.size + 1) (w.heap.size + 2) N (fun _ => 0) (fun _ => false) (.slice none 0 0) [] := by
  refine ⟨?_, ?_, World.ownsRow_nil _ _ _ _, by omega, by omega, by omega, ?_, by omega, by simp⟩
  · exact (row_at (by simp) (by rw [tab_replicate]; rfl)).alloc _
  · exact row_at (by simp) (by rw [tab_replicate])
  · exact ((Below.refl _ _).alloc (by simp) _).alloc (by simp) _

theorem Q2.box {w wr : World} {bg base b1 b2 N : Nat} {num : Nat → Nat} {nbd : Nat → Bool} {vQ : Value} {q : List Nat} (h : Q2 (boxed w bg) wr (w.heap.size + 1) base b1 b2 N num nbd vQ q) :
    wr.cell? ⟨w.heap.size, 0, none⟩ = some (.pointer (some ⟨bg, 0, none⟩)) := by
  rw [h.below.cell (p := ⟨w.heap.size, 0, none⟩) (by show w.heap.size < _; omega), (Row.new w 50 [.pointer (some ⟨bg, 0, none⟩)]).cell 0]
  rfl

theorem Q2.under {w wr : World} {bg base b1 b2 N : Nat} {num : Nat → Nat} {nbd : Nat → Bool} {vQ : Value} {q : List Nat} (h : Q2 (boxed w bg) wr (w.heap.size + 1) base b1 b2 N num nbd vQ q) : Below w.heap.size w wr :=
  ((Below.refl w.heap.size w).alloc (Nat.le_refl _) _).trans (h.below.mono (by omega))

theorem gcd_int (w : World) (a : Nat) (y : Int) (ha : a ≤ 262146) (h0 : 0 ≤ y) (h1 : y ≤ 262146) : Calls Try.prog 45 #[.int .i64 (a : Int), .int .i64 y] w (ReadN w (Nat.gcd a y.natAbs)) := by
  obtain ⟨n, rfl⟩ : ∃ n : Nat, y = (n : Int) := ⟨y.toNat, by omega⟩
  exact gcd_any w a n ha (by omega)

set_option maxRecDepth 100000 in
set_option maxHeartbeats 4000000 in
theorem periods_any {w : World} {bg bst bs bc K : Nat} {G : Tj.Gr} {cmp : Nat → Nat} {kd : Nat → Nat} {most : Nat} {plain : Int} (hgm : GMem w bg bst bs G kd most plain) (hkd : ∀ i, kd i < 256)
    (hr : Row w bc 3 (Tab G.N (fun v => nv (cmp v)))) (hlt : ∀ v, v < G.N → cmp v < K) (hK : K ≤ 131072) :
    Calls Try.prog 36 #[.pointer (some ⟨bg, 0, none⟩), .slice (some ⟨bc, 0, none⟩) G.N G.N, .int .i64 (K : Int)] w (PerOut w G cmp K) := by
  have Hgm := hide hgm
  have hsm := hgm.small
  have Hr := hide hr
  have Hlt := hide hlt
  have hb1 := (Below.refl w.heap.size w).alloc (Nat.le_refl _) (.cells #[.pointer (some ⟨bg, 0, none⟩)] 50)
  have K40 := hide (nodes_any hgm hb1)
  have K40b := hide (nodes_any hgm (hb1.alloc (by simp) (.cells (List.replicate G.N (.int .i64 0)).toArray 3)))
  have K40c := hide (nodes_any hgm ((hb1.alloc (by simp) (.cells (List.replicate G.N (.int .i64 0)).toArray 3)).alloc (by simp <;> omega) (.cells (List.replicate G.N (.bool false)).toArray 4)))
  have hm1 := mkInts G.N (by omega)
  have hm2 := mkBools G.N (by omega)
  have hmf : ∀ (fn : Fn) (first cap : Array Value) (w : World), (Instr.makeFunc fn first cap).run Try.prog w = .ok (.func fn first cap) w := fun _ _ _ _ => rfl
  have Hq0 := hide (bfs_init w bg G.N)
  clear hgm hr hlt hb1
  go_enter Try.func36, Try.ntmps36
  go_wp2_with fail
  refine Calls.mono (Hid.out K40) ?_
  rintro e1 w1 ⟨rfl, hw⟩
  subst w1
  clear K40
  go_wp2_with fail
  refine Calls.mono (Hid.out K40b) ?_
  rintro e1 w1 ⟨rfl, hw⟩
  subst w1
  clear K40b
  go_wp2_with fail
  refine Calls.mono (Hid.out K40c) ?_
  rintro e1 w1 ⟨rfl, hw⟩
  subst w1
  clear K40c
  go_wp2
  simp only [Nat.add_assoc, Nat.reduceAdd]
  clear hm1 hm2 hmf
  go_loopg [10, 34] G.N (fun k z i wr => ∃ root : Nat, root + k = G.N ∧ i = .int .i64 (root : Int) ∧ ∃ q, Bfs w bg G cmp z q wr)
  case atStart => exact ⟨0, by omega, rfl, [], _, _, [], Tj.NInv.init G cmp, Hq0.out, List.nodup_nil, fun v hv => (by cases hv)⟩
  case round =>
    obtain ⟨root, hrk, rfl, q, num, nbd, vis, hinv, hq, hnd, hsub⟩ := hrel
    clear Hq0
    by_cases hlt : root < G.N
    · have hlti : (root : Int) < (G.N : Int) := by omega
      have cb : wr.cell? ⟨w.heap.size + 2, root, none⟩ = some (.bool (nbd root)) := hq.r2.cellTab hlt
      have fb := hq.r2.frozen root
      cases hnr : nbd root with
      | true =>
        rw [hnr] at cb
        have Hall : Hid (Bfs w bg G cmp u10 q wr) := hide ⟨num, nbd, vis, hinv, hq, hnd, hsub⟩
        clear hinv hq hnd hsub hnr fb
        go_wp2
        go_roundg (gk - 1)
        case measure => omega
        case rel => exact ⟨root + 1, by omega, by go_num, q, Hall.out⟩
      | false =>
        rw [hnr] at cb
        have hq1 := hq.nbd_ (by omega) root true
        have Hinv := hide (hinv.root hlt hnr)
        clear hinv hq hnd hsub hnr
        go_upto_region 10 with fail
        generalize wr.setCell ⟨w.heap.size + 2, root, none⟩ (.bool true) = w1 at hq1
        clear cb fb
        have Hq1 := hide hq1
        clear hq1
        go_cut [10] (fun z wx => ∃ g cap, z = .slice (some ⟨g, 0, none⟩) 1 cap ∧ Q2 (boxed w bg) wx (w.heap.size + 1) (w.heap.size + 3) (w.heap.size + 1) (w.heap.size + 2) G.N num (Tj.upd nbd root true) z [root])
        case first =>
          obtain ⟨i0, hi, hz0, hz1, hz2⟩ := info_parts Try.inf3
          have hnb : (w1.alloc (.cells #[.int .i64 (root : Int)] 3)).heap[w1.heap.size]? = some (.cells #[.int .i64 (root : Int)] 3 (0, 0)) := heap_alloc_new _ _
          have Hnb := hide hnb
          clear hnb
          have hroom := Hq1.out.room
          rcases Hq1.out.clear with ⟨rfl, hq2⟩ | ⟨g, cap, rfl, hc1, hc2, hq2⟩
          · have Hq2 := hide (hq2.alloc (.cells #[.int .i64 (root : Int)] 3))
            clear hq2
            go_wp2_with (at_builtin; refine wpList_append_lies (w1.alloc (.cells #[.int .i64 (root : Int)] 3)) (by rfl) _ _ 22 (by rfl) (w.heap.size + 3) 3 i0 (.int .i64 0) 1 8 Try.underlying22 hi hz0 hz1 hz2 rfl (by decide) (.slice none 0 0) 0 _ (by rfl) Hq2.out.oQ ⟨w1.heap.size, 0, none⟩ 1 1 [.int .i64 (root : Int)] (by rfl) rfl (World.news_of_block Hnb.out) (by simp [Value.oneCell']) (by omega) (by unfold maxLen; omega) (by omega) (by simp; omega) (w1.heap.size + 1) (by simp) ?_; intro g2 cap2 w4 hown4 hgrow4 hloc4 hglt4; have Hq3 := hide (Hq2.out.push (n := root) hgrow4 hown4); clear hown4 hgrow4 hloc4 hglt4)
            go_meet
            exact ⟨_, _, rfl, Hq3.out⟩
          · have Hq2 := hide (hq2.alloc (.cells #[.int .i64 (root : Int)] 3))
            clear hq2
            go_wp2_with (at_builtin; refine wpList_append_lies (w1.alloc (.cells #[.int .i64 (root : Int)] 3)) (by rfl) _ _ 22 (by rfl) (w.heap.size + 3) 3 i0 (.int .i64 0) 1 8 Try.underlying22 hi hz0 hz1 hz2 rfl (by decide) (.slice (some ⟨g, 0, none⟩) 0 cap) 0 _ (by rfl) Hq2.out.oQ ⟨w1.heap.size, 0, none⟩ 1 1 [.int .i64 (root : Int)] (by rfl) rfl (World.news_of_block Hnb.out) (by simp [Value.oneCell']) (by omega) (by unfold maxLen; omega) (by omega) (by simp; omega) (w1.heap.size + 1) (by simp) ?_; intro g2 cap2 w4 hown4 hgrow4 hloc4 hglt4; have Hq3 := hide (Hq2.out.push (n := root) hgrow4 hown4); clear hown4 hgrow4 hloc4 hglt4)
            go_meet
            exact ⟨_, _, rfl, Hq3.out⟩
        case rest =>
          obtain ⟨g, cap, rfl, hq3⟩ := hcut
          have Hq3 := hide hq3
          clear hq3 Hq1
          go_wp2
          go_loopg [10, 12] G.N (fun k z i wr => ∃ (i' : Nat) (q : List Nat), i' + k = G.N ∧ i = .int .i64 (i' : Int) ∧ i' ≤ q.length ∧ Bfs w bg G cmp z q wr)
          case atStart => exact ⟨0, [root], by omega, rfl, Nat.zero_le _, _, _, _, Hinv.out, Hq3.out, by simp, fun v hv => by simp at hv; simp [hv]⟩
          case round =>
            clear Hinv Hq3
            obtain ⟨i, q, hik, rfl, hiq, num, nbd, vis, hinv, hq, hnd, hsub⟩ := hrel
            have hqN : q.length ≤ G.N := Tj.nodup_le _ _ hnd (fun v hv => hinv.lt v (hsub v hv))
            by_cases hlt2 : i < q.length
            · obtain ⟨g2, cap2, rfl, cq⟩ := hq.at hlt2
              have hnq : q.getD i 0 ∈ q := by rw [List.getD_eq_getElem?_getD, List.getElem?_eq_getElem hlt2]; exact List.getElem_mem hlt2
              have hnN : q.getD i 0 < G.N := hinv.lt _ (hsub _ hnq)
              obtain ⟨n, Hn⟩ : ∃ n, Hid (q.getD i 0 = n) := ⟨_, hide rfl⟩
              rw [Hn.out] at cq hnN
              replace cq : wr.cell? ⟨g2, i, none⟩ = some (.int .i64 (n : Int)) := cq
              have hli : (i : Int) < (q.length : Int) := by omega
              have cbox := hq.box
              have K44 := hide (from_any Hgm.out hq.under hnN)
              have Hall : Hid (Bfs w bg G cmp (.slice (some ⟨g2, 0, none⟩) q.length cap2) q wr) := hide ⟨num, nbd, vis, hinv, hq, hnd, hsub⟩
              clear hinv hq hnd hsub hnq
              go_wp2_with fail
              refine Calls.mono (Hid.out K44) ?_
              rintro e1 w2 ⟨⟨k2, rfl⟩, x, c, rfl, hx⟩
              have Hx := hide hx
              have Hall2 : Hid (Bfs w bg G cmp (.slice (some ⟨g2, 0, none⟩) q.length cap2) q (wr.drewN k2)) := by
                obtain ⟨num, nbd, vis, hinv, hq, hnd, hsub⟩ := Hall.out
                exact hide ⟨num, nbd, vis, hinv, hq.drewN k2, hnd, hsub⟩
              clear K44 Hall hx cq cbox
              generalize wr.drewN k2 = w2 at Hall2
              go_wp2
              go_loopg [10, 63] (G.st (n + 1) - G.st n) (fun k z j wr => ∃ (j' : Nat) (q' : List Nat), j' + k = G.st (n + 1) - G.st n ∧ j = .int .i64 (j' : Int) ∧ i < q'.length ∧ q'.getD i 0 = n ∧ Bfs w bg G cmp z q' wr)
              case atStart => exact ⟨0, q, by omega, rfl, hlt2, Hn.out, Hall2.out⟩
              case round =>
                clear Hall2
                obtain ⟨j, q', hjk, rfl, hiq', hqn', num, nbd, vis, hinv, hq, hnd, hsub⟩ := hrel
                by_cases hlt3 : j < G.st (n + 1) - G.st n
                · obtain rfl : x = ⟨bs, G.st n * 6, none⟩ := Hx.out (by omega)
                  have hle := Hgm.out.valid.le (n + 1) (by omega)
                  have hjM : G.st n + j < G.M := by omega
                  have hmN := Hgm.out.valid.ends _ hjM
                  have hlji : (j : Int) < ((G.st (n + 1) - G.st n : Nat) : Int) := by omega
                  have hun := hq.under
                  have hoff : (G.st n + j) * 6 = G.st n * 6 + j * 6 := Nat.add_mul _ _ _
                  have cto := Hgm.out.cto _ hjM
                  have ckd := Hgm.out.ckd _ hjM
                  obtain ⟨cx0, cx3, cx4, cx5⟩ := Hgm.out.cfr _ hjM
                  rw [hoff] at cto ckd cx0 cx3 cx4 cx5
                  rw [← hun.cell (p := ⟨bs, G.st n * 6 + j * 6, none⟩) Hgm.out.lbs] at cx0
                  rw [← hun.cell (p := ⟨bs, G.st n * 6 + j * 6 + 1, none⟩) Hgm.out.lbs] at cto
                  rw [← hun.cell (p := ⟨bs, G.st n * 6 + j * 6 + 2, none⟩) Hgm.out.lbs] at ckd
                  rw [← hun.cell (p := ⟨bs, G.st n * 6 + j * 6 + 3, none⟩) Hgm.out.lbs] at cx3
                  rw [← hun.cell (p := ⟨bs, G.st n * 6 + j * 6 + 4, none⟩) Hgm.out.lbs] at cx4
                  rw [← hun.cell (p := ⟨bs, G.st n * 6 + j * 6 + 5, none⟩) Hgm.out.lbs] at cx5
                  replace cto : wr.cell? ⟨bs, G.st n * 6 + j * 6 + 1, none⟩ = some (.int .i64 (G.to (G.st n + j) : Int)) := cto
                  have Hinv := hide hinv
                  have Hq := hide hq
                  have Hnd := hide hnd
                  have Hsub := hide hsub
                  have Hqn := hide hqn'
                  have Hoff := hide hoff
                  clear hinv hq hnd hsub hqn' hoff hun
                  generalize hm : G.to (G.st n + j) = m at hmN cto
                  have Hm := hide hm
                  clear hm
                  go_upto_region 19 with fail
                  have hq1 := Hq.out.alloc (.cells #[.int .i64 0, .int .i64 (m : Int), .int .u8 (kd (G.st n + j) : Int), .string ⟨#[]⟩, .bool false, .int .u8 0] 82)
                  clear cto ckd cx0 cx3 cx4 cx5 Hq
                  generalize wr.alloc (.cells #[.int .i64 0, .int .i64 (m : Int), .int .u8 (kd (G.st n + j) : Int), .string ⟨#[]⟩, .bool false, .int .u8 0] 82) = w3 at hq1
                  have cm : w3.cell? ⟨bc, m, none⟩ = some (.int .i64 (cmp m : Int)) := by rw [hq1.under.cell (p := ⟨bc, m, none⟩) Hr.out.lt]; exact Hr.out.cellTab hmN
                  have cn : w3.cell? ⟨bc, n, none⟩ = some (.int .i64 (cmp n : Int)) := by rw [hq1.under.cell (p := ⟨bc, n, none⟩) Hr.out.lt]; exact Hr.out.cellTab hnN
                  have cbm : w3.cell? ⟨w.heap.size + 2, m, none⟩ = some (.bool (nbd m)) := hq1.r2.cellTab hmN
                  have hmi : (m : Int) < (G.N : Int) := by omega
                  have hni : (n : Int) < (G.N : Int) := by omega
                  have Hq := hide hq1
                  clear hq1
                  by_cases hc : cmp m = cmp n
                  · have Hc := hide hc
                    have hcb : ((cmp n : Int) == (cmp n : Int)) = true := by simp
                    rw [hc] at cm
                    clear hc
                    generalize cmp n = y at cm cn hcb
                    cases hnm : nbd m with
                    | true =>
                      rw [hnm] at cbm
                      go_quiet (fail)
                      have Hall : Hid (Bfs w bg G cmp u10 q' (w3.drewN nq)) := hide ⟨num, nbd, vis, Hinv.out, Hq.out.drewN nq, Hnd.out, Hsub.out⟩
                      clear Hinv Hq Hnd Hsub hnm
                      go_wp2
                      go_roundg (gk - 1)
                      case measure => omega
                      case rel => exact ⟨j + 1, q', by omega, by go_num, hiq', Hqn.out, Hall.out⟩
                    | false =>
                      rw [hnm] at cbm
                      have Hnm := hide hnm
                      clear hnm
                      go_quiet (fail)
                      have hq2 := Hq.out.drewN nq
                      clear cm cn cbm Hq
                      generalize w3.drewN nq = w4 at hq2
                      go_upto_region 20 with fail
                      have KW := hide (weight_any Hgm.out hq2.drew.under hq2.drew.box n)
                      have cn1 : w4.cell? ⟨w.heap.size + 1, n, none⟩ = some (.int .i64 (num n : Int)) := hq2.r1.cellTab hnN
                      obtain ⟨y1, cm1⟩ : ∃ y, w4.cell? ⟨w.heap.size + 1, m, none⟩ = some y := ⟨_, hq2.r1.cellTab hmN⟩
                      have fm1 := hq2.r1.frozen m
                      obtain ⟨y2, cm2⟩ : ∃ y, w4.cell? ⟨w.heap.size + 2, m, none⟩ = some y := ⟨_, hq2.r2.cellTab hmN⟩
                      have fm2 := hq2.r2.frozen m
                      have hnl : num n ≤ 131072 := Nat.le_trans (Hinv.out.bound n) (Nat.le_trans Hinv.out.len hsm.1)
                      have hwt : G.wt n ≤ 1 := by unfold Tj.Gr.wt; split <;> omega
                      have hwrap : IntKind.i64.wrap ((num n : Int) + (G.wt n : Int)) = ((num n + G.wt n : Nat) : Int) := by rw [IntKind.wrap_i64]; omega
                      have Hq := hide hq2
                      clear hq2
                      go_cut [] (fun wx => Q2 (boxed w bg) wx (w.heap.size + 1) (w.heap.size + 3) (w.heap.size + 1) (w.heap.size + 2) G.N (Tj.upd num m (num n + G.wt n)) (Tj.upd nbd m true) u10 q')
                      case first =>
                        have Hq5 := hide (((Hq.out.nbd_ (by omega) m true).num_ (by omega) m (num n + G.wt n)))
                        have Hq6 := hide (((Hq.out.num_ (by omega) m (num n + G.wt n)).nbd_ (by omega) m true))
                        clear Hq
                        go_region_with (go_at_call 43; refine Calls.mono (Hid.out KW) ?_; rintro e1 w5 ⟨rfl, hw5⟩; subst w5)
                        all_goals
                          go_wp2_with fail
                          go_meet
                          first
                            | exact Hq5.out.drew
                            | exact Hq6.out.drew
                      case rest =>
                        have Hq5 := hide hcut
                        clear hcut Hq hwrap KW cn1 cm1 fm1 cm2 fm2
                        have hql : q'.length ≤ G.N := Tj.nodup_le _ _ Hnd.out (fun v hv => Hinv.out.lt v (Hsub.out v hv))
                        have hmq : m ∉ q' := fun hm => by
                          have := (Hinv.out.iff_ m).2 (Hsub.out m hm)
                          rw [Hnm.out] at this; cases this
                        have Hmq := hide hmq
                        clear hmq
                        obtain ⟨az, cz, rfl⟩ : ∃ a c, u10 = .slice a q'.length c := owns_form Hq5.out.oQ
                        obtain ⟨i0, hi, hz0, hz1, hz2⟩ := info_parts Try.inf3
                        have hnb : (wc.alloc (.cells #[.int .i64 (m : Int)] 3)).heap[wc.heap.size]? = some (.cells #[.int .i64 (m : Int)] 3 (0, 0)) := heap_alloc_new _ _
                        have Hnb := hide hnb
                        have hroom := Hq5.out.room
                        have Hq6 := hide (Hq5.out.alloc (.cells #[.int .i64 (m : Int)] 3))
                        clear hnb Hq5
                        go_wp2_with (at_builtin; refine wpList_append_lies (wc.alloc (.cells #[.int .i64 (m : Int)] 3)) (by rfl) _ _ 22 (by rfl) (w.heap.size + 3) 3 i0 (.int .i64 0) 1 8 Try.underlying22 hi hz0 hz1 hz2 rfl (by decide) (.slice az q'.length cz) q'.length _ (by rfl) Hq6.out.oQ ⟨wc.heap.size, 0, none⟩ 1 1 [.int .i64 (m : Int)] (by rfl) rfl (World.news_of_block Hnb.out) (by simp [Value.oneCell']) (by omega) (by unfold maxLen; omega) (by omega) (by simp; omega) (wc.heap.size + 1) (by simp) ?_; intro g4 cap4 w6 hown6 hgrow6 hloc6 hglt6; have Hq7 := hide (Hq6.out.push (n := m) hgrow6 hown6); clear hown6 hgrow6 hloc6 hglt6)
                        clear Hq6 Hnb hi hz0 hz1 hz2
                        have Hall : Hid (Bfs w bg G cmp (.slice (some ⟨g4, 0, none⟩) (q'.length + 1) cap4) (q' ++ [m]) w6) := by
                          refine hide ⟨_, _, _, Hinv.out.put hnN hmN Hc.out Hnm.out, Hq7.out, ?_, fun v hv => ?_⟩
                          · rw [List.nodup_append]
                            exact ⟨Hnd.out, by simp, fun a ha b hb => by simp at hb; subst hb; exact fun e => Hmq.out (e ▸ ha)⟩
                          · rcases List.mem_append.1 hv with hv | hv
                            · exact List.mem_cons_of_mem _ (Hsub.out v hv)
                            · simp at hv; subst hv; exact List.mem_cons_self
                        have Hqn2 : Hid ((q' ++ [m]).getD i 0 = n) := hide (by rw [List.getD_eq_getElem?_getD, List.getElem?_append_left hiq', ← List.getD_eq_getElem?_getD]; exact Hqn.out)
                        clear Hq7 Hinv Hnd Hsub
                        go_roundg (gk - 1)
                        case measure => omega
                        case rel => exact ⟨j + 1, q' ++ [m], by omega, by go_num, by simp; omega, Hqn2.out, Hall.out⟩
                  · have hcb : ((cmp m : Int) == (cmp n : Int)) = false := beq_eq_false_iff_ne.2 (by omega)
                    have Hc := hide hc
                    clear hc
                    generalize cmp n = y at cn hcb
                    generalize cmp m = y' at cm hcb
                    generalize nbd m = y'' at cbm
                    go_quiet (fail)
                    have Hall : Hid (Bfs w bg G cmp u10 q' (w3.drewN nq)) := hide ⟨num, nbd, vis, Hinv.out, Hq.out.drewN nq, Hnd.out, Hsub.out⟩
                    clear Hinv Hq Hnd Hsub
                    go_wp2
                    go_roundg (gk - 1)
                    case measure => omega
                    case rel => exact ⟨j + 1, q', by omega, by go_num, hiq', Hqn.out, Hall.out⟩
                · have Hall : Hid (Bfs w bg G cmp u10 q' wr) := hide ⟨num, nbd, vis, hinv, hq, hnd, hsub⟩
                  have hje : ¬ ((j : Int) < ((G.st (n + 1) - G.st n : Nat) : Int)) := by omega
                  have hql : q'.length ≤ G.N := Tj.nodup_le _ _ hnd (fun v hv => hinv.lt v (hsub v hv))
                  clear hinv hq hnd hsub hqn'
                  go_wp2
                  go_roundg (G.N - i - 1)
                  case measure => omega
                  case rel => exact ⟨i + 1, q', by omega, by go_num, by omega, Hall.out⟩
            · have Hall : Hid (Bfs w bg G cmp u10 q wr) := hide ⟨num, nbd, vis, hinv, hq, hnd, hsub⟩
              have hli : ¬ ((i : Int) < (q.length : Int)) := by omega
              obtain ⟨az, cz, rfl⟩ : ∃ a c, u10 = .slice a q.length c := owns_form hq.oQ
              clear hinv hq hnd hsub
              go_wp2
              go_roundg (G.N - root - 1)
              case measure => omega
              case rel => exact ⟨root + 1, by omega, by go_num, q, Hall.out⟩
    · have hle : ¬ ((root : Int) < (G.N : Int)) := by omega
      have hmk := mkInts K (by omega)
      have K40 := hide (nodes_any Hgm.out (hq.under.alloc hq.under.size (.cells (List.replicate K (.int .i64 0)).toArray 3)))
      have cbox := hq.box
      have hlt0 : w.heap.size < wr.heap.size := by have := hq.room; omega
      have Hq := hide hq
      have Hinv := hide hinv
      clear hq hinv hnd hsub hlt
      rename World => wb
      go_wp2_with fail
      refine Calls.mono (Hid.out K40) ?_
      rintro e1 w1 ⟨rfl, hw⟩
      subst w1
      clear K40 hmk cbox
      go_wp2
      go_loopg [110] G.N (fun k n wx => ∃ n' : Nat, n' + k = G.N ∧ n = .int .i64 (n' : Int) ∧ ∃ P, Tj.PInv G cmp num P (Tj.Before n' 0) ∧ Row wx wb.heap.size 3 (Tab K (fun c => nv (P c))) ∧ Below wb.heap.size wb wx)
      case atStart =>
        refine ⟨0, by omega, rfl, _, Tj.PInv.init G cmp num, ?_, (Below.refl _ _).alloc (Nat.le_refl _) _⟩
        exact row_at rfl (by show (List.replicate K (Value.int .i64 0)).toArray = _; rw [tab_replicate]; rfl)
      case round =>
        obtain ⟨n, hnk, rfl, P, hP, hrow, hb⟩ := hrel
        by_cases hnN : n < G.N
        · have hni : (n : Int) < (G.N : Int) := by omega
          have hun : Below w.heap.size w wr := Hq.out.under.trans (hb.mono (by omega))
          have cbox : wr.cell? ⟨w.heap.size, 0, none⟩ = some (.pointer (some ⟨bg, 0, none⟩)) := by rw [hb.cell (p := ⟨w.heap.size, 0, none⟩) hlt0]; exact Hq.out.box
          have K44 := hide (from_any Hgm.out hun hnN)
          have HP := hide hP
          have Hrow := hide hrow
          have Hb := hide hb
          clear hP hrow hb hun
          go_wp2_with fail
          refine Calls.mono (Hid.out K44) ?_
          rintro e1 w2 ⟨⟨k2, rfl⟩, x, c, rfl, hx⟩
          have Hx := hide hx
          have Hb2 := hide (below_drew Hb.out k2)
          have Hrow2 : Hid (Row (wr.drewN k2) wb.heap.size 3 (Tab K (fun c => nv (P c)))) := hide (by have := Hrow.out; exact this)
          clear K44 hx cbox Hrow Hb
          generalize wr.drewN k2 = w2 at Hb2 Hrow2
          go_wp2
          go_loopg [117] (G.st (n + 1) - G.st n) (fun k j wx => ∃ j' : Nat, j' + k = G.st (n + 1) - G.st n ∧ j = .int .i64 (j' : Int) ∧ ∃ P, Tj.PInv G cmp num P (Tj.Before n (G.st n + j')) ∧ Row wx wb.heap.size 3 (Tab K (fun c => nv (P c))) ∧ Below wb.heap.size wb wx)
          case atStart => exact ⟨0, by omega, rfl, P, HP.out.start rfl, Hrow2.out, Hb2.out⟩
          case round =>
            clear Hb2 Hrow2 HP P
            obtain ⟨j, hjk, rfl, P, hP, hrow, hb⟩ := hrel
            by_cases hlt3 : j < G.st (n + 1) - G.st n
            · obtain rfl : x = ⟨bs, G.st n * 6, none⟩ := Hx.out (by omega)
              have hle1 := Hgm.out.valid.le (n + 1) (by omega)
              have hjM : G.st n + j < G.M := by omega
              have hmN := Hgm.out.valid.ends _ hjM
              have hlji : (j : Int) < ((G.st (n + 1) - G.st n : Nat) : Int) := by omega
              have hun : Below w.heap.size w wr := Hq.out.under.trans (hb.mono (by omega))
              have hoff : (G.st n + j) * 6 = G.st n * 6 + j * 6 := Nat.add_mul _ _ _
              have cto := Hgm.out.cto _ hjM
              have ckd := Hgm.out.ckd _ hjM
              obtain ⟨cx0, cx3, cx4, cx5⟩ := Hgm.out.cfr _ hjM
              rw [hoff] at cto ckd cx0 cx3 cx4 cx5
              rw [← hun.cell (p := ⟨bs, G.st n * 6 + j * 6, none⟩) Hgm.out.lbs] at cx0
              rw [← hun.cell (p := ⟨bs, G.st n * 6 + j * 6 + 1, none⟩) Hgm.out.lbs] at cto
              rw [← hun.cell (p := ⟨bs, G.st n * 6 + j * 6 + 2, none⟩) Hgm.out.lbs] at ckd
              rw [← hun.cell (p := ⟨bs, G.st n * 6 + j * 6 + 3, none⟩) Hgm.out.lbs] at cx3
              rw [← hun.cell (p := ⟨bs, G.st n * 6 + j * 6 + 4, none⟩) Hgm.out.lbs] at cx4
              rw [← hun.cell (p := ⟨bs, G.st n * 6 + j * 6 + 5, none⟩) Hgm.out.lbs] at cx5
              replace cto : wr.cell? ⟨bs, G.st n * 6 + j * 6 + 1, none⟩ = some (.int .i64 (G.to (G.st n + j) : Int)) := cto
              have hwith : cmp (G.to (G.st n + j)) = cmp n → G.Within cmp n (G.st n + j) := fun h => ⟨hnN, by omega, by omega, h⟩
              have hno : cmp (G.to (G.st n + j)) ≠ cmp n → ¬ G.Within cmp n (G.st n + j) := fun h hw => h hw.2.2.2
              have hov : Tj.over G num n (G.st n + j) = (num n : Int) + (G.wt n : Int) - (num (G.to (G.st n + j)) : Int) := rfl
              have HP := hide hP
              have Hrow := hide hrow
              have Hb := hide hb
              have Hwith := hide hwith
              have Hno := hide hno
              have Hov := hide hov
              clear hP hrow hb hun hoff hwith hno hov
              generalize hm : G.to (G.st n + j) = m at hmN cto Hwith Hno Hov
              have Hm := hide hm
              clear hm
              go_upto_region 31 with fail
              have hb1 := Hb.out.alloc Hb.out.size (.cells #[.int .i64 0, .int .i64 (m : Int), .int .u8 (kd (G.st n + j) : Int), .string ⟨#[]⟩, .bool false, .int .u8 0] 82)
              have hrow1 := Hrow.out.alloc (.cells #[.int .i64 0, .int .i64 (m : Int), .int .u8 (kd (G.st n + j) : Int), .string ⟨#[]⟩, .bool false, .int .u8 0] 82)
              have hnew := Row.new wr 82 [.int .i64 0, .int .i64 (m : Int), .int .u8 (kd (G.st n + j) : Int), .string ⟨#[]⟩, .bool false, .int .u8 0]
              replace hnew : Row (wr.alloc (.cells #[.int .i64 0, .int .i64 (m : Int), .int .u8 (kd (G.st n + j) : Int), .string ⟨#[]⟩, .bool false, .int .u8 0] 82)) wr.heap.size 82 [.int .i64 0, .int .i64 (m : Int), .int .u8 (kd (G.st n + j) : Int), .string ⟨#[]⟩, .bool false, .int .u8 0] := hnew
              have hbs : wb.heap.size ≤ wr.heap.size := Hb.out.size
              have hsr := Hrow.out.lt
              clear cto ckd cx0 cx3 cx4 cx5 Hb Hrow
              generalize wr.alloc (.cells #[.int .i64 0, .int .i64 (m : Int), .int .u8 (kd (G.st n + j) : Int), .string ⟨#[]⟩, .bool false, .int .u8 0] 82) = w3 at hb1 hrow1 hnew
              have ct : w3.cell? ⟨wr.heap.size, 1, none⟩ = some (.int .i64 (m : Int)) := by rw [hnew.cell]; rfl
              have hun : Below w.heap.size w w3 := Hq.out.under.trans (hb1.mono (by omega))
              have cm : w3.cell? ⟨bc, m, none⟩ = some (.int .i64 (cmp m : Int)) := by rw [hun.cell (p := ⟨bc, m, none⟩) Hr.out.lt]; exact Hr.out.cellTab hmN
              have cn : w3.cell? ⟨bc, n, none⟩ = some (.int .i64 (cmp n : Int)) := by rw [hun.cell (p := ⟨bc, n, none⟩) Hr.out.lt]; exact Hr.out.cellTab hnN
              have dn : w3.cell? ⟨w.heap.size + 1, n, none⟩ = some (.int .i64 (num n : Int)) := by rw [hb1.cell (p := ⟨w.heap.size + 1, n, none⟩) Hq.out.r1.lt]; exact Hq.out.r1.cellTab hnN
              have dm : w3.cell? ⟨w.heap.size + 1, m, none⟩ = some (.int .i64 (num m : Int)) := by rw [hb1.cell (p := ⟨w.heap.size + 1, m, none⟩) Hq.out.r1.lt]; exact Hq.out.r1.cellTab hmN
              have cbox : w3.cell? ⟨w.heap.size, 0, none⟩ = some (.pointer (some ⟨bg, 0, none⟩)) := by rw [hb1.cell (p := ⟨w.heap.size, 0, none⟩) hlt0]; exact Hq.out.box
              have hmi : (m : Int) < (G.N : Int) := by omega
              have hckn := Hlt.out n hnN
              have hcki : (cmp n : Int) < (K : Int) := by omega
              have ep : w3.cell? ⟨wb.heap.size, cmp n, none⟩ = some (.int .i64 (P (cmp n) : Int)) := hrow1.cellTab hckn
              have fp := hrow1.frozen (cmp n)
              have hPb := HP.out.bound (cmp n)
              have Hb := hide hb1
              have Hrow := hide hrow1
              have Hnew := hide hnew
              by_cases hc : cmp m = cmp n
              · have Hw := hide (Hwith.out hc)
                have hcb : ((cmp n : Int) == (cmp n : Int)) = true := by simp
                rw [hc] at cm
                have hov1 := Hinv.out.over_le hsm.1 n (G.st n + j)
                rw [Hov.out] at hov1
                have hnl : num n ≤ 131072 := Nat.le_trans (Hinv.out.bound n) (Nat.le_trans Hinv.out.len hsm.1)
                have hml : num m ≤ 131072 := Nat.le_trans (Hinv.out.bound m) (Nat.le_trans Hinv.out.len hsm.1)
                have hwt : G.wt n ≤ 1 := by unfold Tj.Gr.wt; split <;> omega
                have KW := hide (fun k => weight_any Hgm.out (below_drew hun k) (show (w3.drewN k).cell? ⟨w.heap.size, 0, none⟩ = _ from cbox) n)
                clear hc hb1 hrow1 hnew hun
                go_upto_region 33 with fail
                go_quiet ((go_at_call 43; refine Calls.mono (Hid.out KW _) ?_; rintro e1 w5 ⟨rfl, rfl⟩; exact ⟨rfl, _, rfl⟩))
                clear KW
                have Hput := hide (HP.out.put Hw.out (Hinv.out.over_le hsm.1 n (G.st n + j)) (fun hf => Hinv.out.over_zero Hw.out hf))
                rw [Hov.out] at Hput
                go_wp2_with fail
                all_goals
                  refine Calls.mono (gcd_int (w3.drewN nq) (P (cmp n)) _ hPb (by omega) (by omega)) ?_
                  rintro e2 w6 ⟨rfl, k6, rfl⟩
                  obtain ⟨k7, hk7⟩ := drewN_drewN w3 nq k6
                  rw [hk7]
                  clear hk7
                  have hset := (show Row (w3.drewN k7) wb.heap.size 3 (Tab K (fun c => nv (P c))) from Hrow.out).setTab (cmp n) (nv (Nat.gcd (P (cmp n)) ((num n : Int) + (G.wt n : Int) - (num m : Int)).natAbs))
                  have hset2 := hset.tabEq (G := fun c => nv (Tj.upd P (cmp n) (Nat.gcd (P (cmp n)) ((num n : Int) + (G.wt n : Int) - (num m : Int)).natAbs) c)) (fun c _ => by simp only [Tj.upd]; split <;> rfl)
                  have Hset := hide hset2
                  have Hbs := hide ((below_drew Hb.out k7).setCell (p := ⟨wb.heap.size, cmp n, none⟩) (Nat.le_refl _) (nv (Nat.gcd (P (cmp n)) ((num n : Int) + (G.wt n : Int) - (num m : Int)).natAbs)))
                  clear hset hset2
                  simp only [Int.natAbs_neg]
                  go_wp2
                  go_roundg (gk - 1)
                  case measure => omega
                  case rel => exact ⟨j + 1, by omega, by go_num, _, Hput.out, Hset.out, Hbs.out⟩
              · have hcb : ((cmp m : Int) == (cmp n : Int)) = false := beq_eq_false_iff_ne.2 (by omega)
                have Hsame := hide (HP.out.same (Hno.out hc))
                clear hc hb1 hrow1 hnew hun
                go_wp2
                go_roundg (gk - 1)
                case measure => omega
                case rel => exact ⟨j + 1, by omega, by go_num, _, Hsame.out, Hrow.out, Hb.out⟩
            · have hje : ¬ ((j : Int) < ((G.st (n + 1) - G.st n : Nat) : Int)) := by omega
              have hmono := Hgm.out.valid.mono n hnN
              have Hrw := hide ((show Tj.PInv G cmp num P (Tj.Before n (G.st (n + 1))) by
                rw [show G.st (n + 1) = G.st n + j by omega]; exact hP).row)
              have Hrow := hide hrow
              have Hb := hide hb
              clear hP hrow hb
              go_wp2
              go_roundg (G.N - n - 1)
              case measure => omega
              case rel => exact ⟨n + 1, by omega, by go_num, _, Hrw.out, Hrow.out, Hb.out⟩
        · have hnN' : n = G.N := by omega
          have HP := hide (show Tj.PInv G cmp num P (fun _ _ => True) by rw [hnN'] at hP; exact hP.all)
          have Hrow := hide hrow
          have Hb := hide hb
          have hni : ¬ ((n : Int) < (G.N : Int)) := by omega
          clear hP hrow hb hnN'
          go_wp2
          go_loopg [164] K (fun k i wx => ∃ i' : Nat, i' + k = K ∧ i = .int .i64 (i' : Int) ∧ Row wx wb.heap.size 3 (Tab K (fun c => nv (if c < i' ∧ P c = 0 then 1 else P c))) ∧ Below wb.heap.size wb wx)
          case atStart => exact ⟨0, by omega, rfl, Hrow.out.tabEq (fun c _ => by simp), Hb.out⟩
          case round =>
            clear Hrow Hb
            obtain ⟨c, hck, rfl, hrow, hb⟩ := hrel
            by_cases hcK : c < K
            · have hci : (c : Int) < (K : Int) := by omega
              have cc : wr.cell? ⟨wb.heap.size, c, none⟩ = some (.int .i64 (P c : Int)) := by
                have := hrow.cellTab hcK
                rw [if_neg (by omega)] at this
                exact this
              have fc := hrow.frozen c
              have Hrow := hide hrow
              have Hb := hide hb
              clear hrow hb
              by_cases h0 : P c = 0
              · have h0b : ((P c : Int) == 0) = true := beq_iff_eq.2 (by omega)
                have Hset := hide ((Hrow.out.setTab c (.int .i64 1)).tabEq (G := fun x => nv (if x < c + 1 ∧ P x = 0 then 1 else P x)) (fun x _ => by
                  by_cases hx : x = c
                  · subst hx; rw [if_pos rfl, if_pos ⟨by omega, h0⟩]; rfl
                  · rw [if_neg hx]
                    by_cases hx2 : x < c ∧ P x = 0
                    · rw [if_pos hx2, if_pos ⟨by omega, hx2.2⟩]
                    · rw [if_neg hx2, if_neg (by omega)]))
                have Hbs := hide (Hb.out.setCell (p := ⟨wb.heap.size, c, none⟩) (Nat.le_refl _) (.int .i64 1))
                clear h0
                go_wp2
                go_roundg (gk - 1)
                case measure => omega
                case rel => exact ⟨c + 1, by omega, by go_num, Hset.out, Hbs.out⟩
              · have h0b : ((P c : Int) == 0) = false := beq_eq_false_iff_ne.2 (by omega)
                have Hset := hide (Hrow.out.tabEq (G := fun x => nv (if x < c + 1 ∧ P x = 0 then 1 else P x)) (fun x _ => by
                  by_cases hx : x = c
                  · subst hx; rw [if_neg (by omega), if_neg (by omega)]
                  · by_cases hx2 : x < c ∧ P x = 0
                    · rw [if_pos hx2, if_pos ⟨by omega, hx2.2⟩]
                    · rw [if_neg hx2, if_neg (by omega)]))
                clear h0
                go_wp2
                go_roundg (gk - 1)
                case measure => omega
                case rel => exact ⟨c + 1, by omega, by go_num, Hset.out, Hb.out⟩
            · have hci : ¬ ((c : Int) < (K : Int)) := by omega
              have Hfin : Hid (PerOut w G cmp K (.returned (.slice (some ⟨wb.heap.size, 0, none⟩) K K)) wr) := by
                refine hide ⟨_, num, P, rfl, hrow.tabEq (fun x hx => ?_), HP.out, Hq.out.under.trans (hb.mono (by omega))⟩
                by_cases h0 : P x = 0
                · rw [if_pos ⟨by omega, h0⟩, if_pos h0]
                · rw [if_neg (by omega), if_neg h0]
              clear hrow hb
              go_wp2
              go_ret
              exact Hfin.out
end Go.Proofs.Qxb6602044a
