/-
  ZZFind.
-/
import Derived.Test.Qxb6602558aF13
namespace Go.Proofs.Qxb6602558a
open Go.RowKit
set_option linter.unusedVariables false

structure Parts (w : World) (J : Job) (ps st : Array Value) (P : Nat → Nat) : Prop where
  zp : ps.size = 1024
  zs : st.size = 256
  pairs : ∀ i, i < 1024 → ps[i]? = some (.int .u64 (P i : Int)) ∧ P i < 18446744073709551616
  bits : ∀ k, k < J.nA → (P ((byteAt (J.A k) 0 * 256 + byteAt (J.A k) 1) / 64)).testBit ((byteAt (J.A k) 0 * 256 + byteAt (J.A k) 1) % 64) = true
  start : ∀ c, c < 256 → ∃ a cap, st[c]? = some (.slice a (J.ks J.nA c).length cap) ∧ ∀ t, t < (J.ks J.nA c).length → ∃ b off, a = some ⟨b, off, none⟩ ∧ b < w.heap.size ∧ w.cell? ⟨b, off + t, none⟩ = some (.int .i64 (J.upto c t : Int))

def ZOut (w : World) (J : Job) (e : Ending) (w' : World) : Prop :=
  ∃ V base B1 B2, e = .returned (.tuple #[.slice (some ⟨B1, 0, none⟩) J.L J.L, .slice (some ⟨B2, 0, none⟩) J.L J.L]) ∧ Row w' B1 37 (Tab J.L (fun l => V (2 * l))) ∧ Row w' B2 22 (Tab J.L (fun l => V (2 * l + 1))) ∧
    Fam w' base (2 * J.L) V (J.nP J.T.size) ∧ Below w.heap.size w w'

theorem tabl_of {w w2 wr : World} {J : Job} {aA aL aN aB aF : Option Addr} {cA bN : Nat} {ps st cs : Array Value} {P : Nat → Nat} {g h : Nat → Value} (H2 : InMem w2 J aA aL aN aB aF) (hp : Parts w J ps st P) (hb : Below w.heap.size w w2) (hb23 : Below w2.heap.size w2 wr)
    (hinto : Row wr w2.heap.size 54 (Tab J.nA g)) (hg : ∀ i, i < J.nA → PairRow w2.heap.size wr (g i) J i) (hnb : Row wr bN 60 (Tab (2 * J.L) h)) (hset : ∀ i, i < J.L → SetAt w2 (h (i * 2)) (J.S1 i) ∧ SetAt w2 (h (i * 2 + 1)) (J.S2 i))
    (k0 : cs[0]? = some (.slice aA J.nA cA)) (k1 : cs[1]? = some (.slice (some ⟨w2.heap.size, 0, none⟩) J.nA J.nA)) (k2 : cs[2]? = some (.int .i64 (J.L : Int))) (k3 : cs[3]? = some (.slice (some ⟨bN, 0, none⟩) J.L J.L)) (k4 : ∀ i, i < 1024 → cs[4 + i]? = ps[i]?) (k5 : ∀ i, i < 256 → cs[1028 + i]? = st[i]?) :
    Tabl (wr.alloc (.cells cs 63)) J wr.heap.size P := by
  have hrow : Row (wr.alloc (.cells cs 63)) wr.heap.size 63 cs.toList := row_at rfl (by simp)
  have hc : ∀ i, (wr.alloc (.cells cs 63)).cell? ⟨wr.heap.size, i, none⟩ = cs[i]? := fun i => by rw [hrow.cell i]; simp
  have hbn : Below wr.heap.size wr (wr.alloc (.cells cs 63)) := (Below.refl _ _).alloc (Nat.le_refl _) _
  have hin := (H2.below hb23).below hbn
  have hb2n : Below w2.heap.size w2 (wr.alloc (.cells cs 63)) := hb23.trans (hbn.mono hb23.size)
  have hb0n : Below w.heap.size w (wr.alloc (.cells cs 63)) := hb.trans (hb2n.mono hb.size)
  refine ⟨hin.ok, hrow.lt, ⟨aA, cA, (hc 0).trans k0, fun k hk => hin.anc k hk⟩, ⟨_, _, (hc 1).trans k1, fun k hk => ?_⟩, (hc 2).trans k2, ⟨_, _, (hc 3).trans k3, fun l hl => ?_⟩, fun i hi => ?_, hp.bits, fun c hc' => ?_, hin.rows, hin.work⟩
  · obtain ⟨b, q1, q2, q3, q4⟩ := hg k hk
    refine ⟨_, _, rfl, (hinto.below hbn hinto.lt).lt, _, J.n k, ?_, fun j hj => ⟨b, 0, rfl, Nat.lt_of_lt_of_le q3 hbn.size, ?_, ?_⟩⟩
    · rw [Nat.zero_add, (hinto.below hbn hinto.lt).cellTab hk, q1]
    · rw [Nat.zero_add, (q4.below hbn q3).cellTab (by omega), pF_0]
    · rw [Nat.zero_add, (q4.below hbn q3).cellTab (by omega), pF_1]
  · refine ⟨_, _, rfl, (hnb.below hbn hnb.lt).lt, h (l * 2), h (l * 2 + 1), ?_, ?_, (hset l hl).1.below hb2n, (hset l hl).2.below hb2n⟩
    · rw [Nat.zero_add, (hnb.below hbn hnb.lt).cellTab (by omega)]
    · rw [Nat.zero_add, (hnb.below hbn hnb.lt).cellTab (by omega)]
  · exact ⟨((hc _).trans (k4 i hi)).trans (hp.pairs i hi).1, (hp.pairs i hi).2⟩
  · obtain ⟨a, cap, q1, q2⟩ := hp.start c hc'
    refine ⟨a, cap, ((hc _).trans (k5 c hc')).trans q1, fun t ht => ?_⟩
    obtain ⟨b, off, r1, r2, r3⟩ := q2 t ht
    exact ⟨b, off, r1, Nat.lt_of_lt_of_le r2 hb0n.size, by rw [hb0n.cell (p := ⟨b, off + t, none⟩) r2]; exact r3⟩

set_option maxRecDepth 100000 in
set_option maxHeartbeats 4000000 in
theorem zfind_any {w : World} {J : Job} {aA aL aN aB aF : Option Addr} {cA cL cN cB cF : Nat} {ps st : Array Value} {P : Nat → Nat} (h : InMem w J aA aL aN aB aF) (hp : Parts w J ps st P) :
    Calls Try.prog 19 #[.slice aA J.nA cA, .slice aL J.nA cL, .slice aN J.nA cN, .int .i64 (J.L : Int), .slice aB J.L cB, .slice aF J.L cF, .agg ps, .agg st, .string J.T] w (ZOut w J) := by
  have H := hide h
  have Hp := hide hp
  have hA := h.ok.ancs
  have hL := h.ok.lists
  have hmk1 := mk_into J.nA (by omega)
  clear h hp
  go_enter Try.func19, Try.ntmps19
  go_upto_region 1 with fail
  have hr36 : Row ((w.alloc (.cells ps 36)).alloc (.cells st 38)) w.heap.size 36 ps.toList := Row.alloc (row_at rfl (by simp)) _
  have hr38 : Row ((w.alloc (.cells ps 36)).alloc (.cells st 38)) (w.heap.size + 1) 38 st.toList := row_at (by simp) (by simp)
  have hb2 : Below w.heap.size w ((w.alloc (.cells ps 36)).alloc (.cells st 38)) := ((Below.refl _ _).alloc (Nat.le_refl _) _).alloc (by simp) _
  have Hr36 := hide hr36
  have Hr38 := hide hr38
  have Hb2 := hide hb2
  clear hr36 hr38 hb2
  generalize (w.alloc (.cells ps 36)).alloc (.cells st 38) = w2 at Hr36 Hr38 Hb2
  have H2 := hide (H.out.below Hb2.out)
  go_wp2
  clear hmk1
  go_loopw [21] (fun i wr => ∃ k : Nat, k ≤ J.nA ∧ i = .int .i64 (k : Int) ∧ (∃ g : Nat → Value, Row wr w2.heap.size 54 (Tab J.nA (fun m => if m < k then g m else .slice none 0 0)) ∧ ∀ i, i < k → PairRow w2.heap.size wr (g i) J i) ∧ w2.heap.size + 1 ≤ wr.heap.size ∧ Below w2.heap.size w2 wr) (fun i _ => J.nA - (intOf i).toNat)
  case atStart =>
    refine ⟨0, Nat.zero_le _, rfl, ⟨fun _ => .slice none 0 0, row_at rfl ?_, fun i hi => absurd hi (Nat.not_lt_zero _)⟩, by simp, (Below.refl _ _).alloc (Nat.le_refl _) _⟩
    show (List.replicate J.nA (Value.slice none 0 0)).toArray = _
    rw [tab_replicate]
    congr 1
  case round =>
    obtain ⟨k, hk, rfl, ⟨g, hrow, hg⟩, hs, hb⟩ := hrel
    have Hrow := hide hrow
    have Hg := hide hg
    have Hs := hide hs
    have Hb := hide hb
    by_cases hlt : k < J.nA
    · have hki : (k : Int) < (J.nA : Int) := by omega
      obtain ⟨bL, oL, rfl, hbL, aR, cR, cL1, hrw⟩ := H2.out.row k hlt
      obtain ⟨bN, oN, rfl, hbN, aS, cS, cN1, hnw⟩ := H2.out.num k hlt
      rw [← hb.cell (p := ⟨bL, oL + k, none⟩) hbL] at cL1
      rw [← hb.cell (p := ⟨bN, oN + k, none⟩) hbN] at cN1
      have hnk := H2.out.rows k hlt
      have hmk2 := mk_pairs (J.n k) hnk
      have Hrw := hide hrw
      have Hnw := hide hnw
      clear hrow hg hs hb hrw hnw
      rename World => wb
      obtain ⟨n, Hn⟩ : ∃ n, Hid (J.n k = n) := ⟨_, hide rfl⟩
      rw [Hn.out] at cL1 cN1 hnk hmk2 Hrw Hnw
      go_wp2
      clear hmk2
      have Hn0 : Hid (Row (wb.alloc (.cells (Tab (2 * n) (fun _ => Value.int .i64 0)).toArray 56)) wb.heap.size 56 (Tab (2 * n) (upTo 2 0 (pF J k) (fun _ => .int .i64 0)))) := hide ((row_at rfl rfl : Row _ _ 56 (Tab (2 * n) (fun _ => Value.int .i64 0))).tabEq (fun m _ => by simp [upTo]))
      have Hb0 : Hid (Below wb.heap.size wb (wb.alloc (.cells (Tab (2 * n) (fun _ => Value.int .i64 0)).toArray 56))) := hide ((Below.refl _ _).alloc (Nat.le_refl _) _)
      have Hs0 : Hid (wb.heap.size + 1 ≤ (wb.alloc (.cells (Tab (2 * n) (fun _ => Value.int .i64 0)).toArray 56)).heap.size) := hide (by simp)
      go_loopw [23] (fun i wr => ∃ j : Nat, j ≤ n ∧ i = .int .i64 (j : Int) ∧ Row wr wb.heap.size 56 (Tab (2 * n) (upTo 2 j (pF J k) (fun _ => .int .i64 0))) ∧ Below wb.heap.size wb wr ∧ wb.heap.size + 1 ≤ wr.heap.size) (fun i _ => n - (intOf i).toNat)
      case atStart => exact ⟨0, Nat.zero_le _, rfl, Hn0.out, Hb0.out, Hs0.out⟩
      case round =>
        clear Hn0 Hb0 Hs0
        obtain ⟨j, hj, rfl, hrw, hbw, hsw⟩ := hrel
        rw [← hbw.cell (p := ⟨bL, oL + k, none⟩) (Nat.lt_of_lt_of_le hbL Hb.out.size)] at cL1
        rw [← hbw.cell (p := ⟨bN, oN + k, none⟩) (Nat.lt_of_lt_of_le hbN Hb.out.size)] at cN1
        have Hrow1 := hide (Hrow.out.below hbw Hrow.out.lt)
        have Hbw := hide hbw
        have Hsw := hide hsw
        by_cases hjl : j < n
        · have hji : (j : Int) < (n : Int) := by omega
          obtain ⟨b1, o1, rfl, hb1, c1⟩ := Hrw.out j hjl
          obtain ⟨b2, o2, rfl, hb2, c2⟩ := Hnw.out j hjl
          rw [← Hb.out.cell (p := ⟨b1, o1 + j, none⟩) hb1, ← hbw.cell (p := ⟨b1, o1 + j, none⟩) (Nat.lt_of_lt_of_le hb1 Hb.out.size)] at c1
          rw [← Hb.out.cell (p := ⟨b2, o2 + j, none⟩) hb2, ← hbw.cell (p := ⟨b2, o2 + j, none⟩) (Nat.lt_of_lt_of_le hb2 Hb.out.size)] at c2
          have e0 := hrw.cellTab (i := j * 2) (by omega)
          have e1 := hrw.cellTab (i := j * 2 + 1) (by omega)
          have f0 := hrw.frozen (j * 2)
          have f1 := hrw.frozen (j * 2 + 1)
          generalize upTo 2 j (pF J k) (fun _ => Value.int .i64 0) (j * 2) = y0 at e0
          generalize upTo 2 j (pF J k) (fun _ => Value.int .i64 0) (j * 2 + 1) = y1 at e1
          have Hput := hide (hrw.put2 (pF_0 J k j) (pF_1 J k j))
          have Honly := hide ((((Only.refl wb.heap.size wr).setCell (j * 2) (.int .i64 (J.il k j : Int))).setCell (j * 2 + 1) (.int .i64 (J.ia k j))).drew)
          generalize (J.il k j : Int) = z1 at c1 Hput Honly
          generalize J.ia k j = z2 at c2 Hput Honly
          clear hrw hbw hsw
          go_upto_region 9 with fail
          go_region
          go_wp2
          go_roundw
          case rel => exact ⟨j + 1, by omega, by go_num, Hput.out.drew, Honly.out.below Hbw.out (Nat.le_refl _), by have := Honly.out.size; have := Hsw.out; omega⟩
          case measure => simp [intOf]; omega
        · have hji : ¬ ((j : Int) < (n : Int)) := by omega
          have Hfull : Hid (Row wr wb.heap.size 56 (Tab (2 * n) (pF J k))) := hide (hrw.tabEq (fun m hm => by unfold upTo; rw [if_pos (by omega)]))
          have c3 := Hrow1.out.cellTab hlt
          have f3 := Hrow1.out.frozen k
          rw [if_neg (Nat.lt_irrefl k)] at c3
          clear hrw hbw hsw cL1 cN1
          go_wp2
          go_roundw
          case rel =>
            have hs0 := Hs.out
            have hbs := Hbw.out.size
            refine ⟨k + 1, by omega, by go_num, ⟨upd g k (.slice (some ⟨wb.heap.size, 0, none⟩) n n), (Hrow1.out.setTab k (.slice (some ⟨wb.heap.size, 0, none⟩) n n)).tabEq (fun m _ => ?_), fun i hi => ?_⟩, by simp [World.setCell]; omega, (Hb.out.trans (Hbw.out.mono (by omega))).setCell (by simp) _⟩
            · by_cases hm : m = k
              · subst hm; rw [if_pos rfl, if_pos (by omega), upd_same]
              · rw [if_neg hm, upd_other _ _ hm]
                by_cases h2 : m < k
                · rw [if_pos h2, if_pos (by omega)]
                · rw [if_neg h2, if_neg (by omega)]
            · by_cases hm : i = k
              · subst hm
                rw [upd_same]
                have hnew : PairRow w2.heap.size wr (.slice (some ⟨wb.heap.size, 0, none⟩) n n) J i := ⟨wb.heap.size, by rw [Hn.out], by omega, by have := Hfull.out.lt; exact this, by rw [Hn.out]; exact Hfull.out⟩
                exact hnew.set _ _
              · rw [upd_other _ _ hm]
                exact ((Hg.out i (by omega)).below Hbw.out).set _ _
          case measure => simp [intOf]; omega
    · have hki : ¬ ((k : Int) < (J.nA : Int)) := by omega
      have Hinto : Hid (Row wr w2.heap.size 54 (Tab J.nA g)) := hide (hrow.tabEq (fun m hm => by rw [if_pos (by omega)]))
      have Hg2 : Hid (∀ i, i < J.nA → PairRow w2.heap.size wr (g i) J i) := hide (fun i hi => hg i (by omega))
      have hmk3 := mk_nb J.L (by omega)
      clear hrow hg hs hb Hrow Hg
      rename World => wb
      go_wp2
      clear hmk3
      have Hm0 : Hid (Row (wb.alloc (.cells (Tab (2 * J.L) (fun _ => Value.pointer none)).toArray 60)) wb.heap.size 60 (Tab (2 * J.L) (fun _ => Value.pointer none))) := hide (row_at rfl rfl)
      have Hb0 : Hid (Below wb.heap.size wb (wb.alloc (.cells (Tab (2 * J.L) (fun _ => Value.pointer none)).toArray 60))) := hide ((Below.refl _ _).alloc (Nat.le_refl _) _)
      go_loopw [25] (fun i wr => ∃ l : Nat, l ≤ J.L ∧ i = .int .i64 (l : Int) ∧ (∃ h : Nat → Value, Row wr wb.heap.size 60 (Tab (2 * J.L) (fun m => if m < 2 * l then h m else .pointer none)) ∧ ∀ i, i < l → SetAt w2 (h (i * 2)) (J.S1 i) ∧ SetAt w2 (h (i * 2 + 1)) (J.S2 i)) ∧ Below wb.heap.size wb wr) (fun i _ => J.L - (intOf i).toNat)
      case atStart => exact ⟨0, Nat.zero_le _, rfl, ⟨fun _ => .pointer none, Hm0.out.tabEq (fun m _ => by simp), fun i hi => absurd hi (Nat.not_lt_zero _)⟩, Hb0.out⟩
      case round =>
        clear Hm0 Hb0
        obtain ⟨l, hl, rfl, ⟨h, hrow, hh⟩, hbw⟩ := hrel
        have Hrow := hide hrow
        have Hh := hide hh
        have Hbw := hide hbw
        by_cases hll : l < J.L
        · have hli : (l : Int) < (J.L : Int) := by omega
          obtain ⟨b4, o4, rfl, hb4, v4, q4, hv4⟩ := H2.out.bef l hll
          obtain ⟨b5, o5, rfl, hb5, v5, q5, hv5⟩ := H2.out.aft l hll
          rw [← Hb.out.cell (p := ⟨b4, o4 + l, none⟩) hb4, ← hbw.cell (p := ⟨b4, o4 + l, none⟩) (Nat.lt_of_lt_of_le hb4 Hb.out.size)] at q4
          rw [← Hb.out.cell (p := ⟨b5, o5 + l, none⟩) hb5, ← hbw.cell (p := ⟨b5, o5 + l, none⟩) (Nat.lt_of_lt_of_le hb5 Hb.out.size)] at q5
          have e0 := hrow.cellTab (i := l * 2) (by omega)
          have e1 := hrow.cellTab (i := l * 2 + 1) (by omega)
          rw [if_neg (by omega)] at e0 e1
          have f0 := hrow.frozen (l * 2)
          have f1 := hrow.frozen (l * 2 + 1)
          have Hput := hide ((hrow.setTab (l * 2) v4).setTab (l * 2 + 1) v5)
          have Honly := hide ((((Only.refl wb.heap.size wr).setCell (l * 2) v4).setCell (l * 2 + 1) v5).drew)
          have Hv4 := hide hv4
          have Hv5 := hide hv5
          obtain ⟨p4, hp4⟩ := setAt_form hv4
          obtain ⟨p5, hp5⟩ := setAt_form hv5
          subst hp4 hp5
          clear hrow hh hbw hv4 hv5
          go_upto_region 15 with fail
          go_region
          go_wp2
          go_roundw
          case rel =>
            refine ⟨l + 1, by omega, by go_num, ⟨upd (upd h (l * 2) (.pointer p4)) (l * 2 + 1) (.pointer p5), Hput.out.drew.tabEq (fun m _ => ?_), fun i hi => ?_⟩, Honly.out.below Hbw.out (Nat.le_refl _)⟩
            · by_cases h1 : m = l * 2 + 1
              · subst h1; rw [if_pos rfl, if_pos (by omega), upd_same]
              rw [if_neg h1, upd_other _ _ h1]
              by_cases h0 : m = l * 2
              · subst h0; rw [if_pos rfl, if_pos (by omega), upd_same]
              rw [if_neg h0, upd_other _ _ h0]
              by_cases h2 : m < 2 * l
              · rw [if_pos h2, if_pos (by omega)]
              · rw [if_neg h2, if_neg (by omega)]
            · by_cases hm : i = l
              · subst hm
                rw [upd_same, upd_other _ _ (show i * 2 ≠ i * 2 + 1 by omega), upd_same]
                exact ⟨Hv4.out, Hv5.out⟩
              · rw [upd_other _ _ (show i * 2 ≠ l * 2 + 1 by omega), upd_other _ _ (show i * 2 ≠ l * 2 by omega), upd_other _ _ (show i * 2 + 1 ≠ l * 2 + 1 by omega), upd_other _ _ (show i * 2 + 1 ≠ l * 2 by omega)]
                exact Hh.out i (by omega)
          case measure => simp [intOf]; omega
        · have hli : ¬ ((l : Int) < (J.L : Int)) := by omega
          have hnb : Row wr wb.heap.size 60 (Tab (2 * J.L) h) := hrow.tabEq (fun m hm => by rw [if_pos (by omega)])
          have hset : ∀ i, i < J.L → SetAt w2 (h (i * 2)) (J.S1 i) ∧ SetAt w2 (h (i * 2 + 1)) (J.S2 i) := fun i hi => hh i (by omega)
          have hb23 : Below w2.heap.size w2 wr := Hb.out.trans (hbw.mono (by have := Hs.out; omega))
          have hr36 : Row wr w.heap.size 36 ps.toList := Hr36.out.below hb23 Hr36.out.lt
          have hr38 : Row wr (w.heap.size + 1) 38 st.toList := Hr38.out.below hb23 Hr38.out.lt
          have hl36 := run_loadVar_row (P := Try.prog) wr w.heap.size 36 36 ps (0, 0) _ (by simpa [Row] using hr36) Try.underlying36 rfl (by rw [Hp.out.zp]; exact Try.size36)
          have hl38 := run_loadVar_row (P := Try.prog) wr (w.heap.size + 1) 38 38 st (0, 0) _ (by simpa [Row] using hr38) Try.underlying38 rfl (by rw [Hp.out.zs]; exact Try.size38)
          obtain ⟨cs, hbuild, k0, k1, k2, k3, k4, k5⟩ := build63 wr aA (some ⟨w2.heap.size, 0, none⟩) (some ⟨wb.heap.size, 0, none⟩) J.nA cA J.nA J.nA J.L J.L (J.L : Int) ps st Hp.out.zp Hp.out.zs
          have Htab := hide (tabl_of H2.out Hp.out Hb2.out hb23 (Hinto.out.below hbw Hinto.out.lt) (fun i hi => (Hg2.out i hi).below hbw) hnb hset k0 k1 k2 k3 k4 k5)
          have K26 := hide (find_any Htab.out)
          have Hb0n : Hid (Below w.heap.size w (wr.alloc (.cells cs 63))) := hide ((Hb2.out.trans (hb23.mono Hb2.out.size)).alloc (Nat.le_trans Hb2.out.size hb23.size) _)
          have hmkI := mk_rowsI J.L (by omega)
          have hmkB := mk_rowsB J.L (by omega)
          clear hrow hh hbw hnb hset hb23 hr36 hr38 k0 k1 k2 k3 k4 k5 Hr36 Hr38 Hinto Hg2 Hrow Hh Hbw H Hp Htab Hb2 H2
          go_upto_region 16 with fail
          go_wp2_with fail
          unfold Oper.wp
          rw [run_load_op rfl (by rfl) hl36, Oper.upon_value]
          go_wp2_with fail
          unfold Oper.wp
          rw [run_load_op rfl (by rfl) hl38, Oper.upon_value]
          rename_i hKb
          refine hKb _ _ ?_
          refine wpList_plain rfl fun Kb hKc => ?_
          unfold Oper.wp
          rw [run_build_op rfl (by simp [Act.put, Act.eval]) hbuild, Oper.upon_value]
          refine hKc _ _ ?_
          clear hl36 hl38 hbuild
          go_wp2_with fail
          obtain ⟨B, HB⟩ : ∃ B, Hid ((wr.alloc (.cells cs 63)).heap.size = B) := ⟨_, hide rfl⟩
          refine Calls.mono (Hid.out K26) ?_
          rintro e w6 ⟨V, he, hf⟩
          rw [HB.out] at he hf
          subst he
          have Hf := hide hf
          have Hb06 : Hid (Below w.heap.size w w6) := hide (Hb0n.out.trans (hf.below.mono (by rw [← HB.out]; exact Hb0n.out.size)))
          clear hf K26 HB Hb0n Hb Hs
          go_wp2
          clear hmkI hmkB
          have Hr1 : Hid (Row ((w6.alloc (.cells (List.replicate J.L (Value.slice none 0 0)).toArray 37)).alloc (.cells (List.replicate J.L (Value.slice none 0 0)).toArray 22)) w6.heap.size 37 (Tab J.L (fun _ => Value.slice none 0 0))) := hide (Row.alloc (row_at rfl (by rw [tab_replicate])) _)
          have Hr2 : Hid (Row ((w6.alloc (.cells (List.replicate J.L (Value.slice none 0 0)).toArray 37)).alloc (.cells (List.replicate J.L (Value.slice none 0 0)).toArray 22)) (w6.heap.size + 1) 22 (Tab J.L (fun _ => Value.slice none 0 0))) := hide (row_at (by simp) (by rw [tab_replicate]))
          have Hb6 : Hid (Below w6.heap.size w6 ((w6.alloc (.cells (List.replicate J.L (Value.slice none 0 0)).toArray 37)).alloc (.cells (List.replicate J.L (Value.slice none 0 0)).toArray 22))) := hide (((Below.refl _ _).alloc (Nat.le_refl _) _).alloc (by simp) _)
          go_loopw [30] (fun i wr => ∃ l : Nat, l ≤ J.L ∧ i = .int .i64 (l : Int) ∧ Row wr w6.heap.size 37 (Tab J.L (fun m => if m < l then V (2 * m) else .slice none 0 0)) ∧ Row wr (w6.heap.size + 1) 22 (Tab J.L (fun m => if m < l then V (2 * m + 1) else .slice none 0 0)) ∧ Below w6.heap.size w6 wr) (fun i _ => J.L - (intOf i).toNat)
          case atStart => exact ⟨0, Nat.zero_le _, rfl, Hr1.out.tabEq (fun m _ => by simp), Hr2.out.tabEq (fun m _ => by simp), Hb6.out⟩
          case round =>
            clear Hr1 Hr2 Hb6
            obtain ⟨l, hl, rfl, h1, h2, hbw⟩ := hrel
            have H1 := hide h1
            have H2 := hide h2
            have Hbw := hide hbw
            by_cases hll : l < J.L
            · have hli : (l : Int) < (J.L : Int) := by omega
              have hrB := Hf.out.r.below hbw Hf.out.r.lt
              have c0 := hrB.cellTab (i := l * 2) (by omega)
              have c1 := hrB.cellTab (i := l * 2 + 1) (by omega)
              obtain ⟨a0, q0, hV0⟩ := owns_form (Hf.out.fam.own (2 * l) (by omega))
              obtain ⟨a1, q1, hV1⟩ := owns_form (Hf.out.fam.own (2 * l + 1) (by omega))
              generalize (J.nP J.T.size (2 * l)).length = n0 at hV0
              generalize (J.nP J.T.size (2 * l + 1)).length = n1 at hV1
              rw [Nat.mul_comm l 2, hV0] at c0
              rw [Nat.mul_comm l 2, hV1] at c1
              rw [Nat.mul_comm 2 l] at c0 c1
              have d0 := h1.cellTab hll
              have d1 := h2.cellTab hll
              rw [if_neg (Nat.lt_irrefl l)] at d0 d1
              have f0 := h1.frozen l
              have f1 := h2.frozen l
              have HV0 := hide hV0
              have HV1 := hide hV1
              clear h1 h2 hbw hrB hV0 hV1
              have hBlt : B < w6.heap.size := Hf.out.r.lt
              have Hr1 := hide (H1.out.setTab l (.slice a0 n0 q0))
              have Hr2 := hide (H2.out.other ⟨w6.heap.size, l, none⟩ (.slice a0 n0 q0) (by show w6.heap.size + 1 ≠ w6.heap.size; omega))
              have Hb7 := hide (Hbw.out.setCell (p := ⟨w6.heap.size, l, none⟩) (Nat.le_refl _) (.slice a0 n0 q0))
              have c1' : (wr.setCell ⟨w6.heap.size, l, none⟩ (.slice a0 n0 q0)).cell? ⟨B, l * 2 + 1, none⟩ = some (.slice a1 n1 q1) := by
                rw [cell_setCell_other _ _ _ _ (by show B ≠ w6.heap.size; omega)]; exact c1
              have d1' := Hr2.out.cellTab hll
              rw [if_neg (Nat.lt_irrefl l)] at d1'
              have f1' := Hr2.out.frozen l
              clear d1 f1 c1
              go_upto_region 24 with fail
              clear c0 d0 f0
              generalize wr.setCell ⟨w6.heap.size, l, none⟩ (.slice a0 n0 q0) = w7 at Hr1 Hr2 Hb7 c1' d1' f1'
              go_wp2
              go_roundw
              case rel =>
                refine ⟨l + 1, by omega, by go_num, (Hr1.out.other ⟨w6.heap.size + 1, l, none⟩ _ (by show w6.heap.size ≠ w6.heap.size + 1; omega)).tabEq (fun m _ => ?_), (Hr2.out.setTab l (.slice a1 n1 q1)).tabEq (fun m _ => ?_), Hb7.out.setCell (by show w6.heap.size ≤ w6.heap.size + 1; omega) _⟩
                · by_cases hm : m = l
                  · subst hm; rw [if_pos rfl, if_pos (by omega), HV0.out]
                  · rw [if_neg hm]
                    by_cases h2 : m < l
                    · rw [if_pos h2, if_pos (by omega)]
                    · rw [if_neg h2, if_neg (by omega)]
                · by_cases hm : m = l
                  · subst hm; rw [if_pos rfl, if_pos (by omega), HV1.out]
                  · rw [if_neg hm]
                    by_cases h2 : m < l
                    · rw [if_pos h2, if_pos (by omega)]
                    · rw [if_neg h2, if_neg (by omega)]
              case measure => simp [intOf]; omega
            · have hli : ¬ ((l : Int) < (J.L : Int)) := by omega
              have Hfin : Hid (ZOut w J (.returned (.tuple #[.slice (some ⟨w6.heap.size, 0, none⟩) J.L J.L, .slice (some ⟨w6.heap.size + 1, 0, none⟩) J.L J.L])) wr) := hide ⟨V, B + 1, w6.heap.size, w6.heap.size + 1, rfl, h1.tabEq (fun m hm => by rw [if_pos (by omega)]), h2.tabEq (fun m hm => by rw [if_pos (by omega)]), Hf.out.fam.grown (below_grown hbw), Hb06.out.trans (hbw.mono Hb06.out.size)⟩
              clear h1 h2 hbw H1 H2
              go_wp2
              go_ret2
              exact Hfin.out
end Go.Proofs.Qxb6602558a
