import Derived.Test.Qxb6602044aW7
import Derived.RegionTactic
import Derived.BigRegion
import Derived.Deep.DeepCutAuto
namespace Go.Proofs.Qxb6602044a
open Go.RowKit
set_option linter.unusedVariables false

set_option maxRecDepth 100000 in
set_option maxHeartbeats 4000000 in
theorem zzOwn_any (said : Said39) (w : World) (a0 a1 a2 a3 a4 a5 a6 a7 : Option Addr) (l0 l3 l4 c0 c1 c2 c3 c4 c5 c6 c7 : Nat)
    (wt : List Int) (wi wp ri : List ByteArray) (pt : List Int) (pp : List ByteArray) (pv : List Value) (rows : List (List Int)) (pb : List Int)
    (g0 : l0 ≤ 1048576) (g3 : l3 ≤ 1048576) (g4 : l4 ≤ 1048576)
    (hl0 : wt.length = l0) (hl1 : wi.length = l0) (hl2 : wp.length = l0) (hl3 : ri.length = l3) (hl4 : pt.length = l4) (hl5 : pp.length = l4) (hl6 : rows.length = l4) (hl7 : pb.length = l4)
    {n0 n1 n2 n3 n4 n5 n6 n7 : Nat} (hr0 : Reads n0 w a0 (wt.map (Value.int .i64))) (hr1 : Reads n1 w a1 (wi.map Value.string)) (hr2 : Reads n2 w a2 (wp.map Value.string)) (hr3 : Reads n3 w a3 (ri.map Value.string))
    (hr4 : Reads n4 w a4 (pt.map (Value.int .i64))) (hr5 : Reads n5 w a5 (pp.map Value.string)) (hr6 : Reads n6 w a6 pv) (hn6 : NVals n6 w pv rows) (hr7 : Reads n7 w a7 (pb.map (Value.int .i64)))
    (hs6 : ∀ r ∈ rows, r.length ≤ 4194304) (hok : ∀ r ∈ rows, ∀ x ∈ r, idxOk x l3) :
    Calls Try.prog 27 #[.slice a0 l0 c0, .slice a1 l0 c1, .slice a2 l0 c2, .slice a3 l3 c3, .slice a4 l4 c4, .slice a5 l4 c5, .slice a6 l4 c6, .slice a7 l4 c7] w (OutIs w l4 (OwnR wt wi wp ri pt pp rows pb)) := by
  have Hl0 := hide hl0
  have Hl1 := hide hl1
  have Hl2 := hide hl2
  have Hl3 := hide hl3
  have Hl4 := hide hl4
  have Hl5 := hide hl5
  have Hl6 := hide hl6
  have Hl7 := hide hl7
  have Hr0 := hide hr0
  have Hr1 := hide hr1
  have Hr2 := hide hr2
  have Hr3 := hide hr3
  have Hr4 := hide hr4
  have Hr5 := hide hr5
  have Hr6 := hide hr6
  have Hn6 := hide hn6
  have Hr7 := hide hr7
  have Hs6 := hide hs6
  have Hok := hide hok
  clear hl0 hl1 hl2 hl3 hl4 hl5 hl6 hl7 hr0 hr1 hr2 hr3 hr4 hr5 hr6 hn6 hr7 hs6 hok
  have Said := hide said
  clear said
  have hm1 := mk_writes l0 g0
  have hm2 := mk_reads l3 g3
  have hm3 := mk_preds l4 g4
  go_enter Try.func27, Try.ntmps27
  go_upto_region 1 with fail
  go_cut [17] (fun h wx => HistMade w wx h l0 l3 l4)
  case first =>
    go_region
    all_goals
      go_wp2_with fail
      go_meet
      obtain ⟨hA, hB, hC, hD, hb⟩ := four_new w _ _ _ _
      refine ⟨_, _, _, _, rfl, ?_, ?_, ?_, ?_, ?_, ?_, ?_, ?_, ?_, ?_, hD, ?_, ?_, ?_, hb⟩ <;> first | omega | exact hA | exact hB | exact hC
  case rest =>
    obtain ⟨bh, bw, br, bp, rfl, q1, q2, q3, q4, d1, d2, d3, d4, d5, d6, hH, hW, hR, hP, hb⟩ := hcut
    clear hm1 hm2 hm3
    go_wp2
    go_loopw [34] (fun i wr => ∃ k : Nat, k ≤ l0 ∧ i = .int .i64 k ∧ Row wr bh 69 (hCells bw br bp l0 l3 l4) ∧
      Row wr bw 71 (Tab (l0 * 4) (upTo 4 k (wF wt wi wp) z71)) ∧ Row wr br 73 (Tab (l3 * 6) z73) ∧ Row wr bp 75 (Tab (l4 * 4) z75) ∧ Below w.heap.size w wr) (fun i _ => l0 - (intOf i).toNat)
    case atStart => exact ⟨0, Nat.zero_le _, rfl, hH, hW.tabEq (fun m _ => by simp [upTo]), hR, hP, hb⟩
    case round =>
      obtain ⟨k, hk, rfl, h1, h2, h3, h4, hbr⟩ := hrel
      clear hH hW hR hP hb
      by_cases hlt : k < l0
      · have hkt : k < wt.length := by have := Hl0.out; omega
        have hki : k < wi.length := by have := Hl1.out; omega
        have hkp : k < wp.length := by have := Hl2.out; omega
        obtain ⟨b0, o0, rfl, _, u0, hc0⟩ := Hr0.out k (by simpa using hkt)
        obtain ⟨b1, o1, rfl, _, u1, hc1⟩ := Hr1.out k (by simpa using hki)
        obtain ⟨b2, o2, rfl, _, u2, hc2⟩ := Hr2.out k (by simpa using hkp)
        simp only [List.getElem_map] at hc0 hc1 hc2
        obtain ⟨t, Ht⟩ : ∃ r, Hid (wt[k] = r) := ⟨_, hide rfl⟩
        obtain ⟨it, Hi⟩ : ∃ r, Hid (wi[k] = r) := ⟨_, hide rfl⟩
        obtain ⟨p, Hp⟩ : ∃ r, Hid (wp[k] = r) := ⟨_, hide rfl⟩
        rw [Ht.out, ← hbr.cell (p := ⟨b0, o0 + k, none⟩) u0] at hc0
        rw [Hi.out, ← hbr.cell (p := ⟨b1, o1 + k, none⟩) u1] at hc1
        rw [Hp.out, ← hbr.cell (p := ⟨b2, o2 + k, none⟩) u2] at hc2
        have hf : wr.cell? ⟨bh, 1, none⟩ = some (.slice (some ⟨bw, 0, none⟩) l0 l0) := by rw [h1.cell]; rfl
        have e0 := h2.cellTab (i := k * 4) (by omega)
        have e1 := h2.cellTab (i := k * 4 + 1) (by omega)
        have e2 := h2.cellTab (i := k * 4 + 2) (by omega)
        have e3 := h2.cellTab (i := k * 4 + 3) (by omega)
        have f0 := h2.frozen (k * 4)
        have f1 := h2.frozen (k * 4 + 1)
        have f2 := h2.frozen (k * 4 + 2)
        have f3 := h2.frozen (k * 4 + 3)
        have hkl : (k : Int) < (l0 : Int) := by omega
        generalize upTo 4 k (wF wt wi wp) z71 (k * 4) = y0 at e0
        generalize upTo 4 k (wF wt wi wp) z71 (k * 4 + 1) = y1 at e1
        generalize upTo 4 k (wF wt wi wp) z71 (k * 4 + 2) = y2 at e2
        generalize upTo 4 k (wF wt wi wp) z71 (k * 4 + 3) = y3 at e3
        have Hput := hide (h2.put4 (v0 := .int .i64 t) (v1 := .string it) (v2 := .string ⟨#[]⟩) (v3 := .string p) (by rw [wF_0, getD_of hkt Ht.out]) (by rw [wF_1, getD_of hki Hi.out]) (by rw [wF_2]; rfl) (by rw [wF_3, getD_of hkp Hp.out]))
        have Honly := hide ((((((Only.refl bw wr).setCell (k * 4) (.int .i64 t)).setCell (k * 4 + 1) (.string it)).setCell (k * 4 + 2) (.string ⟨#[]⟩)).setCell (k * 4 + 3) (.string p)).drew)
        clear Hr0 Hr1 Hr2 Hr3 Hr4 Hr5 Hr6 Hn6 Hr7
        go_wp2
        go_region
        go_wp2
        go_roundw
        case rel => exact ⟨k + 1, by omega, by go_num, Honly.out.row h1 d1, Hput.out.drew, Honly.out.row h3 (Ne.symm d4), Honly.out.row h4 (Ne.symm d5), Honly.out.below hbr q2⟩
        case measure => simp [intOf]; omega
      · have hkl : k = l0 := by omega
        have Hkl := hide hkl
        clear hkl
        have h2' : Row wr bw 71 (Tab (l0 * 4) (wF wt wi wp)) := h2.tabEq (fun m hm => by have := Hkl.out; subst this; simp [upTo, hm])
        clear h2
        go_wp2
        go_loopw [59] (fun i wr => ∃ k : Nat, k ≤ l3 ∧ i = .int .i64 k ∧ Row wr bh 69 (hCells bw br bp l0 l3 l4) ∧
          Row wr bw 71 (Tab (l0 * 4) (wF wt wi wp)) ∧ Row wr br 73 (Tab (l3 * 6) (upTo 6 k (rF ri) z73)) ∧ Row wr bp 75 (Tab (l4 * 4) z75) ∧ Below w.heap.size w wr) (fun i _ => l3 - (intOf i).toNat)
        case atStart => exact ⟨0, Nat.zero_le _, rfl, h1, h2', h3.tabEq (fun m _ => by simp [upTo]), h4, hbr⟩
        case round =>
          clear h1 h2' h3 h4 hbr hlt Hkl
          obtain ⟨k, hk, rfl, h1, h2, h3, h4, hbr⟩ := hrel
          by_cases hlt : k < l3
          · have hkt : k < ri.length := by have := Hl3.out; omega
            obtain ⟨b0, o0, rfl, _, u0, hc0⟩ := Hr3.out k (by simpa using hkt)
            simp only [List.getElem_map] at hc0
            obtain ⟨t, Ht⟩ : ∃ r, Hid (ri[k] = r) := ⟨_, hide rfl⟩
            rw [Ht.out, ← hbr.cell (p := ⟨b0, o0 + k, none⟩) u0] at hc0
            have hf : wr.cell? ⟨bh, 2, none⟩ = some (.slice (some ⟨br, 0, none⟩) l3 l3) := by rw [h1.cell]; rfl
            have e0 := h3.cellTab (i := k * 6) (by omega)
            have e1 := h3.cellTab (i := k * 6 + 1) (by omega)
            have e2 := h3.cellTab (i := k * 6 + 2) (by omega)
            have e3 := h3.cellTab (i := k * 6 + 3) (by omega)
            have e4 := h3.cellTab (i := k * 6 + 4) (by omega)
            have e5 := h3.cellTab (i := k * 6 + 5) (by omega)
            have f0 := h3.frozen (k * 6)
            have f1 := h3.frozen (k * 6 + 1)
            have f2 := h3.frozen (k * 6 + 2)
            have f3 := h3.frozen (k * 6 + 3)
            have f4 := h3.frozen (k * 6 + 4)
            have f5 := h3.frozen (k * 6 + 5)
            have hkl : (k : Int) < (l3 : Int) := by omega
            generalize upTo 6 k (rF ri) z73 (k * 6) = y0 at e0
            generalize upTo 6 k (rF ri) z73 (k * 6 + 1) = y1 at e1
            generalize upTo 6 k (rF ri) z73 (k * 6 + 2) = y2 at e2
            generalize upTo 6 k (rF ri) z73 (k * 6 + 3) = y3 at e3
            generalize upTo 6 k (rF ri) z73 (k * 6 + 4) = y4 at e4
            generalize upTo 6 k (rF ri) z73 (k * 6 + 5) = y5 at e5
            have Hput := hide (h3.put6 (v0 := .int .i64 0) (v1 := .string t) (v2 := .string ⟨#[]⟩) (v3 := .int .i64 0) (v4 := .int .i64 0) (v5 := .slice none 0 0) (by show rF ri (k * 6 + 0) = _; rw [rF_o _ _ _ (by decide)]; rfl) (by rw [rF_1, getD_of hkt Ht.out]) (by rw [rF_o _ _ _ (by decide)]; rfl) (by rw [rF_o _ _ _ (by decide)]; rfl) (by rw [rF_o _ _ _ (by decide)]; rfl) (by rw [rF_o _ _ _ (by decide)]; rfl))
            have Honly := hide ((((((((Only.refl br wr).setCell (k * 6) (.int .i64 0)).setCell (k * 6 + 1) (.string t)).setCell (k * 6 + 2) (.string ⟨#[]⟩)).setCell (k * 6 + 3) (.int .i64 0)).setCell (k * 6 + 4) (.int .i64 0)).setCell (k * 6 + 5) (.slice none 0 0)).drew)
            clear Hr0 Hr1 Hr2 Hr3 Hr4 Hr5 Hr6 Hn6 Hr7
            go_wp2
            go_region
            go_wp2
            go_roundw
            case rel => exact ⟨k + 1, by omega, by go_num, Honly.out.row h1 d2, Honly.out.row h2 d4, Hput.out.drew, Honly.out.row h4 (Ne.symm d6), Honly.out.below hbr q3⟩
            case measure => simp [intOf]; omega
          · have hkl : k = l3 := by omega
            have Hkl := hide hkl
            clear hkl
            have h3' : Row wr br 73 (Tab (l3 * 6) (rF ri)) := h3.tabEq (fun m hm => by have := Hkl.out; subst this; simp [upTo, hm])
            clear h3
            go_wp2
            go_loopw [76] (fun i wr => ∃ k : Nat, k ≤ l4 ∧ i = .int .i64 k ∧ Row wr bh 69 (hCells bw br bp l0 l3 l4) ∧
              Row wr bw 71 (Tab (l0 * 4) (wF wt wi wp)) ∧ Row wr br 73 (Tab (l3 * 6) (rF ri)) ∧ Row wr bp 75 (Tab (l4 * 4) (upTo 4 k (pF pt pp pv pb) z75)) ∧ Below w.heap.size w wr) (fun i _ => l4 - (intOf i).toNat)
            case atStart => exact ⟨0, Nat.zero_le _, rfl, h1, h2, h3', h4.tabEq (fun m _ => by simp [upTo]), hbr⟩
            case round =>
              clear h1 h2 h3' h4 hbr hlt Hkl
              obtain ⟨k, hk, rfl, h1, h2, h3, h4, hbr⟩ := hrel
              by_cases hlt : k < l4
              · have hkt : k < pt.length := by have := Hl4.out; omega
                have hkp : k < pp.length := by have := Hl5.out; omega
                have hkr : k < rows.length := by have := Hl6.out; omega
                have hkv : k < pv.length := by rw [Hn6.out.1]; exact hkr
                have hkb : k < pb.length := by have := Hl7.out; omega
                obtain ⟨b0, o0, rfl, _, u0, hc0⟩ := Hr4.out k (by simpa using hkt)
                obtain ⟨b1, o1, rfl, _, u1, hc1⟩ := Hr5.out k (by simpa using hkp)
                obtain ⟨b2, o2, rfl, _, u2, hc2⟩ := Hr6.out k hkv
                obtain ⟨b3, o3, rfl, _, u3, hc3⟩ := Hr7.out k (by simpa using hkb)
                simp only [List.getElem_map] at hc0 hc1 hc3
                obtain ⟨ak, ck, e1, _, _⟩ := Hn6.out.2 k hkr
                rw [List.getElem?_eq_getElem hkv] at e1
                injection e1 with e1
                obtain ⟨t, Ht⟩ : ∃ r, Hid (pt[k] = r) := ⟨_, hide rfl⟩
                obtain ⟨p, Hp⟩ : ∃ r, Hid (pp[k] = r) := ⟨_, hide rfl⟩
                obtain ⟨rl, Hrl⟩ : ∃ r, Hid ((rows[k]).length = r) := ⟨_, hide rfl⟩
                obtain ⟨bf, Hbf⟩ : ∃ r, Hid (pb[k] = r) := ⟨_, hide rfl⟩
                rw [Hrl.out] at e1
                have Hv := hide e1
                clear e1
                rw [Ht.out, ← hbr.cell (p := ⟨b0, o0 + k, none⟩) u0] at hc0
                rw [Hp.out, ← hbr.cell (p := ⟨b1, o1 + k, none⟩) u1] at hc1
                rw [Hv.out, ← hbr.cell (p := ⟨b2, o2 + k, none⟩) u2] at hc2
                rw [Hbf.out, ← hbr.cell (p := ⟨b3, o3 + k, none⟩) u3] at hc3
                have hf : wr.cell? ⟨bh, 3, none⟩ = some (.slice (some ⟨bp, 0, none⟩) l4 l4) := by rw [h1.cell]; rfl
                have e0 := h4.cellTab (i := k * 4) (by omega)
                have e1 := h4.cellTab (i := k * 4 + 1) (by omega)
                have e2 := h4.cellTab (i := k * 4 + 2) (by omega)
                have e3 := h4.cellTab (i := k * 4 + 3) (by omega)
                have f0 := h4.frozen (k * 4)
                have f1 := h4.frozen (k * 4 + 1)
                have f2 := h4.frozen (k * 4 + 2)
                have f3 := h4.frozen (k * 4 + 3)
                have hkl : (k : Int) < (l4 : Int) := by omega
                generalize upTo 4 k (pF pt pp pv pb) z75 (k * 4) = y0 at e0
                generalize upTo 4 k (pF pt pp pv pb) z75 (k * 4 + 1) = y1 at e1
                generalize upTo 4 k (pF pt pp pv pb) z75 (k * 4 + 2) = y2 at e2
                generalize upTo 4 k (pF pt pp pv pb) z75 (k * 4 + 3) = y3 at e3
                have Hput := hide (h4.put4 (v0 := .int .i64 t) (v1 := .string p) (v2 := .slice ak rl ck) (v3 := .int .i64 bf) (by rw [pF_0, getD_of hkt Ht.out]) (by rw [pF_1, getD_of hkp Hp.out]) (by rw [pF_2, getD_of hkv Hv.out]) (by rw [pF_3, getD_of hkb Hbf.out]))
                have Honly := hide ((((((Only.refl bp wr).setCell (k * 4) (.int .i64 t)).setCell (k * 4 + 1) (.string p)).setCell (k * 4 + 2) (.slice ak rl ck)).setCell (k * 4 + 3) (.int .i64 bf)).drew)
                clear Hr0 Hr1 Hr2 Hr3 Hr4 Hr5 Hr6 Hn6 Hr7
                go_wp2
                go_region
                go_wp2
                go_roundw
                case rel => exact ⟨k + 1, by omega, by go_num, Honly.out.row h1 d3, Honly.out.row h2 d5, Honly.out.row h3 d6, Hput.out.drew, Honly.out.below hbr q4⟩
                case measure => simp [intOf]; omega
              · have hkl : k = l4 := by omega
                have h4' : Row wr bp 75 (Tab (l4 * 4) (pF pt pp pv pb)) := h4.tabEq (fun m hm => by subst hkl; simp [upTo, hm])
                clear h4 hkl
                have K := hide (Said.out wr bh bw br bp l0 l3 l4 n6 wt wi wp ri pt pp pv rows pb g0 g3 g4 Hl0.out Hl1.out Hl2.out Hl3.out Hl4.out Hl5.out Hl6.out Hl7.out h1 h2 h3 h4' (Hn6.out.below hbr (Nat.le_refl _)) Hs6.out Hok.out)
                go_wp2_with fail
                refine Calls.mono (Hid.out K) ?_
                rintro e w1 ⟨bo, res, rfl, y1, y2, y3, y4, y5⟩
                clear h1 h2 h3 h4'
                have Hy4 := hide y4
                clear y4
                go_wp2
                go_ret
                exact ⟨bo, res, rfl, Nat.le_trans hbr.size y1, y2, y3, Hy4.out, hbr.trans (y5.mono hbr.size)⟩
end Go.Proofs.Qxb6602044a
