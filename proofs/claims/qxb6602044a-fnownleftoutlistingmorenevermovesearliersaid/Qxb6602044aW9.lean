import Derived.Test.Qxb6602044aW7
import Derived.Test.Qxb6602044aGr
import Derived.Deep.AppendLies
import Derived.Maps.OwnSet
import Derived.Deep.QuietTactic
import Derived.BigQuiet
namespace Go.Proofs.Qxb6602044a
open Go.RowKit
set_option linter.unusedVariables false


theorem isEmpty_iff (p : ByteArray) : p.toList.isEmpty = true ↔ p = noBytes := by
  rw [List.isEmpty_iff]
  constructor
  · intro h; exact tl_inj (by rw [h, noBytes_toList])
  · intro h; rw [h, noBytes_toList]

/-- the loop over the writes: what holds at the head of round k -/
def Rel1 (wt : List Int) (wi wp : List ByteArray) (w : World) (k : Nat) (wr : World) : Prop :=
  ∃ S L, MapIs encTP wr w.heap.size L ∧ MapIs encTPI wr (w.heap.size + 1) S ∧ SeenOk wt wi wp k S ∧ Groups wr (w.heap.size + 2) L (ownL wt wi wp k) ∧ w.heap.size + 2 ≤ wr.heap.size ∧ Below w.heap.size w wr

theorem Rel1.alloc {wt : List Int} {wi wp : List ByteArray} {w wr : World} {k : Nat} (h : Rel1 wt wi wp w k wr) (o : Obj) : Rel1 wt wi wp w k (wr.alloc o) := by
  obtain ⟨S, L, h1, h2, h3, h4, h5, h6⟩ := h
  exact ⟨S, L, h1.alloc o, h2.alloc o, h3, h4.kept (World.grownBy_alloc _ _ none) (by simp), by simp; omega, h6.alloc (by omega) o⟩

theorem Rel1.skip {wt : List Int} {wi wp : List ByteArray} {w wr : World} {k : Nat} (h : Rel1 wt wi wp w k wr) (hp : wp.getD k noBytes = noBytes) : Rel1 wt wi wp w (k + 1) wr := by
  obtain ⟨S, L, h1, h2, h3, h4, h5, h6⟩ := h
  refine ⟨S, L, h1, h2, h3.skip hp, h4.congr (fun x => (ownL_skip ?_ x).symm), h5, h6⟩
  unfold newAt; rw [hp]; simp

theorem Rel1.had {wt : List Int} {wi wp : List ByteArray} {w wr : World} {k : Nat} (h : Rel1 wt wi wp w k wr) (hs : seenB wt wi wp k (keyAt wt wi wp k) = true) : Rel1 wt wi wp w (k + 1) wr := by
  obtain ⟨S, L, h1, h2, h3, h4, h5, h6⟩ := h
  refine ⟨S, L, h1, h2, h3.had hs, h4.congr (fun x => (ownL_skip ?_ x).symm), h5, h6⟩
  unfold newAt; rw [hs]; simp

theorem put_next (res : List Int) (p l4 : Nat) (r : Int) (h : res.length = p) (hlt : p < l4) : (res.map (Value.int .i64) ++ List.replicate (l4 - p) (Value.int .i64 0)).set p (.int .i64 r) = (res ++ [r]).map (Value.int .i64) ++ List.replicate (l4 - (p + 1)) (.int .i64 0) := by
  subst h
  rw [List.set_append_right _ _ (by simp), show l4 - res.length = (l4 - (res.length + 1)) + 1 from by omega, List.replicate_succ]
  simp

theorem set_last (res : List Int) (p m : Nat) (a r : Int) (h : res.length = p) : ((res ++ [a]).map (Value.int .i64) ++ List.replicate m (Value.int .i64 0)).set p (.int .i64 r) = (res ++ [r]).map (Value.int .i64) ++ List.replicate m (.int .i64 0) := by
  subst h
  rw [List.set_append_left _ _ (by simp)]
  simp [List.set_append_right]

set_option maxRecDepth 100000 in
set_option maxHeartbeats 4000000 in
theorem own_any : Said39 := by
  intro w bh bw br bp l0 l3 l4 lo wt wi wp ri pt pp pv rows pb g0 g3 g4 hl0 hl1 hl2 hl3 hl4 hl5 hl6 hl7 hH hW hR hP hn hs6 hok
  have hmm := @run_makeMap Try.prog
  have hf1 : w.cell? ⟨bh, 1, none⟩ = some (.slice (some ⟨bw, 0, none⟩) l0 l0) := by rw [hH.cell]; rfl
  have Hl0 := hide hl0
  have Hl1 := hide hl1
  have Hl2 := hide hl2
  have Hl3 := hide hl3
  have Hl4 := hide hl4
  have Hl5 := hide hl5
  have Hl6 := hide hl6
  have Hl7 := hide hl7
  clear hl0 hl1 hl2 hl3 hl4 hl5 hl6 hl7
  have hbh := hH.lt
  obtain ⟨i0, hi, hz0, hz1, hz2⟩ := info_parts Try.info3
  go_enter Try.func39, Try.ntmps39
  go_wp2
  go_loopw [24] (fun i wr => ∃ k : Nat, k ≤ l0 ∧ i = .int .i64 k ∧ Rel1 wt wi wp w k wr) (fun i _ => l0 - (intOf i).toNat)
  case atStart =>
    refine ⟨0, Nat.zero_le _, rfl, [], [], ?_, ?_, ?_, ?_, by simp, ((Below.refl _ _).alloc (Nat.le_refl _) _).alloc (by simp) _⟩
    · exact (MapIs.new encTP w).alloc _
    · have := MapIs.new encTPI (w.alloc (.map #[] 0))
      simpa using this
    · intro x; simp [assocGet, seenB]
    · exact ⟨fun x => .inl ⟨rfl, by simp [ownL]⟩, fun x y v v' _ h => by cases h⟩
  case round =>
    obtain ⟨k, hk, rfl, hrel⟩ := hrel
    by_cases hlt : k < l0
    · have e0 := hW.cellTab (i := k * 4) (by omega)
      have e1 := hW.cellTab (i := k * 4 + 1) (by omega)
      have e2 := hW.cellTab (i := k * 4 + 2) (by omega)
      have e3 := hW.cellTab (i := k * 4 + 3) (by omega)
      have hb : Below w.heap.size w wr := by obtain ⟨_, _, _, _, _, _, _, h⟩ := hrel; exact h
      rw [wF_0, ← hb.cell (p := ⟨bw, k * 4, none⟩) hW.lt] at e0
      rw [wF_1, ← hb.cell (p := ⟨bw, k * 4 + 1, none⟩) hW.lt] at e1
      rw [wF_2, ← hb.cell (p := ⟨bw, k * 4 + 2, none⟩) hW.lt] at e2
      rw [wF_3, ← hb.cell (p := ⟨bw, k * 4 + 3, none⟩) hW.lt] at e3
      obtain ⟨t, Ht⟩ : ∃ r, Hid (wt.getD k 0 = r) := ⟨_, hide rfl⟩
      obtain ⟨it, Hi⟩ : ∃ r, Hid (wi.getD k noBytes = r) := ⟨_, hide rfl⟩
      obtain ⟨p, Hp⟩ : ∃ r, Hid (wp.getD k noBytes = r) := ⟨_, hide rfl⟩
      rw [Ht.out] at e0
      rw [Hi.out] at e1
      rw [Hp.out] at e3
      by_cases hpe : p.toList.isEmpty = true
      · go_wp2
        go_roundw
        case rel => exact ⟨k + 1, by omega, by go_num, (hrel.skip (by rw [Hp.out]; exact (isEmpty_iff p).1 hpe)).alloc _⟩
        case measure => simp [intOf]; omega
      · have hpn : wp.getD k noBytes ≠ noBytes := by rw [Hp.out]; exact fun h => hpe ((isEmpty_iff p).2 h)
        have Hpn := hide hpn
        clear hpn
        replace hpe : p.toList.isEmpty = false := by simpa using hpe
        obtain ⟨S, L, hL, hS, hso, hgr, hsz, _⟩ := id hrel
        have hS1 := (hS.alloc (.cells #[.int .i64 t, .string it, .string noBytes, .string p] 71)).alloc (.cells #[.int .i64 t, .string p, .string it] 101)
        have hkey : keyAt wt wi wp k = (t, p, it) := by unfold keyAt; rw [Ht.out, Hp.out, Hi.out]
        have hlk := run_lookup_is key_TPI Try.underlying97 hS1 (t, p, it) (Try.zero4 _)
        rw [hso (t, p, it)] at hlk
        cases hsb : seenB wt wi wp k (t, p, it) with
        | true =>
          rw [hsb] at hlk
          have hlk' : (Instr.lookup 97 (.map (some (w.heap.size + 1))) (.agg #[.int .i64 t, .string p, .string it]) false).run Try.prog ((wr.alloc (.cells #[.int .i64 t, .string it, .string noBytes, .string p] 71)).alloc (.cells #[.int .i64 t, .string p, .string it] 101)) = .ok (.bool true) ((wr.alloc (.cells #[.int .i64 t, .string it, .string noBytes, .string p] 71)).alloc (.cells #[.int .i64 t, .string p, .string it] 101)) := hlk
          clear hlk hS1 hL hS hso hgr
          have Hsb := hide hsb
          have Hkey := hide hkey
          clear hsb hkey
          go_wp2
          go_roundw
          case rel => exact ⟨k + 1, by omega, by go_num, ((hrel.had (by rw [Hkey.out]; exact Hsb.out)).alloc _).alloc _⟩
          case measure => simp [intOf]; omega
        | false =>
          rw [hsb] at hlk
          have hlk' : (Instr.lookup 97 (.map (some (w.heap.size + 1))) (.agg #[.int .i64 t, .string p, .string it]) false).run Try.prog ((wr.alloc (.cells #[.int .i64 t, .string it, .string noBytes, .string p] 71)).alloc (.cells #[.int .i64 t, .string p, .string it] 101)) = .ok (.bool false) ((wr.alloc (.cells #[.int .i64 t, .string it, .string noBytes, .string p] 71)).alloc (.cells #[.int .i64 t, .string p, .string it] 101)) := hlk
          clear hlk
          obtain ⟨hnone, hso2⟩ := hso.put Hpn.out (by rw [hkey]; exact hsb)
          rw [hkey] at hnone hso2
          have hup : (Instr.mapUpdate 97 (.map (some (w.heap.size + 1))) (.agg #[.int .i64 t, .string p, .string it]) (.bool true)).run Try.prog ((wr.alloc (.cells #[.int .i64 t, .string it, .string noBytes, .string p] 71)).alloc (.cells #[.int .i64 t, .string p, .string it] 101)) = _ := run_update_new key_TPI Try.underlying97 hS1 (t, p, it) (.bool true) hnone
          have hL1 := (hL.alloc (.cells #[.int .i64 t, .string it, .string noBytes, .string p] 71)).alloc (.cells #[.int .i64 t, .string p, .string it] 101)
          have hG1 := (hgr.kept (World.grownBy_alloc _ (.cells #[.int .i64 t, .string it, .string noBytes, .string p] 71) none) (by simp)).kept (World.grownBy_alloc _ (.cells #[.int .i64 t, .string p, .string it] 101) none) (by simp)
          have hb1 := (hb.alloc hb.size (.cells #[.int .i64 t, .string it, .string noBytes, .string p] 71)).alloc (by have := hb.size; simp; omega) (.cells #[.int .i64 t, .string p, .string it] 101)
          have hkr : Row ((wr.alloc (.cells #[.int .i64 t, .string it, .string noBytes, .string p] 71)).alloc (.cells #[.int .i64 t, .string p, .string it] 101)) (wr.heap.size + 1) 101 [.int .i64 t, .string p, .string it] := by
            have := Row.new (wr.alloc (.cells #[.int .i64 t, .string it, .string noBytes, .string p] 71)) 101 [.int .i64 t, .string p, .string it]
            simpa using this
          have hs1 : ((wr.alloc (.cells #[.int .i64 t, .string it, .string noBytes, .string p] 71)).alloc (.cells #[.int .i64 t, .string p, .string it] 101)).heap.size = wr.heap.size + 2 := by simp
          have hS2 := hS1.to (S ++ [((t, p, it), .bool true)])
          have honly := mapTo_only encTPI ((wr.alloc (.cells #[.int .i64 t, .string it, .string noBytes, .string p] 71)).alloc (.cells #[.int .i64 t, .string p, .string it] 101)) (w.heap.size + 1) (S ++ [((t, p, it), .bool true)])
          generalize mapTo encTPI ((wr.alloc (.cells #[.int .i64 t, .string it, .string noBytes, .string p] 71)).alloc (.cells #[.int .i64 t, .string p, .string it] 101)) (w.heap.size + 1) (S ++ [((t, p, it), .bool true)]) = W2 at hup hS2 honly
          have hL2 := honly.map hL1 (by omega)
          have hG2 := hG1.kept honly.grown (by intro g hg; injection hg with hg; omega)
          have hb2 := honly.below hb1 (by omega)
          have hs2 : W2.heap.size = wr.heap.size + 2 := by rw [honly.size, hs1]
          have hkr2 := honly.row hkr (by omega)
          clear hL1 hG1 hb1 hkr hs1 honly hS1 hL hS hso hnone hgr
          have c0 : W2.cell? ⟨wr.heap.size + 1, 0, none⟩ = some (.int .i64 t) := by rw [hkr2.cell]; rfl
          have c1 : W2.cell? ⟨wr.heap.size + 1, 1, none⟩ = some (.string p) := by rw [hkr2.cell]; rfl
          have c2 : W2.cell? ⟨wr.heap.size + 1, 2, none⟩ = some (.string it) := by rw [hkr2.cell]; rfl
          -- the one-cell block, then the map's entry
          have hL3 := hL2.alloc (.cells #[.int .i64 (k : Int)] 3)
          have hS3 := hS2.alloc (.cells #[.int .i64 (k : Int)] 3)
          have hG3 := hG2.kept (World.grownBy_alloc _ (.cells #[.int .i64 (k : Int)] 3) none) (by simp)
          have hb3 := hb2.alloc (by rw [hs2]; have := hb.size; omega) (.cells #[.int .i64 (k : Int)] 3)
          have hn3 : Row (W2.alloc (.cells #[.int .i64 (k : Int)] 3)) (wr.heap.size + 2) 3 [.int .i64 (k : Int)] := by
            have := Row.new W2 3 [.int .i64 (k : Int)]
            rw [hs2] at this
            exact this
          obtain ⟨j, L1, W3, hme, hL4, hj, honly3, hset⟩ := entry_any hL3 (t, p)
          have hme' : (Instr.mapEntry 96 (.map (some w.heap.size)) (.agg #[.int .i64 t, .string p])).run Try.prog (W2.alloc (.cells #[.int .i64 (k : Int)] 3)) = _ := hme
          have hS4 := honly3.map hS3 (by omega)
          have hG4 := hG3.kept honly3.grown (by intro g hg; injection hg with hg; omega)
          have hb4 := honly3.below hb3 (Nat.le_refl _)
          have hn4 := honly3.row hn3 (by omega)
          have hs4 : W3.heap.size = wr.heap.size + 3 := by rw [honly3.size]; simp [hs2]
          have hown := hG4.at (t, p)
          have hlen := ownL_length wt wi wp k (t, p)
          have Happ := hide (fun (w1 : World) (g cap n : Nat) (M : List ((Int × ByteArray) × Value)) hg hown hn hloc hL => hG4.append (w1 := w1) (g := g) (cap := cap) (n := n) (t, p) k (L' := M) hg hown hn hloc hL)
          obtain ⟨v, Hv⟩ : ∃ r, Hid ((assocGet (t, p) L).getD (.slice none 0 0) = r) := ⟨_, hide rfl⟩
          rw [Hv.out] at hme' hown
          have Hsb := hide hsb
          have Hkey := hide hkey
          have Hso := hide hso2
          have Hset := hide hset
          have Hown := hide hown
          have Hme := hide hme
          have Hn4 := hide hn4
          have HL4 := hide hL4
          have HS4 := hide hS4
          have Hb4 := hide hb4
          clear hsb hkey hrel hso2 hset hown hme hn4 hL4 hS4 hb4 hG4 hG3 hG2 hL3 hS3 hb3 hn3 honly3 hL2 hS2 hb2 hkr2
          go_wp2_with (at_builtin; refine wpList_append_lies W3 (by rfl) _ _ 22 (by rfl) (w.heap.size + 2) 3 i0 (.int .i64 0) 1 8 Try.underlying22 hi hz0 hz1 hz2 rfl (by decide) v _ _ (by rfl) Hown.out ⟨wr.heap.size + 2, 0, none⟩ 1 1 [.int .i64 (k : Int)] (by rfl) rfl (World.news_of_block Hn4.out) (by simp [Value.oneCell']) (by omega) (by unfold maxLen; omega) (by omega) (by omega) (wr.heap.size + 3) hs4 ?_; intro g cap w4 hown4 hgrow4 hloc hglt)
          obtain ⟨M, hM1, hM2, hM3⟩ := Hset.out (.slice (some ⟨g, 0, none⟩) ((ownL wt wi wp k (t, p)).length + 1) cap)
          have hfar : ∀ b, b < w.heap.size + 2 → some b ≠ v.ownBlock := fun b hb he => by have := (Hown.out.lt b he.symm).1; omega
          have hL5 := HL4.out.grown hgrow4 (hfar _ (by omega))
          rw [run_entryStore hL5 j _ hj M hM1 hM2]
          have hfin : Rel1 wt wi wp w (k + 1) (mapTo encTP w4 w.heap.size M) := by
            have ho5 := mapTo_only encTP w4 w.heap.size M
            have hb5 : Below w.heap.size w w4 := Hb4.out.grown hgrow4 (by rw [hs4]; have := hb.size; omega) (fun b hb => by have := (Hown.out.lt b hb).1; omega)
            refine ⟨_, M, hL5.to M, ho5.map (HS4.out.grown hgrow4 (hfar _ (by omega))) (by omega), Hso.out, ?_, by rw [ho5.size]; have := hgrow4.size; omega, ho5.below hb5 (Nat.le_refl _)⟩
            have hA := Happ.out w4 g cap _ M (by rw [Hv.out]; exact hgrow4) hown4 rfl (by rw [Hv.out, hs4]; exact hloc) hM3
            refine (hA.kept ho5.grown (by intro b hb; injection hb with hb; omega)).congr (fun x => ?_)
            have hnew : newAt wt wi wp k = true := by unfold newAt; rw [Hkey.out, Hsb.out, decide_eq_true Hpn.out]; rfl
            rw [ownL_put hnew x, Ht.out, Hp.out]
          clear hL5 hM1 hM2 hM3 hown4 hgrow4 hloc hfar
          generalize mapTo encTP w4 w.heap.size M = W5 at hfin
          go_wp2
          go_roundw
          case rel => exact ⟨k + 1, by omega, by go_num, hfin⟩
          case measure => simp [intOf]; omega
    · have hrel1 : Rel1 wt wi wp w l0 wr := by have : k = l0 := by omega
                                               rw [← this]; exact hrel
      clear hrel
      obtain ⟨S, L, hL, _, _, hgr, hsz, hb⟩ := hrel1
      have hf3 : wr.cell? ⟨bh, 3, none⟩ = some (.slice (some ⟨bp, 0, none⟩) l4 l4) := by rw [hb.cell (p := ⟨bh, 3, none⟩) hH.lt, hH.cell]; rfl
      have hmk := mk_ints l4 g4
      clear hf1
      rename World => wb
      have hbh2 : bh < wb.heap.size := Nat.lt_of_lt_of_le hbh hb.size
      go_wp2
      go_loopw [67] (fun i wq => ∃ p : Nat, p ≤ l4 ∧ i = .int .i64 p ∧ ∃ res : List Int, res.length = p ∧ Row wq wb.heap.size 3 (res.map (Value.int .i64) ++ List.replicate (l4 - p) (.int .i64 0)) ∧ (∀ i (h : i < res.length), OwnR wt wi wp ri pt pp rows pb i res[i]) ∧ Below wb.heap.size wb wq ∧ wb.heap.size + 1 ≤ wq.heap.size) (fun i _ => l4 - (intOf i).toNat)
      case atStart => exact ⟨0, Nat.zero_le _, rfl, [], rfl, Row.new _ _ _, fun i h => absurd h (by simp), (Below.refl _ _).alloc (Nat.le_refl _) _, by simp⟩
      case round =>
        rename World => wq
        obtain ⟨p, hp, rfl, res, hres, hrow, hR2, hbq, hsq⟩ := hrel
        by_cases hlt2 : p < l4
        · have hpk : p < pv.length := by rw [hn.1, Hl6.out]; exact hlt2
          have hpr : p < rows.length := by rw [Hl6.out]; exact hlt2
          have hbpq : ∀ o, wq.cell? ⟨bp, o, none⟩ = w.cell? ⟨bp, o, none⟩ := fun o => (hbq.cell (p := ⟨bp, o, none⟩) (Nat.lt_of_lt_of_le hP.lt hb.size)).trans (hb.cell (p := ⟨bp, o, none⟩) hP.lt)
          have e0 := hP.cellTab (i := p * 4) (by omega)
          have e1 := hP.cellTab (i := p * 4 + 1) (by omega)
          have e2 := hP.cellTab (i := p * 4 + 2) (by omega)
          have e3 := hP.cellTab (i := p * 4 + 3) (by omega)
          obtain ⟨ar, cr, hv1, hv2, hv3⟩ := hn.2 p hpr
          obtain ⟨t, Ht⟩ : ∃ r, Hid (pt.getD p 0 = r) := ⟨_, hide rfl⟩
          obtain ⟨pr, Hp⟩ : ∃ r, Hid (pp.getD p noBytes = r) := ⟨_, hide rfl⟩
          obtain ⟨rd, Hrd⟩ : ∃ r, Hid (rows[p] = r) := ⟨_, hide rfl⟩
          obtain ⟨bf, Hbf⟩ : ∃ r, Hid (pb.getD p 0 = r) := ⟨_, hide rfl⟩
          rw [Hrd.out] at hv1 hv2 hv3
          rw [pF_0, Ht.out, ← hbpq] at e0
          rw [pF_1, Hp.out, ← hbpq] at e1
          rw [pF_2, List.getD_eq_getElem?_getD, hv1, Option.getD_some, ← hbpq] at e2
          rw [pF_3, Hbf.out, ← hbpq] at e3
          have hbl : wb.heap.size < wq.heap.size := hsq
          have hbp : bp < wq.heap.size := Nat.lt_of_lt_of_le hP.lt (Nat.le_trans hb.size hbq.size)
          have hf : wq.frozen? ⟨wb.heap.size, p, none⟩ = false := hrow.frozen p
          obtain ⟨y0, hc⟩ : ∃ y0, wq.cell? ⟨wb.heap.size, p, none⟩ = some y0 := by
            rw [hrow.cell p]
            exact ⟨_, List.getElem?_eq_getElem (by simp [hres]; omega)⟩
          have Hrow := hide hrow
          have HR2 := hide hR2
          have Hres := hide hres
          clear hrow hR2 hres hbpq hv1
          go_wp2
          -- the world behind 'leftOut[p] = -1'
          have only1 := (Only.refl wb.heap.size wq).setCell p (.int .i64 (-1))
          have hrow1 : Row (wq.setCell ⟨wb.heap.size, p, none⟩ (.int .i64 (-1))) wb.heap.size 3 ((res ++ [-1]).map (Value.int .i64) ++ List.replicate (l4 - (p + 1)) (.int .i64 0)) := by
            have := Hrow.out.set p (.int .i64 (-1))
            rw [put_next _ _ _ _ Hres.out hlt2] at this
            exact this
          have hrow2 := hrow1.alloc (.cells #[.int .i64 t, .string pr, .slice ar rd.length cr, .int .i64 bf] 75)
          have hb2 := (only1.below hbq (Nat.le_refl _)).alloc (by rw [only1.size]; omega) (.cells #[.int .i64 t, .string pr, .slice ar rd.length cr, .int .i64 bf] 75)
          have hrd2 : Row ((wq.setCell ⟨wb.heap.size, p, none⟩ (.int .i64 (-1))).alloc (.cells #[.int .i64 t, .string pr, .slice ar rd.length cr, .int .i64 bf] 75)) wq.heap.size 75 [.int .i64 t, .string pr, .slice ar rd.length cr, .int .i64 bf] := by
            have := Row.new (wq.setCell ⟨wb.heap.size, p, none⟩ (.int .i64 (-1))) 75 [.int .i64 t, .string pr, .slice ar rd.length cr, .int .i64 bf]
            rw [only1.size] at this
            exact this
          have hs2 : ((wq.setCell ⟨wb.heap.size, p, none⟩ (.int .i64 (-1))).alloc (.cells #[.int .i64 t, .string pr, .slice ar rd.length cr, .int .i64 bf] 75)).heap.size = wq.heap.size + 1 := by simp
          generalize (wq.setCell ⟨wb.heap.size, p, none⟩ (.int .i64 (-1))).alloc (.cells #[.int .i64 t, .string pr, .slice ar rd.length cr, .int .i64 bf] 75) = W1 at hrow2 hb2 hrd2 hs2 ⊢
          clear only1 hrow1 e0 e1 e2 e3 hf hc hbl hbp Hrow
          have hL1 := hL.below hb2 hL.lt
          have hlk : (Instr.lookup 96 (.map (some w.heap.size)) (.agg #[.int .i64 t, .string pr]) false).run Try.prog W1 = _ := run_lookup_is key_TP Try.underlying96 hL1 (t, pr) (Try.zero22 W1)
          have hfin : ∀ (wf : World) (r : Int), Row wf wb.heap.size 3 ((res ++ [r]).map (Value.int .i64) ++ List.replicate (l4 - (p + 1)) (.int .i64 0)) → FirstOwn wt wi wp ri t pr rd bf r → Below wb.heap.size wb wf →
              ∃ res' : List Int, res'.length = p + 1 ∧ Row wf wb.heap.size 3 (res'.map (Value.int .i64) ++ List.replicate (l4 - (p + 1)) (.int .i64 0)) ∧ (∀ i (h : i < res'.length), OwnR wt wi wp ri pt pp rows pb i res'[i]) ∧ Below wb.heap.size wb wf ∧ wb.heap.size + 1 ≤ wf.heap.size := by
            intro wf r h1 h2 h3
            refine ⟨res ++ [r], by simp [Hres.out], h1, fun i hi => ?_, h3, h1.lt⟩
            by_cases hlt : i < res.length
            · rw [List.getElem_append_left hlt]
              exact HR2.out i hlt
            · have hip : i = p := by simp at hi; have := Hres.out; omega
              subst hip
              have hrr : rows.getD i [] = rd := getD_of hpr Hrd.out
              have : (res ++ [r])[i] = r := by rw [List.getElem_append_right (by omega)]; simp
              rw [this]
              unfold OwnR
              rw [Ht.out, Hp.out, hrr, Hbf.out]
              exact h2
          have Hfin := hide hfin
          clear hfin
          have q0 : W1.cell? ⟨wq.heap.size, 0, none⟩ = some (.int .i64 t) := by rw [hrd2.cell]; rfl
          have q1 : W1.cell? ⟨wq.heap.size, 1, none⟩ = some (.string pr) := by rw [hrd2.cell]; rfl
          have q2 : W1.cell? ⟨wq.heap.size, 2, none⟩ = some (.slice ar rd.length cr) := by rw [hrd2.cell]; rfl
          have q3 : W1.cell? ⟨wq.heap.size, 3, none⟩ = some (.int .i64 bf) := by rw [hrd2.cell]; rfl
          have Hrow2 := hide hrow2
          clear hrow2 hL1
          rcases hgr.look (t, pr) with ⟨hv, hG⟩ | ⟨g, cap, hv, hG, hg, hcells⟩
          · rw [hv] at hlk
            have hz : ((0 : Int) == 0) = true := rfl
            rw [hlk]
            clear hlk
            go_wp2
            go_quiet (fail)
            go_wp2
            go_roundw
            case rel =>
              obtain ⟨r1, r2⟩ := Hfin.out (W1.drewN nq) (-1) (Hrow2.out.drewN _) (scan_none baOk (j := 0) (fun i _ h => absurd h (by omega)) (.inl (by rw [Hl0.out, hG]; simp))) (below_drewN hb2 _)
              exact ⟨p + 1, by omega, by go_num, r1, r2⟩
            case measure => simp [intOf]; omega
          · obtain ⟨ol, Hol⟩ : ∃ r, Hid (ownL wt wi wp l0 (t, pr) = r) := ⟨_, hide rfl⟩
            rw [hv, Hol.out] at hlk
            rw [hlk]
            clear hlk hv
            rw [Hol.out] at hG
            have hlenp : 0 < ol.length := List.length_pos_iff.2 hG
            have hcl : ∀ i (hi : i < ol.length), W1.cell? ⟨g, i, none⟩ = some (.int .i64 ((ol[i] : Nat) : Int)) := by
              intro i hi
              rw [hb2.cell (p := ⟨g, i, none⟩) hg, hcells i (by rw [Hol.out]; exact hi)]
              simp only [Hol.out]
            have Hcl := hide hcl
            have hollt : ol.length ≤ l0 := by rw [← Hol.out]; exact ownL_length ..
            have Hsub := hide (show ∀ (P : List Nat → Prop), P (ownL wt wi wp wt.length (t, pr)) → P ol from fun P h => by rw [Hl0.out, Hol.out] at h; exact h)
            have Hsub' := hide (show ∀ (P : List Nat → Prop), P ol → P (ownL wt wi wp wt.length (t, pr)) from fun P h => by rw [Hl0.out, Hol.out]; exact h)
            have Hold := hide (show ∀ (a : Addr), a.block < wb.heap.size → W1.cell? a = wb.cell? a from fun a ha => hb2.cell ha)
            have Hall := hide (show ∀ x ∈ ol, x < l0 by rw [← Hol.out]; exact fun x h => (mem_ownL.1 h).1)
            clear hcells hcl hG
            obtain ⟨w0, Hw0⟩ : ∃ r, Hid ((ol[0]'hlenp) = r) := ⟨_, hide rfl⟩
            have hc0 : W1.cell? ⟨g, 0, none⟩ = some (.int .i64 (w0 : Int)) := by rw [Hcl.out 0 hlenp, Hw0.out]
            have hne0 : ((ol.length : Int) == 0) = false := beq_eq_false_iff_ne.2 (by omega)
            have hli : (0 : Int) < (ol.length : Int) := by omega
            by_cases hb0 : bf ≤ (w0 : Int)
            · go_wp2
              go_quiet (fail)
              go_wp2
              go_roundw
              case rel =>
                obtain ⟨r1, r2⟩ := Hfin.out (W1.drewN nq) (-1) (Hrow2.out.drewN _) (scan_none baOk (j := 0) (fun i _ h => absurd h (by omega)) (.inr (Hsub'.out (fun l => ∃ h : 0 < l.length, bf ≤ (l[0] : Nat)) ⟨hlenp, by rw [Hw0.out]; exact hb0⟩))) (below_drewN hb2 _)
                exact ⟨p + 1, by omega, by go_num, r1, r2⟩
              case measure => simp [intOf]; omega
            · have hmh := make_hint (rd.length : Int)
              have hrdl : rd.length ≤ 4194304 := hs6 rd (by rw [← Hrd.out]; exact List.getElem_mem hpr)
              go_wp2
              go_quiet (fail)
              go_wp2
              go_loopw [100] (fun i wm => ∃ j : Nat, j ≤ rd.length ∧ i = .int .i64 j ∧ ∃ M, MapIs encS wm (wq.heap.size + 1) M ∧ ListedOk ri (rd.take j) M ∧ Below (wq.heap.size + 1) W1 wm ∧ wq.heap.size + 2 ≤ wm.heap.size) (fun i _ => rd.length - (intOf i).toNat)
              case atStart =>
                refine ⟨0, Nat.zero_le _, rfl, [], ?_, fun x => rfl, ?_, by simp [hs2]⟩
                · have := (MapIs.new encS W1).drewN nq
                  rw [hs2] at this
                  exact this
                · exact below_drewN ((Below.refl _ _).alloc (by omega) _) _
              case round =>
                rename World => wm
                obtain ⟨j, hj, rfl, M, hM, hMok, hbm, hsm⟩ := hrel
                have hold : ∀ (a : Addr), a.block < w.heap.size → wm.cell? a = w.cell? a := fun a ha => by
                  have h1 : a.block < wb.heap.size := Nat.lt_of_lt_of_le ha hb.size
                  rw [hbm.cell (p := a) (Nat.lt_of_lt_of_le h1 (by have := hbq.size; omega)), Hold.out a h1, hb.cell (p := a) ha]
                by_cases hltj : j < rd.length
                · have hf2 : wm.cell? ⟨bh, 2, none⟩ = some (.slice (some ⟨br, 0, none⟩) l3 l3) := by rw [hold ⟨bh, 2, none⟩ hbh, hH.cell]; rfl
                  obtain ⟨b1, o1, rfl, _, hb1, hc1⟩ := hv3 j (by simpa using hltj)
                  rw [← hold ⟨b1, o1 + j, none⟩ hb1] at hc1
                  simp only [List.getElem_map] at hc1
                  obtain ⟨hr0, hr1⟩ := hok rd (by rw [← Hrd.out]; exact List.getElem_mem hpr) _ (List.getElem_mem hltj)
                  have htk := List.take_succ_eq_append_getElem hltj
                  obtain ⟨r, Hr⟩ : ∃ r, Hid (rd[j] = r) := ⟨_, hide rfl⟩
                  rw [Hr.out] at hc1 hr0 hr1 htk
                  obtain ⟨m, rfl⟩ := Int.eq_ofNat_of_zero_le hr0
                  have hc2 := hR.cellTab (i := m * 6 + 1) (by omega)
                  rw [rF_1, ← hold ⟨br, m * 6 + 1, none⟩ hR.lt] at hc2
                  obtain ⟨M', W, hup, hM', hMok', hoW⟩ := listed_put hM hMok (m : Int) (s := ri.getD m noBytes) (by rw [Int.toNat_natCast])
                  rw [← htk] at hMok'
                  generalize ri.getD m noBytes = s at hc2 hup
                  have hfin3 : ∃ M, MapIs encS W (wq.heap.size + 1) M ∧ ListedOk ri (rd.take (j + 1)) M ∧ Below (wq.heap.size + 1) W1 W ∧ wq.heap.size + 2 ≤ W.heap.size :=
                    ⟨M', hM', hMok', hoW.below hbm (Nat.le_refl _), by rw [hoW.size]; exact hsm⟩
                  have Hfin3 := hide hfin3
                  clear hfin3 hM' hMok' hoW htk hMok hM hold
                  go_wp2
                  go_roundw
                  case rel => exact ⟨j + 1, by omega, by go_num, Hfin3.out⟩
                  case measure => simp [intOf]; omega
                · have hMok2 : ListedOk ri rd M := by rw [List.take_of_length_le (by omega)] at hMok; exact hMok
                  clear hMok
                  go_wp2
                  go_loop [116] (fun i => ∃ n : Nat, n ≤ ol.length ∧ i = .int .i64 n ∧ ∀ i (hi : i < ol.length), i < n → listed (wi.getD (ol[i]) noBytes) rd ri = true) (fun i => ol.length - (intOf i).toNat)
                  case atStart => exact ⟨0, Nat.zero_le _, rfl, fun i _ h => absurd h (by omega)⟩
                  case round =>
                    obtain ⟨n, hnn, rfl, hpre⟩ := hrel
                    have Hpre := hide hpre
                    clear hpre
                    have hbw : Below wb.heap.size wb wm := hb2.trans (hbm.mono (by have := hbq.size; omega))
                    have hrowm : Row wm wb.heap.size 3 ((res ++ [-1]).map (Value.int .i64) ++ List.replicate (l4 - (p + 1)) (.int .i64 0)) := Hrow2.out.below hbm (by omega)
                    have Hrowm := hide hrowm
                    clear hrowm
                    by_cases hltn : n < ol.length
                    · have hcn : wm.cell? ⟨g, n, none⟩ = some (.int .i64 ((ol[n] : Nat) : Int)) := by rw [hbm.cell (p := ⟨g, n, none⟩) (by show g < _; have := hbq.size; omega)]; exact Hcl.out n hltn
                      have hcb : wm.cell? ⟨wq.heap.size, 3, none⟩ = some (.int .i64 bf) := by rw [hbm.cell (p := ⟨wq.heap.size, 3, none⟩) (by show wq.heap.size < _; omega)]; exact q3
                      have hf1 : wm.cell? ⟨bh, 1, none⟩ = some (.slice (some ⟨bw, 0, none⟩) l0 l0) := by rw [hold ⟨bh, 1, none⟩ hbh, hH.cell]; rfl
                      have hmem : ol[n] < l0 := Hall.out _ (List.getElem_mem hltn)
                      have hci := hW.cellTab (i := ol[n] * 4 + 1) (by omega)
                      rw [wF_1, ← hold ⟨bw, ol[n] * 4 + 1, none⟩ hW.lt] at hci
                      have hlk := listed_look hM hMok2 (wi.getD ol[n] noBytes)
                      have Hmn := hide (show ∀ x, x = ol[n] → x = ol[n] from fun _ h => h)
                      have Hitem := hide (rfl : wi.getD ol[n] noBytes = wi.getD ol[n] noBytes)
                      obtain ⟨v, Hv⟩ : ∃ r, Hid (ol[n] = r) := ⟨_, hide rfl⟩
                      rw [Hv.out] at hcn hmem hci hlk
                      obtain ⟨it, Hit⟩ : ∃ r, Hid (wi.getD v noBytes = r) := ⟨_, hide rfl⟩
                      rw [Hit.out] at hci hlk
                      clear Hmn Hitem hold hMok2 hM
                      by_cases hvb : bf ≤ (v : Int)
                      · go_wp2
                        go_roundw
                        case rel =>
                          obtain ⟨r1, r2⟩ := Hfin.out wm (-1) Hrowm.out (scan_none baOk (j := n) (Hsub'.out (fun l => ∀ i (h : i < l.length), i < n → listed (wi.getD (l[i]) noBytes) rd ri = true) Hpre.out) (.inr (Hsub'.out (fun l => ∃ h : n < l.length, bf ≤ (l[n] : Nat)) ⟨hltn, by rw [Hv.out]; exact hvb⟩))) hbw
                          exact ⟨p + 1, by omega, by go_num, r1, r2⟩
                        case measure => simp [intOf]; omega
                      · cases hli : listed it rd ri with
                        | true =>
                          rw [hli] at hlk
                          have Hli := hide hli
                          clear hli
                          go_wp2
                          go_round
                          case rel =>
                            refine ⟨n + 1, by omega, by go_num, fun i hi hin => ?_⟩
                            rcases Nat.lt_succ_iff_lt_or_eq.1 hin with h | h
                            · exact Hpre.out i hi h
                            · subst h
                              rw [Hv.out, Hit.out]
                              exact Hli.out
                          case measure => simp [intOf]; omega
                        | false =>
                          rw [hli] at hlk
                          have Hli := hide hli
                          clear hli
                          have hfz := Hrowm.out.frozen p
                          obtain ⟨y0, hcy⟩ : ∃ y0, wm.cell? ⟨wb.heap.size, p, none⟩ = some y0 := by
                            rw [Hrowm.out.cell p]
                            exact ⟨_, List.getElem?_eq_getElem (by have := Hres.out; simp; omega)⟩
                          go_wp2
                          go_roundw
                          case rel =>
                            have hset := Hrowm.out.set p (.int .i64 (v : Int))
                            rw [set_last _ _ _ _ _ Hres.out] at hset
                            have hlt' := Hsub'.out (fun l => n < l.length) hltn
                            have hpre' := Hsub'.out (fun l => ∀ i (h : i < l.length), i < n → listed (wi.getD (l[i]) noBytes) rd ri = true) Hpre.out
                            have hbf' := Hsub'.out (fun l => ∀ h : n < l.length, ((l[n] : Nat) : Int) < bf) (fun _ => by rw [Hv.out]; omega) hlt'
                            have hun' := Hsub'.out (fun l => ∀ h : n < l.length, listed (wi.getD (l[n]) noBytes) rd ri = false) (fun _ => by rw [Hv.out, Hit.out]; exact Hli.out) hlt'
                            have heq' := Hsub'.out (fun l => ∀ h : n < l.length, ((l[n] : Nat) : Int) = (v : Int)) (fun _ => by rw [Hv.out]) hlt'
                            have hff := scan_found baOk (before := bf) (j := n) hpre' hlt' hbf' hun'
                            rw [heq'] at hff
                            obtain ⟨r1, r2⟩ := Hfin.out (wm.setCell ⟨wb.heap.size, p, none⟩ (.int .i64 (v : Int))) (v : Int) hset hff (hbw.setCell (Nat.le_refl _) _)
                            exact ⟨p + 1, by omega, by go_num, r1, r2⟩
                          case measure => simp [intOf]; omega
                    · go_wp2
                      go_roundw
                      case rel =>
                        obtain ⟨r1, r2⟩ := Hfin.out wm (-1) Hrowm.out (scan_none baOk (j := n) (Hsub'.out (fun l => ∀ i (h : i < l.length), i < n → listed (wi.getD (l[i]) noBytes) rd ri = true) Hpre.out) (.inl (Hsub'.out (fun l => l.length ≤ n) (by omega)))) hbw
                        exact ⟨p + 1, by omega, by go_num, r1, r2⟩
                      case measure => simp [intOf]; omega
        · have hpl : p = l4 := by omega
          have hrow' : Row wq wb.heap.size 3 (res.map (Value.int .i64)) := by
            rw [hpl, Nat.sub_self] at hrow
            simpa using hrow
          have Hfin := hide (show OutIs w l4 (OwnR wt wi wp ri pt pp rows pb) (.returned (.slice (some ⟨wb.heap.size, 0, none⟩) l4 l4)) wq from
            ⟨wb.heap.size, res, rfl, hb.size, by omega, hrow', hR2, hb.trans (hbq.mono hb.size)⟩)
          clear hrow hrow' hR2 hpl hres
          go_wp2
          go_ret
          exact Hfin.out
end Go.Proofs.Qxb6602044a
