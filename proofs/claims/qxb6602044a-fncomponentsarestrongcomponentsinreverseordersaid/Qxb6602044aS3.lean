/-
  zzReverseSteps: THE KEPT STEPS TURNED ROUND.
-/
import Derived.Test.Qxb6602044aS1
namespace Go.Proofs.Qxb6602044a
open Go.RowKit
set_option linter.unusedVariables false

theorem drews (w : World) (a b : Nat) : ∃ k, (w.drewN a).drewN b = w.drewN k := by
  induction b with
  | zero => exact ⟨a, rfl⟩
  | succ b ih =>
    obtain ⟨k, hk⟩ := ih
    exact ⟨k + 1, by show ((w.drewN a).drewN b).drew = (w.drewN k).drew; rw [hk]⟩

theorem Row.drews {w : World} {b : Nat} {e : TypeId} {l : List Value} (h : Row w b e l) (n : Nat) : Row (w.drewN n) b e l := by
  induction n with
  | zero => exact h
  | succ n ih => exact ih.drew

/-- what zzReverseSteps hands back -/
def RevOut (w : World) (N : Nat) (G : Tj.Gr) (cmp : Nat → Nat) (e : Ending) (w' : World) : Prop :=
  ∃ bs br r, e = .returned (.tuple #[.slice (some ⟨bs, 0, none⟩) (N + 1) (N + 1), .slice (some ⟨br, 0, none⟩) (Tj.pre G cmp N) (Tj.pre G cmp N)]) ∧ Row w' bs 3 (Tab (N + 1) (fun v => nv (Tj.pre G cmp v))) ∧
    Row w' br 3 (Tab (Tj.pre G cmp N) (fun t => nv (r t))) ∧ Tj.Laid G cmp r G.M ∧ Below w.heap.size w w'

def cntRow (G : Tj.Gr) (cmp : Nat → Nat) (k x : Nat) : Nat := if x = 0 then 0 else Tj.cnt G cmp k (x - 1)
def preRow (G : Tj.Gr) (cmp : Nat → Nat) (v x : Nat) : Nat := if x ≤ v then Tj.pre G cmp x else Tj.cnt G cmp G.M (x - 1)

theorem cntRow_skip {G : Tj.Gr} {cmp : Nat → Nat} {k : Nat} (h : Tj.kept G cmp k = false) (x : Nat) : cntRow G cmp (k + 1) x = cntRow G cmp k x := by
  unfold cntRow
  rw [Tj.cnt_succ, if_neg (show ¬ (Tj.kept G cmp k = true ∧ G.to k = x - 1) by rw [h]; simp), Nat.add_zero]

theorem cntRow_put {G : Tj.Gr} {cmp : Nat → Nat} {k : Nat} (h : Tj.kept G cmp k = true) (x : Nat) : cntRow G cmp (k + 1) x = if x = G.to k + 1 then Tj.cnt G cmp k (G.to k) + 1 else cntRow G cmp k x := by
  unfold cntRow
  by_cases h0 : x = 0
  · rw [if_pos h0, if_neg (by omega), if_pos h0]
  · rw [if_neg h0, if_neg h0, Tj.cnt_succ]
    by_cases h1 : x = G.to k + 1
    · rw [if_pos h1, if_pos ⟨h, by omega⟩, h1]; rfl
    · rw [if_neg h1, if_neg (by omega), Nat.add_zero]

theorem cnt_all {G : Tj.Gr} {cmp : Nat → Nat} (x : Nat) : cntRow G cmp G.M x = preRow G cmp 0 x := by
  unfold cntRow preRow
  by_cases h0 : x = 0
  · subst h0; rfl
  · rw [if_neg h0, if_neg (by omega)]

theorem preRow_put {G : Tj.Gr} {cmp : Nat → Nat} {v : Nat} (x : Nat) : preRow G cmp (v + 1) x = if x = v + 1 then Tj.cnt G cmp G.M v + Tj.pre G cmp v else preRow G cmp v x := by
  unfold preRow
  by_cases h1 : x = v + 1
  · subst h1
    rw [if_pos (Nat.le_refl _), if_pos rfl]
    show Tj.pre G cmp v + _ = _
    omega
  · rw [if_neg h1]
    by_cases h2 : x ≤ v
    · rw [if_pos h2, if_pos (by omega)]
    · rw [if_neg h2, if_neg (by omega)]

theorem fill_put {G : Tj.Gr} {cmp : Nat → Nat} {k : Nat} (h : Tj.kept G cmp k = true) (x : Nat) : Tj.pre G cmp x + Tj.cnt G cmp (k + 1) x = if x = G.to k then Tj.pre G cmp (G.to k) + Tj.cnt G cmp k (G.to k) + 1 else Tj.pre G cmp x + Tj.cnt G cmp k x := by
  rw [Tj.cnt_succ]
  by_cases h1 : x = G.to k
  · subst h1; rw [if_pos ⟨h, rfl⟩, if_pos rfl]; omega
  · rw [if_neg h1, if_neg (fun h2 => h1 h2.2.symm), Nat.add_zero]

theorem fill_skip {G : Tj.Gr} {cmp : Nat → Nat} {k : Nat} (h : Tj.kept G cmp k = false) (x : Nat) : Tj.pre G cmp x + Tj.cnt G cmp (k + 1) x = Tj.pre G cmp x + Tj.cnt G cmp k x := by
  rw [Tj.cnt_succ, if_neg (show ¬ (Tj.kept G cmp k = true ∧ G.to k = x) by rw [h]; simp), Nat.add_zero]

/-- the second pass: what the three rows hold, the first k steps gone through -/
def Pass2 (w : World) (N : Nat) (G : Tj.Gr) (cmp : Nat → Nat) (k : Nat) (wr : World) : Prop :=
  ∃ r, Tj.Laid G cmp r k ∧ Row wr (w.heap.size + 1) 3 (Tab (Tj.pre G cmp N) (fun t => nv (r t))) ∧ Row wr (w.heap.size + 2) 3 (Tab N (fun x => nv (Tj.pre G cmp x + Tj.cnt G cmp k x))) ∧ Row wr w.heap.size 3 (Tab (N + 1) (fun v => nv (Tj.pre G cmp v))) ∧ Below w.heap.size w wr

set_option maxRecDepth 100000 in
set_option maxHeartbeats 4000000 in
theorem reverse_any {w : World} {b0 bc N : Nat} {a1 a2 : Option Addr} {z0 z1 z2 : List Int} (h : GIn w b0 a1 a2 z0 z1 z2) (plain : Int) (hN : z0.length = N + 1) {most : Nat} (hmo : most < 256) {cmp : Nat → Nat}
    (hc : Row w bc 3 (Tab N (fun v => nv (cmp v)))) :
    Calls Try.prog 17 #[.slice (some ⟨b0, 0, none⟩) (N + 1) (N + 1), .slice a1 z1.length z1.length, .slice a2 z2.length z2.length, .int .i64 (most : Int), .slice (some ⟨bc, 0, none⟩) N N] w (RevOut w N (zGr z0 z1 z2 plain most) cmp) := by
  have hNs : N ≤ 131072 := by have := h.s0; omega
  have hs1 := h.s1
  obtain ⟨G, HG⟩ : ∃ G, Hid (zGr z0 z1 z2 plain most = G) := ⟨_, hide rfl⟩
  rw [HG.out]
  have hGN : G.N = N := by rw [← HG.out]; show z0.length - 1 = N; rw [hN]; rfl
  have hGM : G.M = z1.length := by rw [← HG.out]; rfl
  have hcst : ∀ n, n ≤ N → w.cell? ⟨b0, n, none⟩ = some (.int .i64 (G.st n : Int)) := fun n hn => by rw [← HG.out]; exact h.cst plain most (by omega)
  have hcto : ∀ j, j < z1.length → ∃ b off, a1 = some ⟨b, off, none⟩ ∧ b < w.heap.size ∧ w.cell? ⟨b, off + j, none⟩ = some (.int .i64 (G.to j : Int)) := fun j hj => by rw [← HG.out]; exact h.cto plain most hj
  have hckd : ∀ j, j < z1.length → ∃ b off, a2 = some ⟨b, off, none⟩ ∧ b < w.heap.size ∧ w.cell? ⟨b, off + j, none⟩ = some (.int .u8 ((z2.getD j 0).toNat : Int)) := fun j hj => h.ckd hj
  have hkd : ∀ j, (z2.getD j 0).toNat < 256 := fun i => by
    by_cases hi : i < z2.length
    · have := h.u2 _ (getD_mem hi)
      omega
    · rw [List.getD_eq_getElem?_getD, List.getElem?_eq_none (by omega)]
      decide
  have hok : ∀ j, G.ok j = decide ((z2.getD j 0).toNat ≤ most) := fun j => by rw [← HG.out]; rfl
  have hval : G.Valid := by rw [← HG.out]; exact h.valid plain most
  have hz2 : z2.length = z1.length := h.ok.kind
  have hlt0 := h.lt
  have hm1 := mk_ints (N + 1) (by omega)
  have Hc := hide hc
  have Hcst := hide hcst
  have Hcto := hide hcto
  have Hckd := hide hckd
  have Hkd := hide hkd
  have Hok := hide hok
  have Hval := hide hval
  have HGN := hide hGN
  have HGM := hide hGM
  rw [hz2]
  clear h hN hc hcst hcto hckd hkd hok hval hGN hGM hz2
  have hm1' : ∀ w : World, (Instr.makeSlice 22 (.int .i64 ((N : Int) + 1)) (.int .i64 ((N : Int) + 1))).run Try.prog w = .ok (.slice (some ⟨w.heap.size, 0, none⟩) (N + 1) (N + 1)) (w.alloc (.cells (List.replicate (N + 1) (.int .i64 0)).toArray 3)) := hm1
  clear hm1
  go_enter Try.func17, Try.ntmps17
  go_wp2
  clear hm1'
  go_loopg [14] N (fun k i wr => ∃ u : Nat, u + k = N ∧ i = .int .i64 (u : Int) ∧ Row wr w.heap.size 3 (Tab (N + 1) (fun x => nv (cntRow G cmp (G.st u) x))) ∧ wr.heap.size = w.heap.size + 1 ∧ Below w.heap.size w wr)
  case atStart =>
    refine ⟨0, by omega, rfl, ?_, by simp, (Below.refl _ _).alloc (Nat.le_refl _) _⟩
    refine row_at rfl ?_
    show (List.replicate (N + 1) (Value.int .i64 0)).toArray = _
    rw [tab_replicate]
    congr 1
    refine Tab.congr (fun x _ => ?_)
    rw [Hval.out.first]
    unfold cntRow
    by_cases h0 : x = 0
    · rw [if_pos h0]; rfl
    · rw [if_neg h0]; rfl
  case round =>
    obtain ⟨u, huk, rfl, hrow, hsz, hb⟩ := hrel
    by_cases huN : u < N
    · have hui : (u : Int) < (N : Int) := by omega
      have hui1 : (u : Int) < (N : Int) + 1 := by omega
      have hui2 : (u : Int) + 1 < (N : Int) + 1 := by omega
      have cs : wr.cell? ⟨b0, u, none⟩ = some (.int .i64 (G.st u : Int)) := by rw [hb.cell (p := ⟨b0, u, none⟩) hlt0]; exact Hcst.out u (by omega)
      have hmono := Hval.out.mono u (by rw [HGN.out]; exact huN)
      have hle := Hval.out.le (u + 1) (by rw [HGN.out]; omega)
      rw [HGM.out] at hle
      have Hrow := hide hrow
      have Hsz := hide hsz
      have Hb := hide hb
      clear hrow hsz hb
      go_wp2
      clear cs
      go_loopg [15] (G.st (u + 1) - G.st u) (fun k i wr => ∃ j : Nat, j + k = G.st (u + 1) ∧ G.st u ≤ j ∧ i = .int .i64 (j : Int) ∧ Row wr w.heap.size 3 (Tab (N + 1) (fun x => nv (cntRow G cmp j x))) ∧ wr.heap.size = w.heap.size + 1 ∧ Below w.heap.size w wr)
      case atStart => exact ⟨G.st u, by omega, Nat.le_refl _, rfl, Hrow.out, Hsz.out, Hb.out⟩
      case round =>
        clear Hrow Hsz Hb
        obtain ⟨j, hjk, hj0, rfl, hrow, hsz, hb⟩ := hrel
        have c1 : wr.cell? ⟨b0, u + 1, none⟩ = some (.int .i64 (G.st (u + 1) : Int)) := by rw [hb.cell (p := ⟨b0, u + 1, none⟩) hlt0]; exact Hcst.out (u + 1) (by omega)
        by_cases hlt3 : j < G.st (u + 1)
        · have hji : (j : Int) < (G.st (u + 1) : Int) := by omega
          have hjM : j < z1.length := by omega
          have hjMi : (j : Int) < (z1.length : Int) := by omega
          obtain ⟨b1, o1, rfl, hb1, cto⟩ := Hcto.out j hjM
          obtain ⟨b2, o2, rfl, hb2, ckd⟩ := Hckd.out j hjM
          rw [← hb.cell (p := ⟨b1, o1 + j, none⟩) hb1] at cto
          rw [← hb.cell (p := ⟨b2, o2 + j, none⟩) hb2] at ckd
          have hvN : G.to j < N := by have := Hval.out.ends j (by rw [HGM.out]; exact hjM); rw [HGN.out] at this; exact this
          have hkd1 := Hkd.out j
          have hkept : Tj.kept G cmp j = (decide ((z2.getD j 0).toNat ≤ most) && decide (cmp u = cmp (G.to j))) := by rw [Tj.kept_eq Hval.out (by rw [HGN.out]; exact huN) hj0 hlt3, Hok.out]
          have K34 := hide (fun k => keep_any (wr := wr.drewN k) (bc := bc) (N := N) (cmp := cmp) (fun v hv => by rw [(below_drew hb k).cell (p := ⟨bc, v, none⟩) Hc.out.lt]; exact Hc.out.cellTab hv) huN hvN hkd1 hmo hNs)
          rw [← hkept] at K34
          have hcl : Tj.cnt G cmp j (G.to j) ≤ 131072 := by have := Tj.cnt_le G cmp j (G.to j); omega
          have cm : wr.cell? ⟨w.heap.size, G.to j + 1, none⟩ = some (.int .i64 (Tj.cnt G cmp j (G.to j) : Int)) := hrow.cellTab (show G.to j + 1 < N + 1 by omega)
          have fm := hrow.frozen (G.to j + 1)
          have hmi : (G.to j : Int) + 1 < (N : Int) + 1 := by omega
          have hdist : b1 ≠ w.heap.size := by omega
          have Hrow := hide hrow
          have Hsz := hide hsz
          have Hb := hide hb
          clear hkept hrow hsz hb
          have Hput := hide (fun h : Tj.kept G cmp j = true => (Hrow.out.setTab (G.to j + 1) (nv (Tj.cnt G cmp j (G.to j) + 1))).tabEq (G := fun x => nv (cntRow G cmp (j + 1) x)) (fun x _ => by
            rw [cntRow_put h]
            by_cases hx : x = G.to j + 1
            · rw [if_pos hx, if_pos hx]
            · rw [if_neg hx, if_neg hx]))
          have Hskip := hide (fun h : Tj.kept G cmp j = false => Hrow.out.tabEq (G := fun x => nv (cntRow G cmp (j + 1) x)) (fun x _ => by rw [cntRow_skip h]))
          generalize Tj.cnt G cmp j (G.to j) = y at cm hcl Hput
          generalize G.to j = m at cto hvN K34 cm fm hmi Hput
          generalize (z2.getD j 0).toNat = kd at ckd hkd1 K34
          go_upto_region 9 with fail
          go_quiet ((go_at_call 34; refine Calls.mono (Hid.out K34 _) ?_; rintro e1 w5 ⟨rfl, k5, rfl⟩; exact ⟨rfl, drews _ _ _⟩))
          clear K34
          cases hkp : Tj.kept G cmp j with
          | true =>
            have Hrow2 := hide (Row.drews (Hput.out hkp) nq)
            have Hb2 := hide (below_drew (Hb.out.setCell (p := ⟨w.heap.size, m + 1, none⟩) (Nat.le_refl _) (nv (y + 1))) nq)
            have Hsz2 : Hid (((wr.setCell ⟨w.heap.size, m + 1, none⟩ (nv (y + 1))).drewN nq).heap.size = w.heap.size + 1) := hide (by have := Hsz.out; simpa [World.setCell] using this)
            clear hkp Hput Hskip Hrow Hb
            go_wp2
            go_roundg (gk - 1)
            case measure => omega
            case rel => exact ⟨j + 1, by omega, by omega, by go_num, Hrow2.out, Hsz2.out, Hb2.out⟩
          | false =>
            have Hrow2 := hide (Row.drews (Hskip.out hkp) nq)
            have Hb2 := hide (below_drew Hb.out nq)
            clear hkp Hput Hskip Hrow Hb
            go_wp2
            go_roundg (gk - 1)
            case measure => omega
            case rel => exact ⟨j + 1, by omega, by omega, by go_num, Hrow2.out, Hsz.out, Hb2.out⟩
        · have hji : ¬ ((j : Int) < (G.st (u + 1) : Int)) := by omega
          have hje : j = G.st (u + 1) := by omega
          have Hrow : Hid (Row wr w.heap.size 3 (Tab (N + 1) (fun x => nv (cntRow G cmp (G.st (u + 1)) x)))) := hide (by rw [← hje]; exact hrow)
          have Hsz := hide hsz
          have Hb := hide hb
          clear hrow hsz hb hje
          go_wp2
          go_roundg (N - u - 1)
          case measure => omega
          case rel => exact ⟨u + 1, by omega, by go_num, Hrow.out, Hsz.out, Hb.out⟩
    · have hui : ¬ ((u : Int) < (N : Int)) := by omega
      have hue : u = N := by omega
      have Hrow : Hid (Row wr w.heap.size 3 (Tab (N + 1) (fun x => nv (preRow G cmp 0 x)))) := hide (hrow.tabEq (fun x _ => by
        show nv _ = nv _
        rw [hue, ← HGN.out, Hval.out.last, cnt_all]))
      have Hsz := hide hsz
      have Hb := hide hb
      clear hrow hsz hb hue
      go_wp2
      go_loopg [16] N (fun k i wr => ∃ v : Nat, v + k = N ∧ i = .int .i64 (v : Int) ∧ Row wr w.heap.size 3 (Tab (N + 1) (fun x => nv (preRow G cmp v x))) ∧ wr.heap.size = w.heap.size + 1 ∧ Below w.heap.size w wr)
      case atStart => exact ⟨0, by omega, rfl, Hrow.out, Hsz.out, Hb.out⟩
      case round =>
        clear Hrow Hsz Hb
        obtain ⟨v, hvk, rfl, hrow, hsz, hb⟩ := hrel
        by_cases hvN : v < N
        · have hvi : (v : Int) < (N : Int) := by omega
          have hvi1 : (v : Int) < (N : Int) + 1 := by omega
          have hvi2 : (v : Int) + 1 < (N : Int) + 1 := by omega
          have e1 : preRow G cmp v (v + 1) = Tj.cnt G cmp G.M v := by unfold preRow; rw [if_neg (by omega)]; rfl
          have e0 : preRow G cmp v v = Tj.pre G cmp v := by unfold preRow; rw [if_pos (Nat.le_refl _)]
          have c1 : wr.cell? ⟨w.heap.size, v + 1, none⟩ = some (.int .i64 (Tj.cnt G cmp G.M v : Int)) := by have := hrow.cellTab (show v + 1 < N + 1 by omega); rw [e1] at this; exact this
          have c0 : wr.cell? ⟨w.heap.size, v, none⟩ = some (.int .i64 (Tj.pre G cmp v : Int)) := by have := hrow.cellTab (show v < N + 1 by omega); rw [e0] at this; exact this
          have fm := hrow.frozen (v + 1)
          have hcl : Tj.cnt G cmp G.M v ≤ 131072 := by have := Tj.cnt_le G cmp G.M v; rw [HGM.out] at this ⊢; omega
          have hpl : Tj.pre G cmp v ≤ 131072 := by have := Tj.pre_le G cmp v; rw [HGM.out] at this; omega
          have Hset := hide ((hrow.setTab (v + 1) (nv (Tj.cnt G cmp G.M v + Tj.pre G cmp v))).tabEq (G := fun x => nv (preRow G cmp (v + 1) x)) (fun x _ => by
            rw [preRow_put]
            by_cases hx : x = v + 1
            · rw [if_pos hx, if_pos hx]
            · rw [if_neg hx, if_neg hx]))
          have Hb2 := hide (hb.setCell (p := ⟨w.heap.size, v + 1, none⟩) (Nat.le_refl _) (nv (Tj.cnt G cmp G.M v + Tj.pre G cmp v)))
          have Hsz2 : Hid ((wr.setCell ⟨w.heap.size, v + 1, none⟩ (nv (Tj.cnt G cmp G.M v + Tj.pre G cmp v))).heap.size = w.heap.size + 1) := hide (by simpa [World.setCell] using hsz)
          clear hrow hsz hb e1 e0
          generalize Tj.cnt G cmp G.M v = y at c1 hcl Hset Hb2 Hsz2
          generalize Tj.pre G cmp v = x at c0 hpl Hset Hb2 Hsz2
          go_upto_region 14 with fail
          go_region
          go_wp2
          go_roundg (gk - 1)
          case measure => omega
          case rel => exact ⟨v + 1, by omega, by go_num, Hset.out.drew, Hsz2.out, Hb2.out.drew⟩
        · have hvi : ¬ ((v : Int) < (N : Int)) := by omega
          have hve : v = N := by omega
          have hrow2 : Row wr w.heap.size 3 (Tab (N + 1) (fun x => nv (Tj.pre G cmp x))) := hrow.tabEq (fun x hx => by
            show nv _ = nv _
            unfold preRow
            rw [if_pos (by omega)])
          have hpl : Tj.pre G cmp N ≤ 131072 := by have := Tj.pre_le G cmp N; rw [HGM.out] at this; omega
          have cN : wr.cell? ⟨w.heap.size, N, none⟩ = some (.int .i64 (Tj.pre G cmp N : Int)) := hrow2.cellTab (by omega)
          have hNi : (N : Int) < (N : Int) + 1 := by omega
          have hmR := mk_ints (Tj.pre G cmp N) (by omega)
          have hmN := mk_ints N (by omega)
          have Hrow := hide hrow2
          have Hb := hide hb
          have Hsz := hide hsz
          clear hrow hrow2 hb hve
          obtain ⟨R, HR⟩ : ∃ R, Hid (Tj.pre G cmp N = R) := ⟨_, hide rfl⟩
          rw [HR.out] at cN hmR hpl
          rename World => wb
          go_wp2
          simp only [Nat.add_assoc, Nat.reduceAdd]
          clear hmR hmN cN
          go_loopg [19] N (fun k i wr => ∃ v : Nat, v + k = N ∧ i = .int .i64 (v : Int) ∧ Row wr (w.heap.size + 2) 3 (Tab N (fun x => nv (if x < v then Tj.pre G cmp x else 0))) ∧ Row wr (w.heap.size + 1) 3 (Tab R (fun _ => nv 0)) ∧ Row wr w.heap.size 3 (Tab (N + 1) (fun x => nv (Tj.pre G cmp x))) ∧ Below w.heap.size w wr)
          case atStart =>
            refine ⟨0, by omega, rfl, ?_, ?_, (Hrow.out.alloc _).alloc _, (Hb.out.alloc Hb.out.size _).alloc (by simp; have := Hsz.out; omega) _⟩
            · refine row_at (by simp; exact Hsz.out) ?_
              show (List.replicate N (Value.int .i64 0)).toArray = _
              rw [tab_replicate]
              congr 1
            · refine Row.alloc (row_at Hsz.out ?_) _
              show (List.replicate R (Value.int .i64 0)).toArray = _
              rw [tab_replicate]
              rfl
          case round =>
            clear Hrow Hb Hsz
            obtain ⟨v, hvk, rfl, hf, hs, hr, hb⟩ := hrel
            by_cases hvN : v < N
            · have hvi : (v : Int) < (N : Int) := by omega
              have hvi1 : (v : Int) < (N : Int) + 1 := by omega
              have c0 : wr.cell? ⟨w.heap.size, v, none⟩ = some (.int .i64 (Tj.pre G cmp v : Int)) := hr.cellTab (show v < N + 1 by omega)
              obtain ⟨y, cf⟩ : ∃ y, wr.cell? ⟨w.heap.size + 2, v, none⟩ = some y := ⟨_, hf.cellTab hvN⟩
              have ff := hf.frozen v
              have Hset := hide ((hf.setTab v (nv (Tj.pre G cmp v))).tabEq (G := fun x => nv (if x < v + 1 then Tj.pre G cmp x else 0)) (fun x _ => by
                by_cases hx : x = v
                · subst hx; rw [if_pos rfl, if_pos (by omega)]
                · rw [if_neg hx]
                  by_cases hx2 : x < v
                  · rw [if_pos hx2, if_pos (by omega)]
                  · rw [if_neg hx2, if_neg (by omega)]))
              have Hs := hide (hs.other ⟨w.heap.size + 2, v, none⟩ (nv (Tj.pre G cmp v)) (by show w.heap.size + 1 ≠ w.heap.size + 2; omega))
              have Hr2 := hide (hr.other ⟨w.heap.size + 2, v, none⟩ (nv (Tj.pre G cmp v)) (by show w.heap.size ≠ w.heap.size + 2; omega))
              have Hb2 := hide (hb.setCell (p := ⟨w.heap.size + 2, v, none⟩) (by show w.heap.size ≤ w.heap.size + 2; omega) (nv (Tj.pre G cmp v)))
              clear hf hs hr hb
              generalize hx : Tj.pre G cmp v = x at c0 Hset Hs Hr2 Hb2
              clear hx
              go_wp2
              go_roundg (gk - 1)
              case measure => omega
              case rel => exact ⟨v + 1, by omega, by go_num, Hset.out, Hs.out, Hr2.out, Hb2.out⟩
            · have hvi : ¬ ((v : Int) < (N : Int)) := by omega
              have Hp : Hid (Pass2 w N G cmp (G.st 0) wr) := hide ⟨fun _ => 0, fun i hi => by rw [Hval.out.first] at hi; omega, by rw [HR.out]; exact hs, hf.tabEq (fun x hx => by
                show nv _ = nv _
                rw [if_pos (by omega), Hval.out.first]; rfl), hr, hb⟩
              clear hf hs hr hb
              go_wp2
              go_loopg [20] N (fun k i wr => ∃ u : Nat, u + k = N ∧ i = .int .i64 (u : Int) ∧ Pass2 w N G cmp (G.st u) wr)
              case atStart => exact ⟨0, by omega, rfl, Hp.out⟩
              case round =>
                clear Hp
                obtain ⟨u, huk, rfl, hp⟩ := hrel
                by_cases huN : u < N
                · have hui : (u : Int) < (N : Int) := by omega
                  have hui1 : (u : Int) < (N : Int) + 1 := by omega
                  have hui2 : (u : Int) + 1 < (N : Int) + 1 := by omega
                  have cs : wr.cell? ⟨b0, u, none⟩ = some (.int .i64 (G.st u : Int)) := by
                    obtain ⟨r, _, _, _, _, hb⟩ := hp
                    rw [hb.cell (p := ⟨b0, u, none⟩) hlt0]; exact Hcst.out u (by omega)
                  have hmono := Hval.out.mono u (by rw [HGN.out]; exact huN)
                  have hle := Hval.out.le (u + 1) (by rw [HGN.out]; omega)
                  rw [HGM.out] at hle
                  have Hp := hide hp
                  clear hp
                  go_wp2
                  clear cs
                  go_loopg [21] (G.st (u + 1) - G.st u) (fun k i wr => ∃ j : Nat, j + k = G.st (u + 1) ∧ G.st u ≤ j ∧ i = .int .i64 (j : Int) ∧ Pass2 w N G cmp j wr)
                  case atStart => exact ⟨G.st u, by omega, Nat.le_refl _, rfl, Hp.out⟩
                  case round =>
                    clear Hp
                    obtain ⟨j, hjk, hj0, rfl, r, hlaid, hs, hf, hr, hb⟩ := hrel
                    have c1 : wr.cell? ⟨b0, u + 1, none⟩ = some (.int .i64 (G.st (u + 1) : Int)) := by rw [hb.cell (p := ⟨b0, u + 1, none⟩) hlt0]; exact Hcst.out (u + 1) (by omega)
                    by_cases hlt3 : j < G.st (u + 1)
                    · have hji : (j : Int) < (G.st (u + 1) : Int) := by omega
                      have hjM : j < z1.length := by omega
                      have hjMi : (j : Int) < (z1.length : Int) := by omega
                      obtain ⟨b1, o1, rfl, hb1, cto⟩ := Hcto.out j hjM
                      obtain ⟨b2, o2, rfl, hb2, ckd⟩ := Hckd.out j hjM
                      rw [← hb.cell (p := ⟨b1, o1 + j, none⟩) hb1] at cto
                      rw [← hb.cell (p := ⟨b2, o2 + j, none⟩) hb2] at ckd
                      have hvN2 : G.to j < N := by have := Hval.out.ends j (by rw [HGM.out]; exact hjM); rw [HGN.out] at this; exact this
                      have hkd1 := Hkd.out j
                      have hkept : Tj.kept G cmp j = (decide ((z2.getD j 0).toNat ≤ most) && decide (cmp u = cmp (G.to j))) := by rw [Tj.kept_eq Hval.out (by rw [HGN.out]; exact huN) hj0 hlt3, Hok.out]
                      have hsrc : Tj.src G j = u := Tj.src_eq Hval.out (by rw [HGN.out]; exact huN) hj0 hlt3
                      have K34 := hide (fun k => keep_any (wr := wr.drewN k) (bc := bc) (N := N) (cmp := cmp) (fun v hv => by rw [(below_drew hb k).cell (p := ⟨bc, v, none⟩) Hc.out.lt]; exact Hc.out.cellTab hv) huN hvN2 hkd1 hmo hNs)
                      rw [← hkept] at K34
                      have hmi : (G.to j : Int) < (N : Int) := by omega
                      have hdist1 : b1 ≠ w.heap.size := by omega
                      have hdist2 : b1 ≠ w.heap.size + 1 := by omega
                      have hdist3 : b1 ≠ w.heap.size + 2 := by omega
                      have cfl : wr.cell? ⟨w.heap.size + 2, G.to j, none⟩ = some (.int .i64 (Tj.place G cmp j : Int)) := hf.cellTab hvN2
                      have ff := hf.frozen (G.to j)
                      cases hkp : Tj.kept G cmp j with
                      | true =>
                        have hpl1 : Tj.place G cmp j < R := by
                          have h1 := Tj.place_lt G cmp (show j < G.M by rw [HGM.out]; exact hjM) hkp
                          have h2 := Tj.pre_mono G cmp (show G.to j + 1 ≤ N by omega)
                          rw [HR.out] at h2
                          omega
                        rw [HR.out] at hs
                        obtain ⟨y, cp⟩ : ∃ y, wr.cell? ⟨w.heap.size + 1, Tj.place G cmp j, none⟩ = some y := ⟨_, hs.cellTab hpl1⟩
                        have fp := hs.frozen (Tj.place G cmp j)
                        have hpli : (Tj.place G cmp j : Int) < (R : Int) := by omega
                        have Hp2 : Hid (Pass2 w N G cmp (j + 1) ((wr.setCell ⟨w.heap.size + 1, Tj.place G cmp j, none⟩ (nv u)).setCell ⟨w.heap.size + 2, G.to j, none⟩ (nv (Tj.place G cmp j + 1)))) := by
                          refine hide ⟨_, hlaid.put (hk := by rw [HGM.out]; exact hjM) (hkk := hkp), ?_, ?_, ?_, ?_⟩
                          · rw [HR.out]
                            refine ((hs.setTab (Tj.place G cmp j) (nv u)).tabEq (fun t _ => ?_)).other _ _ (by show w.heap.size + 1 ≠ w.heap.size + 2; omega)
                            by_cases ht : t = Tj.place G cmp j
                            · rw [if_pos ht, ht, Tj.upd_same, hsrc]
                            · rw [if_neg ht, Tj.upd_other _ _ ht]
                          · refine ((hf.other _ _ (by show w.heap.size + 2 ≠ w.heap.size + 1; omega)).setTab (G.to j) (nv (Tj.place G cmp j + 1))).tabEq (fun x _ => ?_)
                            rw [fill_put hkp]
                            by_cases hx : x = G.to j
                            · rw [if_pos hx, if_pos hx]; rfl
                            · rw [if_neg hx, if_neg hx]
                          · exact (hr.other _ _ (by show w.heap.size ≠ w.heap.size + 1; omega)).other _ _ (by show w.heap.size ≠ w.heap.size + 2; omega)
                          · exact (hb.setCell (by show w.heap.size ≤ w.heap.size + 1; omega) _).setCell (by show w.heap.size ≤ w.heap.size + 2; omega) _
                        rw [hkp] at K34
                        have hplb : Tj.place G cmp j ≤ 131072 := by omega
                        clear hkept hlaid hs hf hr hb hkp hsrc
                        generalize Tj.place G cmp j = pj at cfl cp fp hpli Hp2 hpl1 hplb
                        generalize G.to j = m at cto hvN2 K34 cfl ff hmi Hp2
                        generalize (z2.getD j 0).toNat = kd at ckd hkd1 K34
                        go_upto_region 27 with fail
                        go_quiet ((go_at_call 34; refine Calls.mono (Hid.out K34 _) ?_; rintro e1 w5 ⟨rfl, k5, rfl⟩; exact ⟨rfl, drews _ _ _⟩))
                        clear K34
                        have Hp3 : Hid (Pass2 w N G cmp (j + 1) (((wr.setCell ⟨w.heap.size + 1, pj, none⟩ (nv u)).setCell ⟨w.heap.size + 2, m, none⟩ (nv (pj + 1))).drewN nq)) := by
                          obtain ⟨r, h1, h2, h3, h4, h5⟩ := Hp2.out
                          exact hide ⟨r, h1, h2.drews nq, h3.drews nq, h4.drews nq, below_drew h5 nq⟩
                        clear Hp2
                        go_wp2
                        go_roundg (gk - 1)
                        case measure => omega
                        case rel => exact ⟨j + 1, by omega, by omega, by go_num, Hp3.out⟩
                      | false =>
                        have Hp2 : Hid (Pass2 w N G cmp (j + 1) wr) := hide ⟨r, hlaid.skip (hkk := hkp), hs, hf.tabEq (fun x _ => by rw [fill_skip hkp]), hr, hb⟩
                        rw [hkp] at K34
                        clear hkept hlaid hs hf hr hb hkp hsrc
                        generalize G.to j = m at cto hvN2 K34 cfl ff hmi
                        generalize (z2.getD j 0).toNat = kd at ckd hkd1 K34
                        go_upto_region 27 with fail
                        go_quiet ((go_at_call 34; refine Calls.mono (Hid.out K34 _) ?_; rintro e1 w5 ⟨rfl, k5, rfl⟩; exact ⟨rfl, drews _ _ _⟩))
                        clear K34
                        have Hp3 : Hid (Pass2 w N G cmp (j + 1) (wr.drewN nq)) := by
                          obtain ⟨r, h1, h2, h3, h4, h5⟩ := Hp2.out
                          exact hide ⟨r, h1, h2.drews nq, h3.drews nq, h4.drews nq, below_drew h5 nq⟩
                        clear Hp2
                        go_wp2
                        go_roundg (gk - 1)
                        case measure => omega
                        case rel => exact ⟨j + 1, by omega, by omega, by go_num, Hp3.out⟩
                    · have hji : ¬ ((j : Int) < (G.st (u + 1) : Int)) := by omega
                      have hje : j = G.st (u + 1) := by omega
                      have Hp : Hid (Pass2 w N G cmp (G.st (u + 1)) wr) := hide (by rw [← hje]; exact ⟨r, hlaid, hs, hf, hr, hb⟩)
                      clear hlaid hs hf hr hb hje
                      go_wp2
                      go_roundg (N - u - 1)
                      case measure => omega
                      case rel => exact ⟨u + 1, by omega, by go_num, Hp.out⟩
                · have hui : ¬ ((u : Int) < (N : Int)) := by omega
                  have hue : u = N := by omega
                  have Hfin : Hid (RevOut w N G cmp (.returned (.tuple #[.slice (some ⟨w.heap.size, 0, none⟩) (N + 1) (N + 1), .slice (some ⟨w.heap.size + 1, 0, none⟩) R R])) wr) := by
                    obtain ⟨r, h1, h2, h3, h4, h5⟩ := hp
                    rw [hue, ← HGN.out, Hval.out.last] at h1
                    exact hide ⟨_, _, r, by rw [HR.out], h4, h2, h1, h5⟩
                  clear hp hue
                  go_wp2
                  go_ret2
                  exact Hfin.out
end Go.Proofs.Qxb6602044a
