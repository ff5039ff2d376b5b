/-
  THE LAW's INPUT: what it reads as, what its copies read as.
-/
import Derived.Test.Qxb6602558aF14
import Derived.Test.Qxb6602558aF12
namespace Go.Proofs.Qxb6602558a
open Go.RowKit
set_option linter.unusedVariables false

structure Raw (w : World) (a0 a1 a2 a4 a5 : Option Addr) (l0 l1 l2 l4 l5 c0 c1 c2 c4 c5 : Nat) (zs : List ByteArray) (vs1 vs2 : List Value) (rows1 rows2 : List (List Int)) (vs4 vs5 : List Value) (S1 S2 : Nat → Option (Nat → Bool)) : Prop where
  n0 : a0 = none → l0 = 0 ∧ c0 = 0
  n1 : a1 = none → l1 = 0 ∧ c1 = 0
  n2 : a2 = none → l2 = 0 ∧ c2 = 0
  n4 : a4 = none → l4 = 0 ∧ c4 = 0
  n5 : a5 = none → l5 = 0 ∧ c5 = 0
  e0 : zs.length = l0
  e1 : rows1.length = l1
  e2 : rows2.length = l2
  e4 : vs4.length = l4
  e5 : vs5.length = l5
  r0 : Reads 0 w a0 (zs.map Value.string)
  r1 : Reads 0 w a1 vs1
  v1 : NVals 0 w vs1 rows1
  r2 : Reads 0 w a2 vs2
  v2 : NVals 0 w vs2 rows2
  r4 : Reads 0 w a4 vs4
  s4 : ∀ i (h : i < vs4.length), SetAt w vs4[i] (S1 i)
  r5 : Reads 0 w a5 vs5
  s5 : ∀ i (h : i < vs5.length), SetAt w vs5[i] (S2 i)

/-- what the law is asked -/
def job (T : ByteArray) (L : Nat) (zs : List ByteArray) (rows1 rows2 : List (List Int)) (S1 S2 : Nat → Option (Nat → Bool)) : Job where
  T := T
  L := L
  nA := zs.length
  A := fun k => zs.getD k ByteArray.empty
  n := fun k => (rows1.getD k []).length
  il := fun k j => ((rows1.getD k []).getD j 0).toNat
  ia := fun k j => (rows2.getD k []).getD j 0
  S1 := S1
  S2 := S2

def lens (rows : List (List Int)) (k : Nat) : Nat := (rows.getD k []).length
def nums (rows : List (List Int)) (k j : Nat) : Int := (rows.getD k []).getD j 0

theorem cells_str {lo : Nat} {w : World} {a : Option Addr} {zs : List ByteArray} (h : Reads lo w a (zs.map Value.string)) : Cells w a zs.length (fun k v => v = .string (zs.getD k ByteArray.empty)) := by
  intro k hk
  obtain ⟨b, off, h1, _, h2, h3⟩ := h k (by simpa using hk)
  refine ⟨b, off, _, h1, h2, h3, ?_⟩
  simp [List.getD_eq_getElem?_getD, List.getElem?_eq_getElem hk]

theorem cells_row {lo : Nat} {w : World} {a : Option Addr} {vs : List Value} {rows : List (List Int)} (h : Reads lo w a vs) (hn : NVals lo w vs rows) : Cells w a rows.length (RowQ w (lens rows) (nums rows)) := by
  intro k hk
  have hkv : k < vs.length := by rw [hn.1]; exact hk
  obtain ⟨b, off, h1, _, h2, h3⟩ := h k hkv
  obtain ⟨a', cap, q1, _, q3⟩ := hn.2 k hk
  rw [List.getElem?_eq_getElem hkv] at q1
  injection q1 with q1
  have hg : rows.getD k [] = rows[k] := by simp [List.getD_eq_getElem?_getD, List.getElem?_eq_getElem hk]
  refine ⟨b, off, _, h1, h2, h3, a', cap, ?_, fun j hj => ?_⟩
  · rw [q1]; unfold lens; rw [hg]
  · unfold lens at hj
    rw [hg] at hj
    obtain ⟨b', o', r1, _, r2, r3⟩ := q3 j (by simpa using hj)
    refine ⟨b', o', r1, r2, ?_⟩
    rw [r3]
    unfold nums
    rw [hg]
    simp [List.getD_eq_getElem?_getD, List.getElem?_eq_getElem hj]

theorem cells_set {lo : Nat} {w : World} {a : Option Addr} {vs : List Value} {S : Nat → Option (Nat → Bool)} (h : Reads lo w a vs) (hs : ∀ i (h : i < vs.length), SetAt w vs[i] (S i)) : Cells w a vs.length (fun k v => SetAt w v (S k)) := by
  intro k hk
  obtain ⟨b, off, h1, _, h2, h3⟩ := h k hk
  exact ⟨b, off, _, h1, h2, h3, hs k hk⟩

theorem Cells.each {w : World} {a : Option Addr} {l : Nat} {Q : Nat → Value → Prop} {Q' : Value → Prop} (h : Cells w a l Q) (hq : ∀ k v, Q k v → Q' v) : Each w a l Q' := by
  intro k hk
  obtain ⟨b, off, v, h1, h2, h3, h4⟩ := h k hk
  exact ⟨b, off, v, h1, h3, hq k v h4⟩

theorem Cells.weaker {w : World} {a : Option Addr} {l : Nat} {Q Q' : Nat → Value → Prop} (h : Cells w a l Q) (hq : ∀ k v, Q k v → Q' k v) : Cells w a l Q' := by
  intro k hk
  obtain ⟨b, off, v, h1, h2, h3, h4⟩ := h k hk
  exact ⟨b, off, v, h1, h2, h3, hq k v h4⟩

theorem Cells.below {w w' : World} {a : Option Addr} {l : Nat} {Q : Nat → Value → Prop} (h : Cells w a l Q) (hb : Below w.heap.size w w') : Cells w' a l Q := by
  intro k hk
  obtain ⟨b, off, v, h1, h2, h3, h4⟩ := h k hk
  exact ⟨b, off, v, h1, Nat.lt_of_lt_of_le h2 hb.size, by rw [hb.cell (p := ⟨b, off + k, none⟩) h2]; exact h3, h4⟩

theorem RowQ.below {w w' : World} {n : Nat → Nat} {x : Nat → Nat → Int} {k : Nat} {v : Value} (h : RowQ w n x k v) (hb : Below w.heap.size w w') : RowQ w' n x k v := by
  obtain ⟨a, c, h1, h2⟩ := h
  refine ⟨a, c, h1, fun j hj => ?_⟩
  obtain ⟨b', o', q1, q2, q3⟩ := h2 j hj
  exact ⟨b', o', q1, Nat.lt_of_lt_of_le q2 hb.size, by rw [hb.cell (p := ⟨b', o' + j, none⟩) q2]; exact q3⟩

theorem inmem_of {w : World} {J : Job} {x1 : Nat → Nat → Int} {n2 : Nat → Nat} {l1 l2 l4 l5 : Nat} {aA aL aN aB aF : Option Addr} (fit : Fit J x1 n2 l1 l2 l4 l5) (hT : J.T.size ≤ 1048576) (hA : J.nA ≤ 65536) (hL : J.L ≤ 65536) (hil : ∀ k j, J.il k j = (x1 k j).toNat)
    (c0 : Cells w aA J.nA (fun k v => v = .string (J.A k))) (c1 : Cells w aL J.nA (RowQ w J.n x1)) (c2 : Cells w aN J.nA (RowQ w n2 J.ia)) (c4 : Cells w aB J.L (fun k v => SetAt w v (J.S1 k))) (c5 : Cells w aF J.L (fun k v => SetAt w v (J.S2 k))) : InMem w J aA aL aN aB aF := by
  refine ⟨⟨fun k hk => (fit.anc k hk).1, fun k hk => (fit.anc k hk).2.1, fun k j hk hj => ?_, hT, hL, hA⟩, fun k hk => ?_, fun k hk => ?_, fun k hk => ?_, fun l hl => ?_, fun l hl => ?_, fun k hk => (fit.anc k hk).2.2.1, fit.work⟩
  · have := (fit.anc k hk).2.2.2.2 j hj
    rw [hil]; omega
  · obtain ⟨b, off, v, h1, h2, h3, rfl⟩ := c0 k hk
    exact ⟨b, off, h1, h2, h3⟩
  · obtain ⟨b, off, v, h1, h2, h3, a, c, rfl, h4⟩ := c1 k hk
    refine ⟨b, off, h1, h2, a, c, h3, fun j hj => ?_⟩
    obtain ⟨b', o', q1, q2, q3⟩ := h4 j hj
    refine ⟨b', o', q1, q2, ?_⟩
    have := (fit.anc k hk).2.2.2.2 j hj
    rw [hil, q3]
    congr 2
    omega
  · obtain ⟨b, off, v, h1, h2, h3, a, c, rfl, h4⟩ := c2 k hk
    rw [(fit.anc k hk).2.2.2.1] at h3 h4
    exact ⟨b, off, h1, h2, a, c, h3, h4⟩
  · obtain ⟨b, off, v, h1, h2, h3, h4⟩ := c4 l hl
    exact ⟨b, off, h1, h2, v, h3, h4⟩
  · obtain ⟨b, off, v, h1, h2, h3, h4⟩ := c5 l hl
    exact ⟨b, off, h1, h2, v, h3, h4⟩

/-- what a copy hands back: a slice whose cells are of a kind -/
def Copied (w : World) (l : Nat) (Q : World → Nat → Value → Prop) (e : Ending) (w' : World) : Prop :=
  ∃ a c, e = .returned (.slice a l c) ∧ Cells w' a l (Q w') ∧ Below w.heap.size w w'

theorem copy16 {w : World} {a : Option Addr} {c : Nat} {zs : List ByteArray} (hn : a = none → zs.length = 0 ∧ c = 0) (hsz : zs.length ≤ 1048576) (hr : Reads 0 w a (zs.map Value.string)) (wx : World) (hb : Below w.heap.size w wx) :
    Calls Try.prog 16 #[.slice a zs.length c] wx (Copied wx zs.length (fun _ k v => v = .string (zs.getD k ByteArray.empty))) := by
  refine (cloneStrs_any a zs.length c zs wx rfl hsz hn (hr.below hb (Nat.le_refl _))).mono ?_
  rintro e w' ⟨a', c', rfl, _, h1, h2⟩
  exact ⟨a', c', rfl, cells_str h1, h2⟩

theorem copy17 {w : World} {a : Option Addr} {c : Nat} {vs : List Value} {rows : List (List Int)} (hn : a = none → rows.length = 0 ∧ c = 0) (hsz : rows.length ≤ 1048576) (hsz' : ∀ r ∈ rows, r.length ≤ 1048576) (hr : Reads 0 w a vs) (hv : NVals 0 w vs rows) (wx : World) (hb : Below w.heap.size w wx) :
    Calls Try.prog 17 #[.slice a rows.length c] wx (Copied wx rows.length (fun w' => RowQ w' (lens rows) (nums rows))) := by
  refine (copyRows_any a rows.length c vs rows wx rfl hsz hsz' hn (hr.below hb (Nat.le_refl _)) (hv.below hb (Nat.le_refl _))).mono ?_
  rintro e w' ⟨a', c', rfl, _, ⟨vs', h1, h2⟩, h3⟩
  exact ⟨a', c', rfl, cells_row h1 h2, h3⟩

theorem copy18 {w : World} {a : Option Addr} {c : Nat} {vs : List Value} {S : Nat → Option (Nat → Bool)} (hn : a = none → vs.length = 0 ∧ c = 0) (hsz : vs.length ≤ 1048576) (hr : Reads 0 w a vs) (hs : ∀ i (h : i < vs.length), SetAt w vs[i] (S i)) (wx : World) (hb : Below w.heap.size w wx) :
    Calls Try.prog 18 #[.slice a vs.length c] wx (Copied wx vs.length (fun w' k v => SetAt w' v (S k))) := by
  refine (copySets_any a vs.length c vs S wx rfl hsz hn (hr.below hb (Nat.le_refl _)) (fun i hi => (hs i hi).below hb)).mono ?_
  rintro e w' ⟨a', c', rfl, h1, h2⟩
  refine ⟨a', c', rfl, fun k hk => ?_, h2⟩
  obtain ⟨b, off, q1, q2, v, q3, q4⟩ := h1 k hk
  exact ⟨b, off, v, q1, q2, q3, q4⟩

theorem lens_le {rows : List (List Int)} (h : ∀ k, k < rows.length → lens rows k ≤ 1048576) : ∀ r ∈ rows, r.length ≤ 1048576 := by
  intro r hr
  obtain ⟨k, hk, rfl⟩ := List.mem_iff_getElem.1 hr
  have := h k hk
  unfold lens at this
  simpa [List.getD_eq_getElem?_getD, List.getElem?_eq_getElem hk] using this

/-! what the families hold: numbers of their kinds -/
def Kinds (X : Fams) : Prop := ∀ (l j : Nat) (v : Value), ((X (2 * l))[j]? = some v → ∃ z, v = .int .i64 z) ∧ ((X (2 * l + 1))[j]? = some v → ∃ z, v = .int .u8 z)

theorem Kinds.put {X : Fams} (h : Kinds X) (l p : Nat) (x : Int) : Kinds (put X l p x) := by
  intro l' j v
  unfold Go.Proofs.Qxb6602558a.put
  refine ⟨fun hv => ?_, fun hv => ?_⟩
  · rw [upd_other _ _ (show 2 * l' ≠ 2 * l + 1 by omega)] at hv
    by_cases e : l' = l
    · subst e
      rw [upd_same, List.getElem?_append] at hv
      split at hv
      · exact (h l' j v).1 hv
      · have := List.mem_of_getElem? hv
        rw [List.mem_singleton] at this
        exact ⟨_, this⟩
    · rw [upd_other _ _ (show 2 * l' ≠ 2 * l by omega)] at hv
      exact (h l' j v).1 hv
  · by_cases e : l' = l
    · subst e
      rw [upd_same, List.getElem?_append] at hv
      split at hv
      · exact (h l' j v).2 hv
      · have := List.mem_of_getElem? hv
        rw [List.mem_singleton] at this
        exact ⟨_, this⟩
    · rw [upd_other _ _ (show 2 * l' + 1 ≠ 2 * l + 1 by omega), upd_other _ _ (show 2 * l' + 1 ≠ 2 * l by omega)] at hv
      exact (h l' j v).2 hv

theorem Kinds.hit {J : Job} {X : Fams} (h : Kinds X) (p k : Nat) : ∀ j, Kinds (J.hit p k X j) := by
  intro j
  induction j with
  | zero => exact h
  | succ j ih =>
    by_cases hk : J.keeps p k j
    · rw [Job.hit_yes hk]; exact ih.put _ _ _
    · rw [Job.hit_no hk]; exact ih

theorem Kinds.nK {J : Job} {X : Fams} (h : Kinds X) (p : Nat) : ∀ k, Kinds (J.nK p X k) := by
  intro k
  induction k with
  | zero => exact h
  | succ k ih =>
    by_cases hk : At J.T p (J.A k)
    · rw [Job.nK_yes hk]; exact ih.hit _ _ _
    · rw [Job.nK_no hk]; exact ih

theorem Job.kinds (J : Job) : ∀ p, Kinds (J.nP p) := by
  intro p
  induction p with
  | zero => intro l j v; exact ⟨fun h => by simp [Job.nP] at h, fun h => by simp [Job.nP] at h⟩
  | succ p ih => exact ih.nK _ _

/-- one cell of a family's row -/
theorem Fam.cellAt {w wr : World} {base n : Nat} {V : Nat → Value} {X : Fams} (h : Fam w base n V X) (hb : Below w.heap.size w wr) {i : Nat} (hi : i < n) :
    ∃ a c, V i = .slice a (X i).length c ∧ ∀ j v, (X i)[j]? = some v → ∃ g, a = some ⟨g, 0, none⟩ ∧ wr.cell? ⟨g, j, none⟩ = some v := by
  obtain ⟨a, c, hv⟩ := owns_form (h.own i hi)
  refine ⟨a, c, hv, fun j v hj => ?_⟩
  have hjl := (List.getElem?_eq_some_iff.1 hj).1
  obtain ⟨g, cap, h1, _, h2, _, _, h3, _⟩ := owns_open (h.own i hi) (by omega)
  rw [hv] at h1
  injection h1 with h1 _ _
  exact ⟨g, h1, by rw [hb.cell (p := ⟨g, j, none⟩) h2]; exact h3 j v hj⟩
end Go.Proofs.Qxb6602558a
