/-
  THE MEMORY OF THE SCANS: a family of rows of their own; the input.
-/
import Derived.Test.Qxb6602558aPl
import Derived.Test.Qxb6602558aF3
namespace Go.Proofs.Qxb6602558a
open Go.RowKit
set_option linter.unusedVariables false

def ety (i : Nat) : TypeId := if i % 2 = 0 then 3 else 5
theorem ety_even (l : Nat) : ety (2 * l) = 3 := by unfold ety; rw [if_pos (by omega)]
theorem ety_odd (l : Nat) : ety (2 * l + 1) = 5 := by unfold ety; rw [if_neg (by omega)]

structure Fam (w : World) (base n : Nat) (V : Nat → Value) (X : Fams) : Prop where
  own : ∀ i, i < n → w.ownsRow base (ety i) 1 (V i) (X i).length (X i)
  far : ∀ i j, i < n → j < n → i ≠ j → Far (V i) (V j)

section
variable {w : World} {base n : Nat} {V : Nat → Value} {X : Fams}

theorem Fam.grown {w' : World} (h : Fam w base n V X) (hg : w.grownBy w' none) : Fam w' base n V X :=
  ⟨fun i hi => (h.own i hi).kept hg (by cases (V i).ownBlock <;> simp), h.far⟩

theorem Fam.low {w' : World} {k : Nat} (h : Fam w base n V X) (hg : w.grownBy w' (some k)) (hk : k < base) : Fam w' base n V X :=
  ⟨fun i hi => owns_low (h.own i hi) hg hk, h.far⟩

theorem Fam.push {w1 : World} {i g cap : Nat} {x : Value} (h : Fam w base n V X) (hi : i < n) (hg : w.grownBy w1 (V i).ownBlock)
    (ho : w1.ownsRow base (ety i) 1 (.slice (some ⟨g, 0, none⟩) ((X i).length + 1) cap) ((X i).length + 1) (X i ++ [x])) (hloc : (V i).ownBlock = some g ∨ w.heap.size ≤ g) :
    Fam w1 base n (upd V i (.slice (some ⟨g, 0, none⟩) ((X i).length + 1) cap)) (upd X i (X i ++ [x])) := by
  have hfar : ∀ j, j < n → j ≠ i → Far (.slice (some ⟨g, 0, none⟩) ((X i).length + 1) cap) (V j) := fun j hj hne g' h1 h2 => by
    have hgg : g = g' := by simpa [Value.ownBlock] using h1
    subst hgg
    rcases hloc with hl | hl
    · exact h.far i j hi hj (Ne.symm hne) g hl h2
    · have := ((h.own j hj).lt g h2).2; omega
  refine ⟨fun j hj => ?_, fun j k hj hk hne => ?_⟩
  · by_cases e : j = i
    · subst e
      rw [upd_same, upd_same]
      simpa using ho
    · rw [upd_other _ _ e, upd_other _ _ e]
      exact keepF (h.own j hj) hg (h.far i j hi hj (Ne.symm e))
  · by_cases e1 : j = i
    · subst e1
      rw [upd_same, upd_other _ _ (Ne.symm hne)]
      exact hfar k hk (Ne.symm hne)
    · rw [upd_other _ _ e1]
      by_cases e2 : k = i
      · subst e2
        rw [upd_same]
        exact (hfar j hj e1).symm
      · rw [upd_other _ _ e2]
        exact h.far j k hj hk hne
end

/-- what the scans are told of their input -/
structure InMem (w : World) (J : Job) (aA aL aN aB aF : Option Addr) : Prop where
  ok : J.Ok
  anc : ∀ k, k < J.nA → ∃ b off, aA = some ⟨b, off, none⟩ ∧ b < w.heap.size ∧ w.cell? ⟨b, off + k, none⟩ = some (.string (J.A k))
  row : ∀ k, k < J.nA → ∃ b off, aL = some ⟨b, off, none⟩ ∧ b < w.heap.size ∧ ∃ a c, w.cell? ⟨b, off + k, none⟩ = some (.slice a (J.n k) c) ∧ ∀ j, j < J.n k → ∃ b' o', a = some ⟨b', o', none⟩ ∧ b' < w.heap.size ∧ w.cell? ⟨b', o' + j, none⟩ = some (.int .i64 (J.il k j : Int))
  num : ∀ k, k < J.nA → ∃ b off, aN = some ⟨b, off, none⟩ ∧ b < w.heap.size ∧ ∃ a c, w.cell? ⟨b, off + k, none⟩ = some (.slice a (J.n k) c) ∧ ∀ j, j < J.n k → ∃ b' o', a = some ⟨b', o', none⟩ ∧ b' < w.heap.size ∧ w.cell? ⟨b', o' + j, none⟩ = some (.int .i64 (J.ia k j))
  bef : ∀ l, l < J.L → ∃ b off, aB = some ⟨b, off, none⟩ ∧ b < w.heap.size ∧ ∃ v, w.cell? ⟨b, off + l, none⟩ = some v ∧ SetAt w v (J.S1 l)
  aft : ∀ l, l < J.L → ∃ b off, aF = some ⟨b, off, none⟩ ∧ b < w.heap.size ∧ ∃ v, w.cell? ⟨b, off + l, none⟩ = some v ∧ SetAt w v (J.S2 l)
  rows : ∀ k, k < J.nA → J.n k ≤ 1048576
  work : J.T.size * J.W J.nA ≤ 16777216

theorem InMem.below {w w' : World} {J : Job} {aA aL aN aB aF : Option Addr} (h : InMem w J aA aL aN aB aF) (hb : Below w.heap.size w w') : InMem w' J aA aL aN aB aF := by
  refine ⟨h.ok, fun k hk => ?_, fun k hk => ?_, fun k hk => ?_, fun l hl => ?_, fun l hl => ?_, h.rows, h.work⟩
  · obtain ⟨b, off, h1, h2, h3⟩ := h.anc k hk
    exact ⟨b, off, h1, Nat.lt_of_lt_of_le h2 hb.size, by rw [hb.cell (p := ⟨b, off + k, none⟩) h2]; exact h3⟩
  · obtain ⟨b, off, h1, h2, a, c, h3, h4⟩ := h.row k hk
    refine ⟨b, off, h1, Nat.lt_of_lt_of_le h2 hb.size, a, c, by rw [hb.cell (p := ⟨b, off + k, none⟩) h2]; exact h3, fun j hj => ?_⟩
    obtain ⟨b', o', q1, q2, q3⟩ := h4 j hj
    exact ⟨b', o', q1, Nat.lt_of_lt_of_le q2 hb.size, by rw [hb.cell (p := ⟨b', o' + j, none⟩) q2]; exact q3⟩
  · obtain ⟨b, off, h1, h2, a, c, h3, h4⟩ := h.num k hk
    refine ⟨b, off, h1, Nat.lt_of_lt_of_le h2 hb.size, a, c, by rw [hb.cell (p := ⟨b, off + k, none⟩) h2]; exact h3, fun j hj => ?_⟩
    obtain ⟨b', o', q1, q2, q3⟩ := h4 j hj
    exact ⟨b', o', q1, Nat.lt_of_lt_of_le q2 hb.size, by rw [hb.cell (p := ⟨b', o' + j, none⟩) q2]; exact q3⟩
  · obtain ⟨b, off, h1, h2, v, h3, h4⟩ := h.bef l hl
    exact ⟨b, off, h1, Nat.lt_of_lt_of_le h2 hb.size, v, by rw [hb.cell (p := ⟨b, off + l, none⟩) h2]; exact h3, h4.below hb⟩
  · obtain ⟨b, off, h1, h2, v, h3, h4⟩ := h.aft l hl
    exact ⟨b, off, h1, Nat.lt_of_lt_of_le h2 hb.size, v, by rw [hb.cell (p := ⟨b, off + l, none⟩) h2]; exact h3, h4.below hb⟩

/-- the naive scan's memory -/
structure NMem (w wr : World) (B L : Nat) (V : Nat → Value) (X : Fams) : Prop where
  s : Row wr B 37 (Tab L (fun l => V (2 * l)))
  p : Row wr (B + 1) 22 (Tab L (fun l => V (2 * l + 1)))
  fam : Fam wr (B + 2) (2 * L) V X
  below : Below B w wr
  room : B + 2 ≤ wr.heap.size

section
variable {w wr : World} {B L : Nat} {V : Nat → Value} {X : Fams}

theorem NMem.grown {wr' : World} (h : NMem w wr B L V X) (hg : wr.grownBy wr' none) : NMem w wr' B L V X := by
  have hz : ∀ k, some k ≠ (none : Option Nat) := fun k e => by cases e
  have hr := h.room
  exact ⟨h.s.kept hg (hz _), h.p.kept hg (hz _), h.fam.grown hg, h.below.grown hg (by omega) (fun j hj => by cases hj), Nat.le_trans hr hg.size⟩

theorem NMem.alloc (h : NMem w wr B L V X) (o : Obj) : NMem w (wr.alloc o) B L V X := h.grown (World.grownBy_alloc _ _ _)
theorem NMem.drewN (h : NMem w wr B L V X) (n : Nat) : NMem w (wr.drewN n) B L V X := h.grown (grown_drews ⟨rfl, rfl, rfl, Nat.le_refl _, fun _ _ _ => rfl⟩ n)

theorem NMem.keepS {w1 : World} {i : Nat} (h : NMem w wr B L V X) (hi : i < 2 * L) (hg : wr.grownBy w1 (V i).ownBlock) : Row w1 B 37 (Tab L (fun l => V (2 * l))) ∧ Row w1 (B + 1) 22 (Tab L (fun l => V (2 * l + 1))) := by
  have hlt : ∀ k, (V i).ownBlock = some k → B + 2 ≤ k := fun k hk => ((h.fam.own i hi).lt k hk).1
  exact ⟨h.s.kept hg (fun e => by have := hlt _ e.symm; omega), h.p.kept hg (fun e => by have := hlt _ e.symm; omega)⟩

theorem NMem.start {w1 : World} {l g cap : Nat} {x : Value} (h : NMem w wr B L V X) (hl : l < L) (hg : wr.grownBy w1 (V (2 * l)).ownBlock)
    (ho : w1.ownsRow (B + 2) 3 1 (.slice (some ⟨g, 0, none⟩) ((X (2 * l)).length + 1) cap) ((X (2 * l)).length + 1) (X (2 * l) ++ [x])) (hloc : (V (2 * l)).ownBlock = some g ∨ wr.heap.size ≤ g) :
    NMem w (w1.setCell ⟨B, l, none⟩ (.slice (some ⟨g, 0, none⟩) ((X (2 * l)).length + 1) cap)) B L (upd V (2 * l) (.slice (some ⟨g, 0, none⟩) ((X (2 * l)).length + 1) cap)) (upd X (2 * l) (X (2 * l) ++ [x])) := by
  have hlt : ∀ k, (V (2 * l)).ownBlock = some k → B + 2 ≤ k := fun k hk => ((h.fam.own (2 * l) (by omega)).lt k hk).1
  have hr := h.room
  have hg2 := grownBy_setCell w1 ⟨B, l, none⟩ (.slice (some ⟨g, 0, none⟩) ((X (2 * l)).length + 1) cap)
  refine ⟨?_, ?_, ?_, ?_, Nat.le_trans (Nat.le_trans hr hg.size) hg2.size⟩
  · refine ((h.s.kept hg (fun e => ?_)).setTab l _).tabEq (fun m _ => ?_)
    · have := hlt _ e.symm; omega
    · by_cases e : m = l
      · subst e; rw [if_pos rfl, upd_same]
      · rw [if_neg e, upd_other _ _ (by omega)]
  · refine ((h.p.kept hg (fun e => ?_)).kept hg2 (nsome (by simp))).tabEq (fun m _ => ?_)
    · have := hlt _ e.symm; omega
    · rw [upd_other _ _ (by omega)]
  · exact (h.fam.push (by omega) hg (by rw [ety_even]; exact ho) hloc).low hg2 (by show B < B + 2; omega)
  · exact (h.below.grown hg (by omega) (fun j hj => by have := hlt _ hj; omega)).grown hg2 (by have := hg.size; omega) (fun j hj => by injection hj with hj; simp at hj; omega)

theorem NMem.place {w1 : World} {l g cap : Nat} {x : Value} (h : NMem w wr B L V X) (hl : l < L) (hg : wr.grownBy w1 (V (2 * l + 1)).ownBlock)
    (ho : w1.ownsRow (B + 2) 5 1 (.slice (some ⟨g, 0, none⟩) ((X (2 * l + 1)).length + 1) cap) ((X (2 * l + 1)).length + 1) (X (2 * l + 1) ++ [x])) (hloc : (V (2 * l + 1)).ownBlock = some g ∨ wr.heap.size ≤ g) :
    NMem w (w1.setCell ⟨B + 1, l, none⟩ (.slice (some ⟨g, 0, none⟩) ((X (2 * l + 1)).length + 1) cap)) B L (upd V (2 * l + 1) (.slice (some ⟨g, 0, none⟩) ((X (2 * l + 1)).length + 1) cap)) (upd X (2 * l + 1) (X (2 * l + 1) ++ [x])) := by
  have hlt : ∀ k, (V (2 * l + 1)).ownBlock = some k → B + 2 ≤ k := fun k hk => ((h.fam.own (2 * l + 1) (by omega)).lt k hk).1
  have hr := h.room
  have hg2 := grownBy_setCell w1 ⟨B + 1, l, none⟩ (.slice (some ⟨g, 0, none⟩) ((X (2 * l + 1)).length + 1) cap)
  refine ⟨?_, ?_, ?_, ?_, Nat.le_trans (Nat.le_trans hr hg.size) hg2.size⟩
  · refine ((h.s.kept hg (fun e => ?_)).kept hg2 (nsome (by simp))).tabEq (fun m _ => ?_)
    · have := hlt _ e.symm; omega
    · rw [upd_other _ _ (by omega)]
  · refine ((h.p.kept hg (fun e => ?_)).setTab l _).tabEq (fun m _ => ?_)
    · have := hlt _ e.symm; omega
    · by_cases e : m = l
      · subst e; rw [if_pos rfl, upd_same]
      · rw [if_neg e, upd_other _ _ (by omega)]
  · exact (h.fam.push (by omega) hg (by rw [ety_odd]; exact ho) hloc).low hg2 (by show B + 1 < B + 2; omega)
  · exact (h.below.grown hg (by omega) (fun j hj => by have := hlt _ hj; omega)).grown hg2 (by have := hg.size; omega) (fun j hj => by injection hj with hj; simp at hj; omega)
end

/-- find's memory: the list of its places -/
structure FMem (w wr : World) (B L : Nat) (V : Nat → Value) (X : Fams) : Prop where
  r : Row wr B 67 (Tab (2 * L) V)
  fam : Fam wr (B + 1) (2 * L) V X
  below : Below B w wr
  room : B + 1 ≤ wr.heap.size

section
variable {w wr : World} {B L : Nat} {V : Nat → Value} {X : Fams}

theorem FMem.grown {wr' : World} (h : FMem w wr B L V X) (hg : wr.grownBy wr' none) : FMem w wr' B L V X := by
  have hz : ∀ k, some k ≠ (none : Option Nat) := fun k e => by cases e
  have hr := h.room
  exact ⟨h.r.kept hg (hz _), h.fam.grown hg, h.below.grown hg (by omega) (fun j hj => by cases hj), Nat.le_trans hr hg.size⟩

theorem FMem.alloc (h : FMem w wr B L V X) (o : Obj) : FMem w (wr.alloc o) B L V X := h.grown (World.grownBy_alloc _ _ _)
theorem FMem.drewN (h : FMem w wr B L V X) (n : Nat) : FMem w (wr.drewN n) B L V X := h.grown (grown_drews ⟨rfl, rfl, rfl, Nat.le_refl _, fun _ _ _ => rfl⟩ n)

theorem FMem.app {w1 : World} {i g cap : Nat} {x : Value} (h : FMem w wr B L V X) (hi : i < 2 * L) (hg : wr.grownBy w1 (V i).ownBlock)
    (ho : w1.ownsRow (B + 1) (ety i) 1 (.slice (some ⟨g, 0, none⟩) ((X i).length + 1) cap) ((X i).length + 1) (X i ++ [x])) (hloc : (V i).ownBlock = some g ∨ wr.heap.size ≤ g) :
    FMem w (w1.setCell ⟨B, i, none⟩ (.slice (some ⟨g, 0, none⟩) ((X i).length + 1) cap)) B L (upd V i (.slice (some ⟨g, 0, none⟩) ((X i).length + 1) cap)) (upd X i (X i ++ [x])) := by
  have hlt : ∀ k, (V i).ownBlock = some k → B + 1 ≤ k := fun k hk => ((h.fam.own i hi).lt k hk).1
  have hr := h.room
  have hg2 := grownBy_setCell w1 ⟨B, i, none⟩ (.slice (some ⟨g, 0, none⟩) ((X i).length + 1) cap)
  refine ⟨?_, ?_, ?_, Nat.le_trans (Nat.le_trans hr hg.size) hg2.size⟩
  · refine ((h.r.kept hg (fun e => ?_)).setTab i _).tabEq (fun m _ => ?_)
    · have := hlt _ e.symm; omega
    · by_cases e : m = i
      · subst e; rw [if_pos rfl, upd_same]
      · rw [if_neg e, upd_other _ _ e]
  · exact (h.fam.push hi hg ho hloc).low hg2 (by show B < B + 1; omega)
  · exact (h.below.grown hg (by omega) (fun j hj => by have := hlt _ hj; omega)).grown hg2 (by have := hg.size; omega) (fun j hj => by injection hj with hj; simp at hj; omega)
end
end Go.Proofs.Qxb6602558a
