/-
  THE MEMORY OF THE SEARCH: which blocks hold the state (Tj.St).
-/
import Derived.Test.Qxb6602044aTj2
import Derived.Test.Qxb6602044aVoc
import Derived.Deep.AppendLies
import Derived.OneCell
namespace Go.Proofs.Qxb6602044a
open Go.RowKit
set_option linter.unusedVariables false

def nv (n : Nat) : Value := .int .i64 (n : Int)
def flat : List (Nat × Nat) → List Value
  | [] => []
  | p :: t => nv p.1 :: nv p.2 :: flat t

theorem flat_append (a b : List (Nat × Nat)) : flat (a ++ b) = flat a ++ flat b := by
  induction a with
  | nil => rfl
  | cons p t ih => simp [flat, ih]
theorem flat_length (a : List (Nat × Nat)) : (flat a).length = a.length * 2 := by
  induction a with
  | nil => rfl
  | cons p t ih => simp [flat, ih]; omega

theorem grownBy_setCell (w : World) (a : Addr) (v : Value) : w.grownBy (w.setCell a v) (some a.block) :=
  ⟨rfl, rfl, rfl, by simp [World.setCell], fun k _ hk => Below.heap_setCell _ _ _ _ (fun e => hk (by rw [e]))⟩
theorem grownBy_drew (w : World) (row : Option Nat) : w.grownBy w.drew row := ⟨rfl, rfl, rfl, Nat.le_refl _, fun _ _ _ => rfl⟩
theorem Row.kept {w w' : World} {row : Option Nat} {b : Nat} {e : TypeId} {l : List Value} (h : Row w b e l) (hg : w.grownBy w' row) (hne : some b ≠ row) : Row w' b e l := by
  have := h.lt
  unfold Row at h ⊢
  rw [hg.block b this hne, h]

/-- two slices that own rows of their own -/
def Far (v u : Value) : Prop := ∀ g, v.ownBlock = some g → u.ownBlock ≠ some g
theorem Far.symm {v u : Value} (h : Far v u) : Far u v := fun g h1 h2 => h g h2 h1

structure Mem (w wr : World) (B N bg : Nat) (s : Tj.St) (vS vP vZ : Value) : Prop where
  b0 : Row wr B 50 [.pointer (some ⟨bg, 0, none⟩)]
  b1 : Row wr (B + 1) 3 (Tab N (fun v => nv (s.cmp v)))
  b2 : Row wr (B + 2) 3 (Tab N (fun v => nv (s.idx v)))
  b3 : Row wr (B + 3) 22 [.slice (some ⟨B + 2, 0, none⟩) N N]
  b4 : Row wr (B + 4) 3 (Tab N (fun v => nv (s.low v)))
  b5 : Row wr (B + 5) 22 [.slice (some ⟨B + 4, 0, none⟩) N N]
  b6 : Row wr (B + 6) 4 (Tab N (fun v => .bool (s.on v)))
  b7 : Row wr (B + 7) 54 [.slice (some ⟨B + 6, 0, none⟩) N N]
  b8 : Row wr (B + 8) 22 [vS]
  b9 : Row wr (B + 9) 88 [vP]
  b10 : Row wr (B + 10) 3 [nv s.reached]
  oS : wr.ownsRow (B + 11) 3 1 vS s.stack.length (s.stack.reverse.map nv)
  oP : wr.ownsRow (B + 11) 90 2 vP s.path.length (flat s.path.reverse)
  oZ : wr.ownsRow (B + 11) 3 1 vZ s.size.length (s.size.map nv)
  sp : Far vS vP
  sz : Far vS vZ
  pz : Far vP vZ
  below : Below B w wr
  room : B + 11 ≤ wr.heap.size

section
variable {w wr : World} {B N bg : Nat} {s : Tj.St} {vS vP vZ : Value}

theorem owns_low {w w' : World} {base : Nat} {e : TypeId} {size : Nat} {v : Value} {n : Nat} {xs : List Value} {k : Nat} (h : w.ownsRow base e size v n xs) (hg : w.grownBy w' (some k)) (hk : k < base) : w'.ownsRow base e size v n xs :=
  h.kept hg (.inr (fun e => by have := (h.lt k e).1; omega))

/-- nothing of the search's own is touched -/
theorem Mem.grown {wr' : World} (h : Mem w wr B N bg s vS vP vZ) (hg : wr.grownBy wr' none) : Mem w wr' B N bg s vS vP vZ := by
  have hz : ∀ k, some k ≠ (none : Option Nat) := fun k e => by cases e
  have ho : ∀ v : Value, v.ownBlock = none ∨ v.ownBlock ≠ none := fun v => by cases v.ownBlock <;> simp
  have hr := h.room
  exact ⟨h.b0.kept hg (hz _), h.b1.kept hg (hz _), h.b2.kept hg (hz _), h.b3.kept hg (hz _), h.b4.kept hg (hz _), h.b5.kept hg (hz _), h.b6.kept hg (hz _), h.b7.kept hg (hz _), h.b8.kept hg (hz _), h.b9.kept hg (hz _), h.b10.kept hg (hz _),
    h.oS.kept hg (ho _), h.oP.kept hg (ho _), h.oZ.kept hg (ho _), h.sp, h.sz, h.pz, h.below.grown hg (by omega) (fun j hj => by cases hj), Nat.le_trans hr hg.size⟩

theorem Mem.alloc (h : Mem w wr B N bg s vS vP vZ) (o : Obj) : Mem w (wr.alloc o) B N bg s vS vP vZ := h.grown (World.grownBy_alloc _ _ _)
theorem Mem.drew (h : Mem w wr B N bg s vS vP vZ) : Mem w wr.drew B N bg s vS vP vZ := h.grown (grownBy_drew _ _)

theorem nsome {a b : Nat} (h : a ≠ b) : some a ≠ some b := fun e => h (by injection e)

theorem Mem.low (h : Mem w wr B N bg s vS vP vZ) (n l : Nat) : Mem w (wr.setCell ⟨B + 4, n, none⟩ (nv l)) B N bg { s with low := Tj.upd s.low n l } vS vP vZ := by
  have hg := grownBy_setCell wr ⟨B + 4, n, none⟩ (nv l)
  have hr := h.room
  exact ⟨h.b0.kept hg (nsome (by simp)), h.b1.kept hg (nsome (by simp)), h.b2.kept hg (nsome (by simp)), h.b3.kept hg (nsome (by simp)), (h.b4.setTab n (nv l)).tabEq (fun m _ => by simp only [Tj.upd]; split <;> rfl), h.b5.kept hg (nsome (by simp)), h.b6.kept hg (nsome (by simp)), h.b7.kept hg (nsome (by simp)), h.b8.kept hg (nsome (by simp)), h.b9.kept hg (nsome (by simp)), h.b10.kept hg (nsome (by simp)),
    owns_low h.oS hg (by simp), owns_low h.oP hg (by simp), owns_low h.oZ hg (by simp), h.sp, h.sz, h.pz, h.below.grown hg (by omega) (fun j hj => by injection hj with hj; simp at hj; omega), Nat.le_trans hr hg.size⟩

theorem Mem.idx (h : Mem w wr B N bg s vS vP vZ) (n l : Nat) : Mem w (wr.setCell ⟨B + 2, n, none⟩ (nv l)) B N bg { s with idx := Tj.upd s.idx n l } vS vP vZ := by
  have hg := grownBy_setCell wr ⟨B + 2, n, none⟩ (nv l)
  have hr := h.room
  exact ⟨h.b0.kept hg (nsome (by simp)), h.b1.kept hg (nsome (by simp)), (h.b2.setTab n (nv l)).tabEq (fun m _ => by simp only [Tj.upd]; split <;> rfl), h.b3.kept hg (nsome (by simp)), h.b4.kept hg (nsome (by simp)), h.b5.kept hg (nsome (by simp)), h.b6.kept hg (nsome (by simp)), h.b7.kept hg (nsome (by simp)), h.b8.kept hg (nsome (by simp)), h.b9.kept hg (nsome (by simp)), h.b10.kept hg (nsome (by simp)),
    owns_low h.oS hg (by simp), owns_low h.oP hg (by simp), owns_low h.oZ hg (by simp), h.sp, h.sz, h.pz, h.below.grown hg (by omega) (fun j hj => by injection hj with hj; simp at hj; omega), Nat.le_trans hr hg.size⟩

theorem Mem.cmp (h : Mem w wr B N bg s vS vP vZ) (n l : Nat) : Mem w (wr.setCell ⟨B + 1, n, none⟩ (nv l)) B N bg { s with cmp := Tj.upd s.cmp n l } vS vP vZ := by
  have hg := grownBy_setCell wr ⟨B + 1, n, none⟩ (nv l)
  have hr := h.room
  exact ⟨h.b0.kept hg (nsome (by simp)), (h.b1.setTab n (nv l)).tabEq (fun m _ => by simp only [Tj.upd]; split <;> rfl), h.b2.kept hg (nsome (by simp)), h.b3.kept hg (nsome (by simp)), h.b4.kept hg (nsome (by simp)), h.b5.kept hg (nsome (by simp)), h.b6.kept hg (nsome (by simp)), h.b7.kept hg (nsome (by simp)), h.b8.kept hg (nsome (by simp)), h.b9.kept hg (nsome (by simp)), h.b10.kept hg (nsome (by simp)),
    owns_low h.oS hg (by simp), owns_low h.oP hg (by simp), owns_low h.oZ hg (by simp), h.sp, h.sz, h.pz, h.below.grown hg (by omega) (fun j hj => by injection hj with hj; simp at hj; omega), Nat.le_trans hr hg.size⟩

theorem Mem.on (h : Mem w wr B N bg s vS vP vZ) (n : Nat) (b : Bool) : Mem w (wr.setCell ⟨B + 6, n, none⟩ (.bool b)) B N bg { s with on := Tj.upd s.on n b } vS vP vZ := by
  have hg := grownBy_setCell wr ⟨B + 6, n, none⟩ (.bool b)
  have hr := h.room
  exact ⟨h.b0.kept hg (nsome (by simp)), h.b1.kept hg (nsome (by simp)), h.b2.kept hg (nsome (by simp)), h.b3.kept hg (nsome (by simp)), h.b4.kept hg (nsome (by simp)), h.b5.kept hg (nsome (by simp)), (h.b6.setTab n (.bool b)).tabEq (fun m _ => by simp only [Tj.upd]; split <;> rfl), h.b7.kept hg (nsome (by simp)), h.b8.kept hg (nsome (by simp)), h.b9.kept hg (nsome (by simp)), h.b10.kept hg (nsome (by simp)),
    owns_low h.oS hg (by simp), owns_low h.oP hg (by simp), owns_low h.oZ hg (by simp), h.sp, h.sz, h.pz, h.below.grown hg (by omega) (fun j hj => by injection hj with hj; simp at hj; omega), Nat.le_trans hr hg.size⟩

theorem Mem.reach (h : Mem w wr B N bg s vS vP vZ) (l : Nat) : Mem w (wr.setCell ⟨B + 10, 0, none⟩ (nv l)) B N bg { s with reached := l } vS vP vZ := by
  have hg := grownBy_setCell wr ⟨B + 10, 0, none⟩ (nv l)
  have hr := h.room
  exact ⟨h.b0.kept hg (nsome (by simp)), h.b1.kept hg (nsome (by simp)), h.b2.kept hg (nsome (by simp)), h.b3.kept hg (nsome (by simp)), h.b4.kept hg (nsome (by simp)), h.b5.kept hg (nsome (by simp)), h.b6.kept hg (nsome (by simp)), h.b7.kept hg (nsome (by simp)), h.b8.kept hg (nsome (by simp)), h.b9.kept hg (nsome (by simp)), h.b10.set 0 (nv l),
    owns_low h.oS hg (by simp), owns_low h.oP hg (by simp), owns_low h.oZ hg (by simp), h.sp, h.sz, h.pz, h.below.grown hg (by omega) (fun j hj => by injection hj with hj; simp at hj; omega), Nat.le_trans hr hg.size⟩

/-- a new slice is written into the stack's variable -/
theorem Mem.setS (h : Mem w wr B N bg s vS vP vZ) {vS' : Value} {st : List Nat} (ho : wr.ownsRow (B + 11) 3 1 vS' st.length (st.reverse.map nv)) (hp : Far vS' vP) (hz : Far vS' vZ) :
    Mem w (wr.setCell ⟨B + 8, 0, none⟩ vS') B N bg { s with stack := st } vS' vP vZ := by
  have hg := grownBy_setCell wr ⟨B + 8, 0, none⟩ vS'
  have hr := h.room
  exact ⟨h.b0.kept hg (nsome (by simp)), h.b1.kept hg (nsome (by simp)), h.b2.kept hg (nsome (by simp)), h.b3.kept hg (nsome (by simp)), h.b4.kept hg (nsome (by simp)), h.b5.kept hg (nsome (by simp)), h.b6.kept hg (nsome (by simp)), h.b7.kept hg (nsome (by simp)), h.b8.set 0 vS', h.b9.kept hg (nsome (by simp)), h.b10.kept hg (nsome (by simp)),
    owns_low ho hg (by simp), owns_low h.oP hg (by simp), owns_low h.oZ hg (by simp), hp, hz, h.pz, h.below.grown hg (by omega) (fun j hj => by injection hj with hj; simp at hj; omega), Nat.le_trans hr hg.size⟩

theorem Mem.setP (h : Mem w wr B N bg s vS vP vZ) {vP' : Value} {pa : List (Nat × Nat)} (ho : wr.ownsRow (B + 11) 90 2 vP' pa.length (flat pa.reverse)) (hs : Far vS vP') (hz : Far vP' vZ) :
    Mem w (wr.setCell ⟨B + 9, 0, none⟩ vP') B N bg { s with path := pa } vS vP' vZ := by
  have hg := grownBy_setCell wr ⟨B + 9, 0, none⟩ vP'
  have hr := h.room
  exact ⟨h.b0.kept hg (nsome (by simp)), h.b1.kept hg (nsome (by simp)), h.b2.kept hg (nsome (by simp)), h.b3.kept hg (nsome (by simp)), h.b4.kept hg (nsome (by simp)), h.b5.kept hg (nsome (by simp)), h.b6.kept hg (nsome (by simp)), h.b7.kept hg (nsome (by simp)), h.b8.kept hg (nsome (by simp)), h.b9.set 0 vP', h.b10.kept hg (nsome (by simp)),
    owns_low h.oS hg (by simp), owns_low ho hg (by simp), owns_low h.oZ hg (by simp), hs, h.sz, hz, h.below.grown hg (by omega) (fun j hj => by injection hj with hj; simp at hj; omega), Nat.le_trans hr hg.size⟩

/-- an append to the stack: its row, or a new one, holds one node more; then its variable is written -/
theorem far_of {wr' : World} {v u : Value} {g base e size m : Nat} {ys : List Value} (hf : Far v u) (ho : wr.ownsRow base e size u m ys) (hat : v.ownBlock = some g ∨ g = wr.heap.size) (k cap : Nat) : Far (.slice (some ⟨g, 0, none⟩) k cap) u := by
  intro g' h1 h2
  have hg : g = g' := by simpa [Value.ownBlock] using h1
  subst hg
  rcases hat with hat | hat
  · exact hf g hat h2
  · have := (ho.lt g h2).2; omega

theorem keepF {v u : Value} {wr : World} {base e size m : Nat} {ys : List Value} {w1 : World} (ho : wr.ownsRow base e size u m ys) (hg : wr.grownBy w1 v.ownBlock) (hf : Far v u) : w1.ownsRow base e size u m ys := by
  refine ho.kept hg ?_
  cases hu : u.ownBlock with
  | none => exact .inl rfl
  | some k =>
    right
    intro e
    exact hf k e.symm hu

theorem Mem.rows {w1 : World} {row : Option Nat} (h : Mem w wr B N bg s vS vP vZ) (hg : wr.grownBy w1 row) (hrow : ∀ k, row = some k → B + 11 ≤ k)
    (oS : w1.ownsRow (B + 11) 3 1 vS s.stack.length (s.stack.reverse.map nv)) (oP : w1.ownsRow (B + 11) 90 2 vP s.path.length (flat s.path.reverse)) {vZ' : Value} {zs : List Nat} (oZ : w1.ownsRow (B + 11) 3 1 vZ' zs.length (zs.map nv))
    (hsz : Far vS vZ') (hpz : Far vP vZ') : Mem w w1 B N bg { s with size := zs } vS vP vZ' := by
  have hz : ∀ k, k < B + 11 → some k ≠ row := fun k hk e => by have := hrow k e.symm; omega
  have hr := h.room
  exact ⟨h.b0.kept hg (hz _ (by omega)), h.b1.kept hg (hz _ (by omega)), h.b2.kept hg (hz _ (by omega)), h.b3.kept hg (hz _ (by omega)), h.b4.kept hg (hz _ (by omega)), h.b5.kept hg (hz _ (by omega)), h.b6.kept hg (hz _ (by omega)), h.b7.kept hg (hz _ (by omega)), h.b8.kept hg (hz _ (by omega)), h.b9.kept hg (hz _ (by omega)), h.b10.kept hg (hz _ (by omega)),
    oS, oP, oZ, h.sp, hsz, hpz, h.below.grown hg (by omega) (fun j hj => by have := hrow j hj; omega), Nat.le_trans hr hg.size⟩

/-- the fixed blocks alone -/
structure Fix (w wr : World) (B N bg : Nat) (s : Tj.St) (vS vP : Value) : Prop where
  b0 : Row wr B 50 [.pointer (some ⟨bg, 0, none⟩)]
  b1 : Row wr (B + 1) 3 (Tab N (fun v => nv (s.cmp v)))
  b2 : Row wr (B + 2) 3 (Tab N (fun v => nv (s.idx v)))
  b3 : Row wr (B + 3) 22 [.slice (some ⟨B + 2, 0, none⟩) N N]
  b4 : Row wr (B + 4) 3 (Tab N (fun v => nv (s.low v)))
  b5 : Row wr (B + 5) 22 [.slice (some ⟨B + 4, 0, none⟩) N N]
  b6 : Row wr (B + 6) 4 (Tab N (fun v => .bool (s.on v)))
  b7 : Row wr (B + 7) 54 [.slice (some ⟨B + 6, 0, none⟩) N N]
  b8 : Row wr (B + 8) 22 [vS]
  b9 : Row wr (B + 9) 88 [vP]
  b10 : Row wr (B + 10) 3 [nv s.reached]
  below : Below B w wr
  room : B + 11 ≤ wr.heap.size

theorem Mem.fix (h : Mem w wr B N bg s vS vP vZ) : Fix w wr B N bg s vS vP := ⟨h.b0, h.b1, h.b2, h.b3, h.b4, h.b5, h.b6, h.b7, h.b8, h.b9, h.b10, h.below, h.room⟩

theorem Fix.grown {w1 : World} {row : Option Nat} (h : Fix w wr B N bg s vS vP) (hg : wr.grownBy w1 row) (hrow : ∀ k, row = some k → B + 11 ≤ k) : Fix w w1 B N bg s vS vP := by
  have hz : ∀ k, k < B + 11 → some k ≠ row := fun k hk e => by have := hrow k e.symm; omega
  have hr := h.room
  exact ⟨h.b0.kept hg (hz _ (by omega)), h.b1.kept hg (hz _ (by omega)), h.b2.kept hg (hz _ (by omega)), h.b3.kept hg (hz _ (by omega)), h.b4.kept hg (hz _ (by omega)), h.b5.kept hg (hz _ (by omega)), h.b6.kept hg (hz _ (by omega)), h.b7.kept hg (hz _ (by omega)), h.b8.kept hg (hz _ (by omega)), h.b9.kept hg (hz _ (by omega)), h.b10.kept hg (hz _ (by omega)), h.below.grown hg (by omega) (fun j hj => by have := hrow j hj; omega), Nat.le_trans hr hg.size⟩

/-- an append to the stack, and its variable written -/
theorem Mem.pushS (h : Mem w wr B N bg s vS vP vZ) {w1 : World} {g cap n : Nat} (hg : wr.grownBy w1 vS.ownBlock) (ho : w1.ownsRow (B + 11) 3 1 (.slice (some ⟨g, 0, none⟩) (s.stack.length + 1) cap) (s.stack.length + 1) (s.stack.reverse.map nv ++ [nv n]))
    (hat : vS.ownBlock = some g ∨ g = wr.heap.size) :
    Mem w (w1.setCell ⟨B + 8, 0, none⟩ (.slice (some ⟨g, 0, none⟩) (s.stack.length + 1) cap)) B N bg { s with stack := n :: s.stack } (.slice (some ⟨g, 0, none⟩) (s.stack.length + 1) cap) vP vZ := by
  have hf := h.fix.grown hg (fun k hk => (h.oS.lt k hk).1)
  have oP := keepF h.oP hg h.sp
  have oZ := keepF h.oZ hg h.sz
  have hp := far_of (wr' := w1) h.sp h.oP hat (s.stack.length + 1) cap
  have hz := far_of (wr' := w1) h.sz h.oZ hat (s.stack.length + 1) cap
  have hg2 := grownBy_setCell w1 ⟨B + 8, 0, none⟩ (.slice (some ⟨g, 0, none⟩) (s.stack.length + 1) cap)
  have hr := hf.room
  exact ⟨hf.b0.kept hg2 (nsome (by simp)), hf.b1.kept hg2 (nsome (by simp)), hf.b2.kept hg2 (nsome (by simp)), hf.b3.kept hg2 (nsome (by simp)), hf.b4.kept hg2 (nsome (by simp)), hf.b5.kept hg2 (nsome (by simp)), hf.b6.kept hg2 (nsome (by simp)), hf.b7.kept hg2 (nsome (by simp)), hf.b8.set 0 _, hf.b9.kept hg2 (nsome (by simp)), hf.b10.kept hg2 (nsome (by simp)),
    by simpa using owns_low ho hg2 (by simp), owns_low oP hg2 (by simp), owns_low oZ hg2 (by simp), hp, hz, h.pz, hf.below.grown hg2 (by omega) (fun j hj => by injection hj with hj; simp at hj; omega), Nat.le_trans hr hg2.size⟩

theorem Mem.pushP (h : Mem w wr B N bg s vS vP vZ) {w1 : World} {g cap n i : Nat} (hg : wr.grownBy w1 vP.ownBlock) (ho : w1.ownsRow (B + 11) 90 2 (.slice (some ⟨g, 0, none⟩) (s.path.length + 1) cap) (s.path.length + 1) (flat s.path.reverse ++ [nv n, nv i]))
    (hat : vP.ownBlock = some g ∨ g = wr.heap.size) :
    Mem w (w1.setCell ⟨B + 9, 0, none⟩ (.slice (some ⟨g, 0, none⟩) (s.path.length + 1) cap)) B N bg { s with path := (n, i) :: s.path } vS (.slice (some ⟨g, 0, none⟩) (s.path.length + 1) cap) vZ := by
  have hf := h.fix.grown hg (fun k hk => (h.oP.lt k hk).1)
  have oS := keepF h.oS hg h.sp.symm
  have oZ := keepF h.oZ hg h.pz
  have hp := far_of (wr' := w1) h.sp.symm h.oS hat (s.path.length + 1) cap
  have hz := far_of (wr' := w1) h.pz h.oZ hat (s.path.length + 1) cap
  have hg2 := grownBy_setCell w1 ⟨B + 9, 0, none⟩ (.slice (some ⟨g, 0, none⟩) (s.path.length + 1) cap)
  have hr := hf.room
  exact ⟨hf.b0.kept hg2 (nsome (by simp)), hf.b1.kept hg2 (nsome (by simp)), hf.b2.kept hg2 (nsome (by simp)), hf.b3.kept hg2 (nsome (by simp)), hf.b4.kept hg2 (nsome (by simp)), hf.b5.kept hg2 (nsome (by simp)), hf.b6.kept hg2 (nsome (by simp)), hf.b7.kept hg2 (nsome (by simp)), hf.b8.kept hg2 (nsome (by simp)), hf.b9.set 0 _, hf.b10.kept hg2 (nsome (by simp)),
    owns_low oS hg2 (by simp), by simpa [flat_append, flat] using owns_low ho hg2 (by simp), owns_low oZ hg2 (by simp), hp.symm, h.sz, hz, hf.below.grown hg2 (by omega) (fun j hj => by injection hj with hj; simp at hj; omega), Nat.le_trans hr hg2.size⟩

theorem Mem.pushZ (h : Mem w wr B N bg s vS vP vZ) {w1 : World} {g cap n : Nat} (hg : wr.grownBy w1 vZ.ownBlock) (ho : w1.ownsRow (B + 11) 3 1 (.slice (some ⟨g, 0, none⟩) (s.size.length + 1) cap) (s.size.length + 1) (s.size.map nv ++ [nv n]))
    (hat : vZ.ownBlock = some g ∨ g = wr.heap.size) :
    Mem w w1 B N bg { s with size := s.size ++ [n] } vS vP (.slice (some ⟨g, 0, none⟩) (s.size.length + 1) cap) := by
  have hf := h.fix.grown hg (fun k hk => (h.oZ.lt k hk).1)
  have oS := keepF h.oS hg h.sz.symm
  have oP := keepF h.oP hg h.pz.symm
  have hs := far_of (wr' := w1) h.sz.symm h.oS hat (s.size.length + 1) cap
  have hp := far_of (wr' := w1) h.pz.symm h.oP hat (s.size.length + 1) cap
  exact ⟨hf.b0, hf.b1, hf.b2, hf.b3, hf.b4, hf.b5, hf.b6, hf.b7, hf.b8, hf.b9, hf.b10, oS, oP, by simpa using ho, h.sp, hs.symm, hp.symm, hf.below, hf.room⟩
end
end Go.Proofs.Qxb6602044a
