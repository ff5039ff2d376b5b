/-
  THE SEARCH OF EACH CLASS: ITS MEMORY; zzKeep, zzWeight.
-/
import Derived.Test.Qxb6602044aD4
import Derived.Test.Qxb6602044aBf
import Derived.Deep.LoopGhost
import Derived.Deep.RegionWith
namespace Go.Proofs.Qxb6602044a
open Go.RowKit
set_option linter.unusedVariables false

structure Q3 (w wr : World) (B0 base b1 b2 N : Nat) (f : Nat → Value) (sn : Nat → Bool) (vQ : Value) (q : List Nat) : Prop where
  r1 : Row wr b1 3 (Tab N f)
  ints : ∀ v, ∃ x : Int, f v = .int .i64 x
  r2 : Row wr b2 4 (Tab N (fun v => .bool (sn v)))
  oQ : wr.ownsRow base 3 1 vQ q.length (q.map nv)
  l1 : b1 < base
  l2 : b2 < base
  ne : b1 ≠ b2
  below : Below B0 w wr
  low : B0 ≤ base
  room : base ≤ wr.heap.size

section
variable {w wr : World} {B0 base b1 b2 N : Nat} {f : Nat → Value} {sn : Nat → Bool} {vQ : Value} {q : List Nat}

theorem Q3.grown {wr' : World} (h : Q3 w wr B0 base b1 b2 N f sn vQ q) (hg : wr.grownBy wr' none) : Q3 w wr' B0 base b1 b2 N f sn vQ q := by
  have hz : ∀ k, some k ≠ (none : Option Nat) := fun k e => by cases e
  have ho : ∀ v : Value, v.ownBlock = none ∨ v.ownBlock ≠ none := fun v => by cases v.ownBlock <;> simp
  have hr := h.room
  have hl := h.low
  exact ⟨h.r1.kept hg (hz _), h.ints, h.r2.kept hg (hz _), h.oQ.kept hg (ho _), h.l1, h.l2, h.ne, h.below.grown hg (by omega) (fun j hj => by cases hj), h.low, Nat.le_trans hr hg.size⟩

theorem Q3.alloc (h : Q3 w wr B0 base b1 b2 N f sn vQ q) (o : Obj) : Q3 w (wr.alloc o) B0 base b1 b2 N f sn vQ q := h.grown (World.grownBy_alloc _ _ _)
theorem Q3.drew (h : Q3 w wr B0 base b1 b2 N f sn vQ q) : Q3 w wr.drew B0 base b1 b2 N f sn vQ q := h.grown (grownBy_drew _ _)
theorem Q3.drewN (h : Q3 w wr B0 base b1 b2 N f sn vQ q) (n : Nat) : Q3 w (wr.drewN n) B0 base b1 b2 N f sn vQ q := by
  induction n with
  | zero => exact h
  | succ n ih => exact ih.drew

theorem Q3.lab (h : Q3 w wr B0 base b1 b2 N f sn vQ q) (hB : B0 ≤ b1) (n : Nat) (l : Int) : Q3 w (wr.setCell ⟨b1, n, none⟩ (.int .i64 l)) B0 base b1 b2 N (Tj.upd f n (.int .i64 l)) sn vQ q := by
  have hg := grownBy_setCell wr ⟨b1, n, none⟩ (.int .i64 l)
  have hr := h.room
  have hl := h.low
  exact ⟨(h.r1.setTab n (.int .i64 l)).tabEq (fun m _ => by simp only [Tj.upd]), fun v => (by by_cases e : v = n; exact ⟨l, by rw [e, Tj.upd_same]⟩; rw [Tj.upd_other _ _ e]; exact h.ints v), h.r2.kept hg (nsome (Ne.symm h.ne)), owns_low h.oQ hg h.l1, h.l1, h.l2, h.ne, h.below.grown hg (by omega) (fun j hj => by injection hj with hj; simp at hj; omega), h.low, Nat.le_trans hr hg.size⟩

theorem Q3.sn_ (h : Q3 w wr B0 base b1 b2 N f sn vQ q) (hB : B0 ≤ b2) (n : Nat) (b : Bool) : Q3 w (wr.setCell ⟨b2, n, none⟩ (.bool b)) B0 base b1 b2 N f (Tj.upd sn n b) vQ q := by
  have hg := grownBy_setCell wr ⟨b2, n, none⟩ (.bool b)
  have hr := h.room
  have hl := h.low
  exact ⟨h.r1.kept hg (nsome h.ne), h.ints, (h.r2.setTab n (.bool b)).tabEq (fun m _ => by simp only [Tj.upd]; split <;> rfl), owns_low h.oQ hg h.l2, h.l1, h.l2, h.ne, h.below.grown hg (by omega) (fun j hj => by injection hj with hj; simp at hj; omega), h.low, Nat.le_trans hr hg.size⟩

theorem Q3.push (h : Q3 w wr B0 base b1 b2 N f sn vQ q) {w1 : World} {g cap n : Nat} (hg : wr.grownBy w1 vQ.ownBlock) (ho : w1.ownsRow base 3 1 (.slice (some ⟨g, 0, none⟩) (q.length + 1) cap) (q.length + 1) (q.map nv ++ [nv n])) :
    Q3 w w1 B0 base b1 b2 N f sn (.slice (some ⟨g, 0, none⟩) (q.length + 1) cap) (q ++ [n]) := by
  have hlt : ∀ k, vQ.ownBlock = some k → base ≤ k := fun k hk => (h.oQ.lt k hk).1
  have hr := h.room
  have hl := h.low
  refine ⟨h.r1.kept hg (fun e => ?_), h.ints, h.r2.kept hg (fun e => ?_), by simpa using ho, h.l1, h.l2, h.ne, h.below.grown hg (by omega) (fun j hj => ?_), h.low, Nat.le_trans hr hg.size⟩
  · have := hlt _ e.symm; have := h.l1; omega
  · have := hlt _ e.symm; have := h.l2; omega
  · have := hlt _ hj; omega

theorem Q3.clear (h : Q3 w wr B0 base b1 b2 N f sn vQ q) : (vQ = .slice none 0 0 ∧ Q3 w wr B0 base b1 b2 N f sn (.slice none 0 0) []) ∨
    ∃ g cap, vQ = .slice (some ⟨g, 0, none⟩) q.length cap ∧ q.length ≤ cap ∧ cap ≤ maxLen ∧ Q3 w wr B0 base b1 b2 N f sn (.slice (some ⟨g, 0, none⟩) 0 cap) [] := by
  rcases h.oQ.2 with ⟨h0, h1⟩ | ⟨g, cap, cur, h0, hb, hg, hc, hm, hs, htake⟩
  · left
    exact ⟨h0, h.r1, h.ints, h.r2, World.ownsRow_nil _ _ _ _, h.l1, h.l2, h.ne, h.below, h.low, h.room⟩
  · right
    refine ⟨g, cap, h0, hc, hm, h.r1, h.ints, h.r2, ?_, h.l1, h.l2, h.ne, h.below, h.low, h.room⟩
    have ho := h.oQ
    rw [h0] at ho
    simpa using owns_shrink ho (k := 0) (Nat.zero_le _)

theorem Q3.at (h : Q3 w wr B0 base b1 b2 N f sn vQ q) {i : Nat} (hi : i < q.length) : ∃ g cap, vQ = .slice (some ⟨g, 0, none⟩) q.length cap ∧ wr.cell? ⟨g, i, none⟩ = some (nv (q.getD i 0)) := by
  obtain ⟨g, cap, he, _, _, _, _, hc, _⟩ := owns_open h.oQ (by omega)
  refine ⟨g, cap, he, hc i _ ?_⟩
  rw [List.getElem?_map, List.getElem?_eq_getElem hi, List.getD_eq_getElem?_getD, List.getElem?_eq_getElem hi]
  rfl
end

theorem mk_room (n : Nat) (hn : n ≤ 1048576) (w : World) : (Instr.makeSlice 22 (.int .i64 0) (.int .i64 (n : Int))).run Try.prog w =
    .ok (.slice (some ⟨w.heap.size, 0, none⟩) 0 n) (w.alloc (.cells (List.replicate n (.int .i64 0)).toArray 3)) := by
  obtain ⟨i0, hi, hz0, hz1, hz2⟩ := info_parts Try.info3
  have h := run_make (P := Try.prog) w 22 3 i0 _ Try.underlying22 hi hz0 .i64 .i64 0 (n : Int) (by omega) (by omega) (by rw [hz2]; omega) (by omega)
  rw [h, hz1, Nat.mul_one, Int.toNat_natCast, madeCells_replicate _ _ rfl]
  rfl

/-- an empty row of its own, with room -/
theorem owns_room {w : World} {base g n : Nat} (hb : base ≤ g) (hr : Row w g 3 (List.replicate n (.int .i64 0))) (hn : n ≤ maxLen) : w.ownsRow base 3 1 (.slice (some ⟨g, 0, none⟩) 0 n) 0 [] :=
  ⟨rfl, .inr ⟨g, n, (List.replicate n (Value.int .i64 0)).toArray, rfl, hb, hr, Nat.zero_le _, hn, by simp, by simp⟩⟩

def RetB (w : World) (b : Bool) (e : Ending) (w' : World) : Prop := e = .returned (.bool b) ∧ ∃ k, w' = w.drewN k

set_option maxRecDepth 100000 in
set_option maxHeartbeats 1000000 in
theorem keep_any {wr : World} {bc N : Nat} {cmp : Nat → Nat} (hc : ∀ v, v < N → wr.cell? ⟨bc, v, none⟩ = some (nv (cmp v))) {u v k most : Nat} (hu : u < N) (hv : v < N) (hk : k < 256) (hm : most < 256) (hN : N ≤ 131072) :
    Calls Try.prog 34 #[.int .i64 (u : Int), .int .i64 (v : Int), .int .u8 (k : Int), .int .i64 (most : Int), .slice (some ⟨bc, 0, none⟩) N N] wr (RetB wr (decide (k ≤ most) && decide (cmp u = cmp v))) := by
  have cu : wr.cell? ⟨bc, u, none⟩ = some (.int .i64 (cmp u : Int)) := hc u hu
  have cv : wr.cell? ⟨bc, v, none⟩ = some (.int .i64 (cmp v : Int)) := hc v hv
  clear hc
  have hui : (u : Int) < (N : Int) := by omega
  have hvi : (v : Int) < (N : Int) := by omega
  generalize cmp u = x at cu
  generalize cmp v = y at cv
  by_cases h1 : k ≤ most
  · have hd : decide ((k : Int) ≤ (most : Int)) = true := decide_eq_true (by omega)
    rw [decide_eq_true h1]
    by_cases h2 : x = y
    · subst h2
      have he : ((x : Int) == (x : Int)) = true := by simp
      rw [decide_eq_true rfl]
      go_enter Try.func34, Try.ntmps34
      go_upto_region 1 with fail
      go_quiet (fail)
      go_wp2
      go_ret
      exact ⟨by simp, _, rfl⟩
    · have he : ((x : Int) == (y : Int)) = false := beq_eq_false_iff_ne.2 (by omega)
      rw [decide_eq_false h2]
      go_enter Try.func34, Try.ntmps34
      go_upto_region 1 with fail
      go_quiet (fail)
      go_wp2
      go_ret
      exact ⟨by simp, _, rfl⟩
  · have hd : decide ((k : Int) ≤ (most : Int)) = false := decide_eq_false (by omega)
    rw [decide_eq_false h1]
    go_enter Try.func34, Try.ntmps34
    go_upto_region 1 with fail
    go_quiet (fail)
    go_wp2
    go_ret
    exact ⟨by simp, _, rfl⟩

set_option maxRecDepth 100000 in
theorem weight35_any (w : World) (n : Nat) (plain : Int) : Calls Try.prog 35 #[.int .i64 (n : Int), .int .i64 plain] w fun e w' => e = .returned (.int .i64 (if (n : Int) < plain then 1 else 0)) ∧ w' = w := by
  by_cases h : (n : Int) < plain
  · rw [if_pos h]
    go_enter Try.func35, Try.ntmps35
    go_wp2
    go_ret
    exact ⟨rfl, rfl⟩
  · rw [if_neg h]
    go_enter Try.func35, Try.ntmps35
    go_wp2
    go_ret
    exact ⟨rfl, rfl⟩

/-- the cells of the arguments, told by the graph -/
theorem GIn.cst {w : World} {b0 : Nat} {a1 a2 : Option Addr} {z0 z1 z2 : List Int} (h : GIn w b0 a1 a2 z0 z1 z2) (plain : Int) (most : Nat) {n : Nat} (hn : n < z0.length) :
    w.cell? ⟨b0, n, none⟩ = some (nv ((zGr z0 z1 z2 plain most).st n)) := by
  obtain ⟨b, off, he, _, hc⟩ := h.r0.at hn
  injection he with he
  injection he with e1 e2
  subst e1 e2
  rw [Nat.zero_add] at hc
  rw [hc]
  show _ = some (Value.int .i64 ((z0.getD n 0).toNat : Int))
  rw [Int.toNat_of_nonneg (h.st0 n hn)]

theorem GIn.cto {w : World} {b0 : Nat} {a1 a2 : Option Addr} {z0 z1 z2 : List Int} (h : GIn w b0 a1 a2 z0 z1 z2) (plain : Int) (most : Nat) {j : Nat} (hj : j < z1.length) :
    ∃ b off, a1 = some ⟨b, off, none⟩ ∧ b < w.heap.size ∧ w.cell? ⟨b, off + j, none⟩ = some (.int .i64 ((zGr z0 z1 z2 plain most).to j : Int)) := by
  obtain ⟨b, off, he, hl, hc⟩ := h.r1.at hj
  refine ⟨b, off, he, hl, ?_⟩
  rw [hc]
  show _ = some (Value.int .i64 ((z1.getD j 0).toNat : Int))
  rw [Int.toNat_of_nonneg (h.ok.ends j hj).1]

theorem GIn.ckd {w : World} {b0 : Nat} {a1 a2 : Option Addr} {z0 z1 z2 : List Int} (h : GIn w b0 a1 a2 z0 z1 z2) {j : Nat} (hj : j < z1.length) :
    ∃ b off, a2 = some ⟨b, off, none⟩ ∧ b < w.heap.size ∧ w.cell? ⟨b, off + j, none⟩ = some (.int .u8 ((z2.getD j 0).toNat : Int)) := by
  have hj2 : j < z2.length := by rw [h.ok.kind]; exact hj
  obtain ⟨b, off, he, hl, hc⟩ := h.r2.at hj2
  refine ⟨b, off, he, hl, ?_⟩
  rw [hc, Int.toNat_of_nonneg (h.u2 _ (getD_mem hj2)).1]
end Go.Proofs.Qxb6602044a
