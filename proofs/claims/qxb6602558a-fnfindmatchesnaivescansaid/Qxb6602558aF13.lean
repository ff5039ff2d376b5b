/-
  ZZFind: what it makes; the table's value.
-/
import Derived.Test.Qxb6602558aF7
import Derived.Test.Qxb6602558aF10
import Derived.Great.FillDense
namespace Go.Proofs.Qxb6602558a
open Go.RowKit
set_option linter.unusedVariables false

theorem Try.nfo54 : (Try.prog.info? 54).map (fun i => (i.zero, i.size, i.bytes)) = some (some (.slice none 0 0), 1, 24) := by kernel_rfl
theorem Try.nfo56 : (Try.prog.info? 56).map (fun i => (i.zero, i.size, i.bytes)) = some (some (.agg #[.int .i64 0, .int .i64 0]), 2, 16) := by kernel_rfl
theorem Try.nfo60 : (Try.prog.info? 60).map (fun i => (i.zero, i.size, i.bytes)) = some (some (.agg #[.pointer none, .pointer none]), 2, 16) := by kernel_rfl

theorem mk_into (n : Nat) (hn : n ≤ 1048576) (w : World) : (Instr.makeSlice 53 (.int .i64 (n : Int)) (.int .i64 (n : Int))).run Try.prog w =
    .ok (.slice (some ⟨w.heap.size, 0, none⟩) n n) (w.alloc (.cells (List.replicate n (.slice none 0 0)).toArray 54)) := by
  obtain ⟨i0, hi, hz0, hz1, hz2⟩ := info_parts Try.nfo54
  have h := run_make (P := Try.prog) w 53 54 i0 _ Try.underlying53 hi hz0 .i64 .i64 (n : Int) (n : Int) (by omega) (Int.le_refl _) (by rw [hz2]; omega) (by omega)
  rw [h, hz1, Nat.mul_one, Int.toNat_natCast, madeCells_replicate _ _ rfl]

theorem made2 (n : Nat) (z : Value) : (Tab (2 * n) (fun m => (Value.agg #[z, z]).cells[m % (Value.agg #[z, z]).cells.size]!)) = Tab (2 * n) (fun _ => z) := by
  refine Tab.congr (fun m _ => ?_)
  have : m % 2 = 0 ∨ m % 2 = 1 := by omega
  show (#[z, z] : Array Value)[m % 2]! = _
  rcases this with h | h <;> rw [h] <;> rfl

theorem mk_pairs (n : Nat) (hn : n ≤ 1048576) (w : World) : (Instr.makeSlice 54 (.int .i64 (n : Int)) (.int .i64 (n : Int))).run Try.prog w =
    .ok (.slice (some ⟨w.heap.size, 0, none⟩) n n) (w.alloc (.cells (Tab (2 * n) (fun _ => .int .i64 0)).toArray 56)) := by
  obtain ⟨i0, hi, hz0, hz1, hz2⟩ := info_parts Try.nfo56
  have h := run_make (P := Try.prog) w 54 56 i0 _ Try.underlying54 hi hz0 .i64 .i64 (n : Int) (n : Int) (by omega) (Int.le_refl _) (by rw [hz2]; omega) (by omega)
  rw [h, hz1, Int.toNat_natCast, madeCells_tab, Nat.mul_comm n 2, made2]

theorem mk_nb (n : Nat) (hn : n ≤ 1048576) (w : World) : (Instr.makeSlice 57 (.int .i64 (n : Int)) (.int .i64 (n : Int))).run Try.prog w =
    .ok (.slice (some ⟨w.heap.size, 0, none⟩) n n) (w.alloc (.cells (Tab (2 * n) (fun _ => .pointer none)).toArray 60)) := by
  obtain ⟨i0, hi, hz0, hz1, hz2⟩ := info_parts Try.nfo60
  have h := run_make (P := Try.prog) w 57 60 i0 _ Try.underlying57 hi hz0 .i64 .i64 (n : Int) (n : Int) (by omega) (Int.le_refl _) (by rw [hz2]; omega) (by omega)
  rw [h, hz1, Int.toNat_natCast, madeCells_tab, Nat.mul_comm n 2, made2]

theorem Try.size63 : (Try.prog.info? 63).map (fun i => (i.zero.map (fun v => v.cells.size), i.size)) = some (some 1284, 1284) := by kernel_rfl
theorem Try.size36 : (Try.prog.info? 36).map (·.size) = some 1024 := by kernel_rfl
theorem Try.size38 : (Try.prog.info? 38).map (·.size) = some 256 := by kernel_rfl
theorem Try.size28 : (Try.prog.info? 28).map (·.size) = some 1 := by kernel_rfl
theorem Try.size53 : (Try.prog.info? 53).map (·.size) = some 1 := by kernel_rfl
theorem Try.size3 : (Try.prog.info? 3).map (·.size) = some 1 := by kernel_rfl
theorem Try.size57 : (Try.prog.info? 57).map (·.size) = some 1 := by kernel_rfl

theorem run_size {t n : Nat} (h : (Try.prog.info? t).map (·.size) = some n) (w : World) : (sizeOf t).run Try.prog w = .ok n w := by
  cases hq : Try.prog.info? t with
  | none => simp [hq] at h
  | some i =>
    have hs : i.size = n := by simpa [hq] using h
    simp [sizeOf, typeInfo, hq, hs]

/-- one part laid -/
theorem fill_step (place : Nat → Option (Nat × Nat)) (cells : Array Value) (i off : Nat) (v : Value) (rest : List (Nat × Value)) (hp : place i = some (off, v.cells.size)) (hle : off + v.cells.size ≤ cells.size) :
    ∃ c', Instr.fill place cells ((i, v) :: rest) = Instr.fill place c' rest ∧ c'.size = cells.size ∧ ∀ k, c'[k]? = if off ≤ k ∧ k < off + v.cells.size then v.cells[k - off]? else cells[k]? := by
  obtain ⟨g1, g2⟩ := Go.Great.foldl_set off v.cells.toList 0 cells
  refine ⟨_, ?_, g1, fun k => ?_⟩
  · conv => lhs; unfold Instr.fill
    simp only [hp]
    rw [if_neg (by simp; omega)]
    congr 1
    rw [← Array.foldl_toList, Array.toList_zipIdx]
  · rw [g2 k]
    simp only [Nat.add_zero, Array.length_toList, Array.getElem?_toList]
    by_cases h : off ≤ k ∧ k < off + v.cells.size
    · rw [if_pos h, if_pos ⟨h.1, h.2, by omega⟩]
    · rw [if_neg h, if_neg (fun q => h ⟨q.1, q.2.1⟩)]

theorem build63 (w : World) (aA aI aN : Option Addr) (lA cA lI cI lN cN : Nat) (L : Int) (ps st : Array Value) (hps : ps.size = 1024) (hst : st.size = 256) :
    ∃ cs : Array Value, (Instr.build 63 #[(0, .slice aA lA cA), (1, .slice aI lI cI), (2, .int .i64 L), (3, .slice aN lN cN), (4, .agg ps), (5, .agg st)]).run Try.prog w = .ok (.agg cs) w ∧
      cs[0]? = some (.slice aA lA cA) ∧ cs[1]? = some (.slice aI lI cI) ∧ cs[2]? = some (.int .i64 L) ∧ cs[3]? = some (.slice aN lN cN) ∧ (∀ i, i < 1024 → cs[4 + i]? = ps[i]?) ∧ ∀ i, i < 256 → cs[1028 + i]? = st[i]? := by
  obtain ⟨z, hz, hzs⟩ : ∃ z : Value, (∀ w, (zeroValue 63).run Try.prog w = .ok z w) ∧ z.cells.size = 1284 := by
    have := Try.size63
    cases hq : Try.prog.info? 63 with
    | none => simp [hq] at this
    | some i =>
      simp [hq] at this
      obtain ⟨⟨v, hv, hs⟩, _⟩ := this
      exact ⟨v, fun w => by simp [zeroValue, typeInfo, hq, hv], hs⟩
  let pl : Nat → Option (Nat × Nat) := fun i => (#[(0, 1), (1, 1), (2, 1), (3, 1), (4, 1024), (1028, 256)] : Array (Nat × Nat))[i]?
  obtain ⟨c0, f0, s0, k0⟩ := fill_step pl z.cells 0 0 (.slice aA lA cA) [(1, .slice aI lI cI), (2, .int .i64 L), (3, .slice aN lN cN), (4, .agg ps), (5, .agg st)] rfl (by show 0 + 1 ≤ _; omega)
  obtain ⟨c1, f1, s1, k1⟩ := fill_step pl c0 1 1 (.slice aI lI cI) [(2, .int .i64 L), (3, .slice aN lN cN), (4, .agg ps), (5, .agg st)] rfl (by show 1 + 1 ≤ _; omega)
  obtain ⟨c2, f2, s2, k2⟩ := fill_step pl c1 2 2 (.int .i64 L) [(3, .slice aN lN cN), (4, .agg ps), (5, .agg st)] rfl (by show 2 + 1 ≤ _; omega)
  obtain ⟨c3, f3, s3, k3⟩ := fill_step pl c2 3 3 (.slice aN lN cN) [(4, .agg ps), (5, .agg st)] rfl (by show 3 + 1 ≤ _; omega)
  obtain ⟨c4, f4, s4, k4⟩ := fill_step pl c3 4 4 (.agg ps) [(5, .agg st)] (by show some (4, 1024) = some (4, ps.size); rw [hps]) (by show 4 + ps.size ≤ _; omega)
  obtain ⟨c5, f5, s5, k5⟩ := fill_step pl c4 5 1028 (.agg st) [] (by show some (1028, 256) = some (1028, st.size); rw [hst]) (by show 1028 + st.size ≤ _; omega)
  have hfill : Instr.fill pl z.cells [(0, .slice aA lA cA), (1, .slice aI lI cI), (2, .int .i64 L), (3, .slice aN lN cN), (4, .agg ps), (5, .agg st)] = some c5 := by
    rw [f0, f1, f2, f3, f4, f5]; rfl
  have q0 : (Value.slice aA lA cA).cells = #[.slice aA lA cA] := rfl
  have q1 : (Value.slice aI lI cI).cells = #[.slice aI lI cI] := rfl
  have q2 : (Value.int .i64 L).cells = #[.int .i64 L] := rfl
  have q3 : (Value.slice aN lN cN).cells = #[.slice aN lN cN] := rfl
  have q4 : (Value.agg ps).cells = ps := rfl
  have q5 : (Value.agg st).cells = st := rfl
  rw [q0] at k0
  rw [q1] at k1
  rw [q2] at k2
  rw [q3] at k3
  rw [q4, hps] at k4
  rw [q5, hst] at k5
  simp only [List.size_toArray, List.length_cons, List.length_nil] at k0 k1 k2 k3
  refine ⟨c5, ?_, ?_, ?_, ?_, ?_, fun i hi => ?_, fun i hi => ?_⟩
  · unfold Instr.build
    simp only [Sem.run_bind, hz, Result.andThen, run_underlying Try.underlying63]
    simp [Array.mapM_eq_foldlM, run_size Try.size28, run_size Try.size53, run_size Try.size3, run_size Try.size57, run_size Try.size36, run_size Try.size38, Sem.run_bind, Result.andThen]
    have hpl : (fun x => ([(0, 1), (1, 1), (2, 1), (3, 1), (4, 1024), (1028, 256)] : List (Nat × Nat))[x]?) = pl := by funext x; simp [pl]
    rw [hpl, hfill]
    rfl
  · rw [k5, if_neg (by omega), k4, if_neg (by omega), k3, if_neg (by omega), k2, if_neg (by omega), k1, if_neg (by omega), k0, if_pos (by omega)]; rfl
  · rw [k5, if_neg (by omega), k4, if_neg (by omega), k3, if_neg (by omega), k2, if_neg (by omega), k1, if_pos (by omega)]; rfl
  · rw [k5, if_neg (by omega), k4, if_neg (by omega), k3, if_neg (by omega), k2, if_pos (by omega)]; rfl
  · rw [k5, if_neg (by omega), k4, if_neg (by omega), k3, if_pos (by omega)]; rfl
  · rw [k5, if_neg (by omega), k4, if_pos (by omega), show 4 + i - 4 = i by omega]
  · rw [k5, if_pos (by omega), show 1028 + i - 1028 = i by omega]

def pF (J : Job) (k m : Nat) : Value := if m % 2 = 0 then .int .i64 (J.il k (m / 2) : Int) else .int .i64 (J.ia k (m / 2))

theorem pF_0 (J : Job) (k j : Nat) : pF J k (j * 2) = .int .i64 (J.il k j : Int) := by
  unfold pF; rw [if_pos (by omega), show j * 2 / 2 = j by omega]
theorem pF_1 (J : Job) (k j : Nat) : pF J k (j * 2 + 1) = .int .i64 (J.ia k j) := by
  unfold pF; rw [if_neg (by omega), show (j * 2 + 1) / 2 = j by omega]

/-- a row of places, in a block above B -/
def PairRow (B : Nat) (w : World) (v : Value) (J : Job) (k : Nat) : Prop :=
  ∃ b, v = .slice (some ⟨b, 0, none⟩) (J.n k) (J.n k) ∧ B < b ∧ b < w.heap.size ∧ Row w b 56 (Tab (2 * J.n k) (pF J k))

theorem PairRow.below {B : Nat} {w w' : World} {v : Value} {J : Job} {k : Nat} (h : PairRow B w v J k) (hb : Below w.heap.size w w') : PairRow B w' v J k := by
  obtain ⟨b, h1, h2, h3, h4⟩ := h
  exact ⟨b, h1, h2, Nat.lt_of_lt_of_le h3 hb.size, h4.below hb h3⟩

theorem PairRow.set {B : Nat} {w : World} {v : Value} {J : Job} {k : Nat} (h : PairRow B w v J k) (i : Nat) (u : Value) : PairRow B (w.setCell ⟨B, i, none⟩ u) v J k := by
  obtain ⟨b, h1, h2, h3, h4⟩ := h
  exact ⟨b, h1, h2, by simpa [World.setCell] using h3, h4.other _ _ (by show b ≠ B; omega)⟩

theorem Row.put2 {w : World} {b : Nat} {e : TypeId} {n k : Nat} {F Z : Nat → Value} (h : Row w b e (Tab n (upTo 2 k F Z))) {v0 v1 : Value} (h0 : F (k * 2) = v0) (h1 : F (k * 2 + 1) = v1) :
    Row ((w.setCell ⟨b, k * 2, none⟩ v0).setCell ⟨b, k * 2 + 1, none⟩ v1) b e (Tab n (upTo 2 (k + 1) F Z)) := by
  refine ((h.setTab _ v0).setTab _ v1).tabEq ?_
  intro m _
  subst h0 h1
  unfold upTo
  by_cases e1 : m = k * 2 + 1
  · subst e1; rw [if_pos rfl, if_pos (by omega)]
  rw [if_neg e1]
  by_cases e0 : m = k * 2
  · subst e0; rw [if_pos rfl, if_pos (by omega)]
  rw [if_neg e0]
  by_cases hlt : m < k * 2
  · rw [if_pos hlt, if_pos (by omega)]
  · rw [if_neg hlt, if_neg (by omega)]

theorem below_grown {w w' : World} (h : Below w.heap.size w w') : w.grownBy w' none := ⟨h.os, h.tape, h.output, h.size, fun k hk _ => h.block k hk⟩

theorem setAt_form {w : World} {v : Value} {S : Option (Nat → Bool)} (h : SetAt w v S) : ∃ q, v = .pointer q := by
  rcases h with ⟨h, _⟩ | ⟨b, off, f, h, _⟩
  · exact ⟨_, h⟩
  · exact ⟨_, h⟩

theorem run_build_op {P : Program} {ev : Operand → Value} {o : Oper} {t : TypeId} {xs : Array (Nat × Operand)} {ys : Array (Nat × Value)} {v : Value} {w : World} (ho : o.op = .build t xs) (hx : xs.map (fun x => (x.1, ev x.2)) = ys) (hl : (Instr.build t ys).run P w = .ok v w) :
    (execOp ev o).run P w = .ok (.value v) w := by
  subst hx
  simp [execOp, ho, hl, Result.andThen]
end Go.Proofs.Qxb6602558a
