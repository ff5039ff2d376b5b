import Derived.Test.Qxb6602044aW5
import Derived.Test.Qxb6602044aW6
namespace Go.Proofs.Qxb6602044a
open Go.RowKit
set_option linter.unusedVariables false

theorem Try.info71 : (Try.prog.info? 71).map (fun i => (i.zero, i.size, i.bytes)) = some (some (.agg #[.int .i64 0, .string noBytes, .string noBytes, .string noBytes]), 4, 56) := by kernel_rfl
theorem Try.info73 : (Try.prog.info? 73).map (fun i => (i.zero, i.size, i.bytes)) = some (some (.agg #[.int .i64 0, .string noBytes, .string noBytes, .int .i64 0, .int .i64 0, .slice none 0 0]), 6, 80) := by kernel_rfl
theorem Try.info75 : (Try.prog.info? 75).map (fun i => (i.zero, i.size, i.bytes)) = some (some (.agg #[.int .i64 0, .string noBytes, .slice none 0 0, .int .i64 0]), 4, 56) := by kernel_rfl

def z71 (m : Nat) : Value := (#[.int .i64 0, .string noBytes, .string noBytes, .string noBytes] : Array Value)[m % 4]!
def z73 (m : Nat) : Value := (#[.int .i64 0, .string noBytes, .string noBytes, .int .i64 0, .int .i64 0, .slice none 0 0] : Array Value)[m % 6]!
def z75 (m : Nat) : Value := (#[.int .i64 0, .string noBytes, .slice none 0 0, .int .i64 0] : Array Value)[m % 4]!

theorem mk_writes (n : Nat) (hn : n ≤ 1048576) (w : World) : (Instr.makeSlice 61 (.int .i64 (n : Int)) (.int .i64 (n : Int))).run Try.prog w =
    .ok (.slice (some ⟨w.heap.size, 0, none⟩) n n) (w.alloc (.cells (Tab (n * 4) z71).toArray 71)) := by
  obtain ⟨i0, hi, hz0, hz1, hz2⟩ := info_parts Try.info71
  have h := run_make (P := Try.prog) w 61 71 i0 _ Try.underlying61 hi hz0 .i64 .i64 (n : Int) (n : Int) (by omega) (Int.le_refl _) (by rw [hz2]; omega) (by omega)
  rw [h, hz1, Int.toNat_natCast, madeCells_tab]
  rfl
theorem mk_reads (n : Nat) (hn : n ≤ 1048576) (w : World) : (Instr.makeSlice 62 (.int .i64 (n : Int)) (.int .i64 (n : Int))).run Try.prog w =
    .ok (.slice (some ⟨w.heap.size, 0, none⟩) n n) (w.alloc (.cells (Tab (n * 6) z73).toArray 73)) := by
  obtain ⟨i0, hi, hz0, hz1, hz2⟩ := info_parts Try.info73
  have h := run_make (P := Try.prog) w 62 73 i0 _ Try.underlying62 hi hz0 .i64 .i64 (n : Int) (n : Int) (by omega) (Int.le_refl _) (by rw [hz2]; omega) (by omega)
  rw [h, hz1, Int.toNat_natCast, madeCells_tab]
  rfl
theorem mk_preds (n : Nat) (hn : n ≤ 1048576) (w : World) : (Instr.makeSlice 63 (.int .i64 (n : Int)) (.int .i64 (n : Int))).run Try.prog w =
    .ok (.slice (some ⟨w.heap.size, 0, none⟩) n n) (w.alloc (.cells (Tab (n * 4) z75).toArray 75)) := by
  obtain ⟨i0, hi, hz0, hz1, hz2⟩ := info_parts Try.info75
  have h := run_make (P := Try.prog) w 63 75 i0 _ Try.underlying63 hi hz0 .i64 .i64 (n : Int) (n : Int) (by omega) (Int.le_refl _) (by rw [hz2]; omega) (by omega)
  rw [h, hz1, Int.toNat_natCast, madeCells_tab]
  rfl

/-- the cells of the History's own block -/
def hCells (bw br bp l0 l3 l4 : Nat) : List Value := [.slice none 0 0, .slice (some ⟨bw, 0, none⟩) l0 l0, .slice (some ⟨br, 0, none⟩) l3 l3, .slice (some ⟨bp, 0, none⟩) l4 l4, .map none, .slice none 0 0, .slice none 0 0, .slice none 0 0]

def HistMade (w wx : World) (h : Value) (l0 l3 l4 : Nat) : Prop := ∃ bh bw br bp, h = .pointer (some ⟨bh, 0, none⟩) ∧
  w.heap.size ≤ bh ∧ w.heap.size ≤ bw ∧ w.heap.size ≤ br ∧ w.heap.size ≤ bp ∧ bh ≠ bw ∧ bh ≠ br ∧ bh ≠ bp ∧ bw ≠ br ∧ bw ≠ bp ∧ br ≠ bp ∧
  Row wx bh 69 (hCells bw br bp l0 l3 l4) ∧
  Row wx bw 71 (Tab (l0 * 4) z71) ∧ Row wx br 73 (Tab (l3 * 6) z73) ∧ Row wx bp 75 (Tab (l4 * 4) z75) ∧ Below w.heap.size w wx

def wF (wt : List Int) (wi wp : List ByteArray) (m : Nat) : Value :=
  if m % 4 = 0 then .int .i64 (wt.getD (m / 4) 0) else if m % 4 = 1 then .string (wi.getD (m / 4) noBytes) else if m % 4 = 3 then .string (wp.getD (m / 4) noBytes) else .string noBytes
def rF (ri : List ByteArray) (m : Nat) : Value := if m % 6 = 1 then .string (ri.getD (m / 6) noBytes) else z73 m
def pF (pt : List Int) (pp : List ByteArray) (pv : List Value) (pb : List Int) (m : Nat) : Value :=
  if m % 4 = 0 then .int .i64 (pt.getD (m / 4) 0) else if m % 4 = 1 then .string (pp.getD (m / 4) noBytes) else if m % 4 = 2 then pv.getD (m / 4) (.slice none 0 0) else .int .i64 (pb.getD (m / 4) 0)
theorem four_new (w : World) (A B C D : Obj) : ((((w.alloc A).alloc B).alloc C).alloc D).drew.heap[w.heap.size]? = some A ∧ ((((w.alloc A).alloc B).alloc C).alloc D).drew.heap[w.heap.size + 1]? = some B ∧
    ((((w.alloc A).alloc B).alloc C).alloc D).drew.heap[w.heap.size + 1 + 1]? = some C ∧ ((((w.alloc A).alloc B).alloc C).alloc D).drew.heap[w.heap.size + 1 + 1 + 1]? = some D ∧ Below w.heap.size w ((((w.alloc A).alloc B).alloc C).alloc D).drew := by
  have s1 : (w.alloc A).heap.size = w.heap.size + 1 := by simp
  have s2 : ((w.alloc A).alloc B).heap.size = w.heap.size + 1 + 1 := by simp
  have s3 : (((w.alloc A).alloc B).alloc C).heap.size = w.heap.size + 1 + 1 + 1 := by simp
  refine ⟨?_, ?_, ?_, ?_, ?_⟩
  · show ((((w.alloc A).alloc B).alloc C).alloc D).heap[_]? = _
    rw [Below.heap_alloc _ _ _ (by omega), Below.heap_alloc _ _ _ (by omega), Below.heap_alloc _ _ _ (by omega)]
    exact heap_alloc_new _ _
  · show ((((w.alloc A).alloc B).alloc C).alloc D).heap[_]? = _
    rw [Below.heap_alloc _ _ _ (by omega), Below.heap_alloc _ _ _ (by omega), ← s1]
    exact heap_alloc_new _ _
  · show ((((w.alloc A).alloc B).alloc C).alloc D).heap[_]? = _
    rw [Below.heap_alloc _ _ _ (by omega), ← s2]
    exact heap_alloc_new _ _
  · show ((((w.alloc A).alloc B).alloc C).alloc D).heap[_]? = _
    rw [← s3]
    exact heap_alloc_new _ _
  · exact (((((Below.refl _ _).alloc (by omega) _).alloc (by omega) _).alloc (by omega) _).alloc (by omega) _).drew

/-- a new slice of l4 numbers comes back, each as R says -/
def OutIs (w : World) (l4 : Nat) (R : Nat → Int → Prop) (e : Ending) (w' : World) : Prop :=
  ∃ (bo : Nat) (res : List Int), e = .returned (.slice (some ⟨bo, 0, none⟩) l4 l4) ∧ w.heap.size ≤ bo ∧ res.length = l4 ∧ Row w' bo 3 (res.map (Value.int .i64)) ∧ (∀ p (h : p < res.length), R p res[p]) ∧ Below w.heap.size w w'

def OwnR (wt : List Int) (wi wp ri : List ByteArray) (pt : List Int) (pp : List ByteArray) (rows : List (List Int)) (pb : List Int) (p : Nat) (r : Int) : Prop :=
  FirstOwn wt wi wp ri (pt.getD p 0) (pp.getD p noBytes) (rows.getD p []) (pb.getD p 0) r

/-- what is to be shown of function 39 -/
def Said39 : Prop := ∀ (w : World) (bh bw br bp l0 l3 l4 lo : Nat) (wt : List Int) (wi wp ri : List ByteArray) (pt : List Int) (pp : List ByteArray) (pv : List Value) (rows : List (List Int)) (pb : List Int),
  l0 ≤ 1048576 → l3 ≤ 1048576 → l4 ≤ 1048576 → wt.length = l0 → wi.length = l0 → wp.length = l0 → ri.length = l3 → pt.length = l4 → pp.length = l4 → rows.length = l4 → pb.length = l4 →
  Row w bh 69 (hCells bw br bp l0 l3 l4) → Row w bw 71 (Tab (l0 * 4) (wF wt wi wp)) → Row w br 73 (Tab (l3 * 6) (rF ri)) → Row w bp 75 (Tab (l4 * 4) (pF pt pp pv pb)) → NVals lo w pv rows →
  (∀ r ∈ rows, r.length ≤ 4194304) → (∀ r ∈ rows, ∀ x ∈ r, idxOk x l3) →
  Calls Try.prog 39 #[.pointer (some ⟨bh, 0, none⟩)] w (OutIs w l4 (OwnR wt wi wp ri pt pp rows pb))

theorem wF_0 (wt : List Int) (wi wp : List ByteArray) (k : Nat) : wF wt wi wp (k * 4) = .int .i64 (wt.getD k 0) := by
  unfold wF; rw [if_pos (by omega), show k * 4 / 4 = k from by omega]
theorem wF_1 (wt : List Int) (wi wp : List ByteArray) (k : Nat) : wF wt wi wp (k * 4 + 1) = .string (wi.getD k noBytes) := by
  unfold wF; rw [if_neg (by omega), if_pos (by omega), show (k * 4 + 1) / 4 = k from by omega]
theorem wF_2 (wt : List Int) (wi wp : List ByteArray) (k : Nat) : wF wt wi wp (k * 4 + 2) = .string noBytes := by
  unfold wF; rw [if_neg (by omega), if_neg (by omega), if_neg (by omega)]
theorem wF_3 (wt : List Int) (wi wp : List ByteArray) (k : Nat) : wF wt wi wp (k * 4 + 3) = .string (wp.getD k noBytes) := by
  unfold wF; rw [if_neg (by omega), if_neg (by omega), if_pos (by omega), show (k * 4 + 3) / 4 = k from by omega]
theorem z73_at (k j : Nat) : z73 (k * 6 + j) = z73 j := by unfold z73; rw [show (k * 6 + j) % 6 = j % 6 from by omega]
theorem rF_1 (ri : List ByteArray) (k : Nat) : rF ri (k * 6 + 1) = .string (ri.getD k noBytes) := by
  unfold rF; rw [if_pos (by omega), show (k * 6 + 1) / 6 = k from by omega]
theorem rF_o (ri : List ByteArray) (k j : Nat) (h : j % 6 ≠ 1) : rF ri (k * 6 + j) = z73 j := by
  unfold rF; rw [if_neg (by omega), z73_at]
theorem pF_0 (pt : List Int) (pp : List ByteArray) (pv : List Value) (pb : List Int) (k : Nat) : pF pt pp pv pb (k * 4) = .int .i64 (pt.getD k 0) := by
  unfold pF; rw [if_pos (by omega), show k * 4 / 4 = k from by omega]
theorem pF_1 (pt : List Int) (pp : List ByteArray) (pv : List Value) (pb : List Int) (k : Nat) : pF pt pp pv pb (k * 4 + 1) = .string (pp.getD k noBytes) := by
  unfold pF; rw [if_neg (by omega), if_pos (by omega), show (k * 4 + 1) / 4 = k from by omega]
theorem pF_2 (pt : List Int) (pp : List ByteArray) (pv : List Value) (pb : List Int) (k : Nat) : pF pt pp pv pb (k * 4 + 2) = pv.getD k (.slice none 0 0) := by
  unfold pF; rw [if_neg (by omega), if_neg (by omega), if_pos (by omega), show (k * 4 + 2) / 4 = k from by omega]
theorem pF_3 (pt : List Int) (pp : List ByteArray) (pv : List Value) (pb : List Int) (k : Nat) : pF pt pp pv pb (k * 4 + 3) = .int .i64 (pb.getD k 0) := by
  unfold pF; rw [if_neg (by omega), if_neg (by omega), if_neg (by omega), show (k * 4 + 3) / 4 = k from by omega]
end Go.Proofs.Qxb6602044a
