import Derived.Test.Qxb6600841aW1
import Derived.Laws.CopyOwn
namespace Go.Proofs.Qxb6600841a
open Go.RowKit
set_option linter.unusedVariables false

structure VBytes (w : World) (a : Option Addr) (l c : Nat) (bs : List UInt8) : Prop where
  nil : a = none → l = 0 ∧ c = 0
  len : bs.length = l
  reads : Reads 0 w a (asBytes bs)
  max : l ≤ 9223372036854775807

def RetB (w : World) (P : Prop) (e : Ending) (w' : World) : Prop := ∃ r, e = .returned (.bool r) ∧ w' = w ∧ (r = true → P)

set_option maxRecDepth 100000 in
set_option maxHeartbeats 1000000 in
theorem bytes_any (a0 a1 : Option Addr) (l0 l1 c0 c1 : Nat) (w : World) (h0 : l0 ≤ 9223372036854775807) (h1 : l1 ≤ 9223372036854775807) :
    Calls Try.prog 12 #[.slice a0 l0 c0, .slice a1 l1 c1] w (RetB w (l0 ≤ 1048576 ∧ l1 ≤ 1048576)) := by
  go_enter Try.func12, Try.ntmps12
  go_wp2
  all_goals go_ret
  all_goals first | exact ⟨false, rfl, rfl, fun h => by cases h⟩ | exact ⟨true, rfl, rfl, fun _ => ⟨by omega, by omega⟩⟩

theorem Try.info22 : (Try.prog.info? 22).map (fun i => (i.zero, i.size, i.bytes)) = some (some (.slice none 0 0), 1, 24) := by kernel_rfl
theorem Try.info5 : (Try.prog.info? 5).map (fun i => (i.zero, i.size, i.bytes)) = some (some (.int .u8 0), 1, 1) := by kernel_rfl

theorem mk_bytes (n : Nat) (hn : n ≤ 1048576) (w : World) : (Instr.makeSlice 22 (.int .i64 (n : Int)) (.int .i64 (n : Int))).run Try.prog w =
    .ok (.slice (some ⟨w.heap.size, 0, none⟩) n n) (w.alloc (.cells (List.replicate n (.int .u8 0)).toArray 5)) := by
  obtain ⟨i0, hi, hz0, hz1, hz2⟩ := info_parts Try.info5
  have h := run_make (P := Try.prog) w 22 5 i0 _ Try.underlying22 hi hz0 .i64 .i64 (n : Int) (n : Int) (by omega) (Int.le_refl _) (by rw [hz2]; omega) (by omega)
  rw [h, hz1, Nat.mul_one, Int.toNat_natCast, madeCells_replicate _ _ rfl]

theorem splice_all (l cs : List Value) (h : cs.length = l.length) : splice l 0 cs = cs := by
  simp [splice, h]

theorem eqIn_ptr (d bf j k : Nat) (w : World) : (Op.equalIn (d + 1) 28 (.pointer (some ⟨bf, j, none⟩)) (.pointer (some ⟨bf, k, none⟩))).run Try.prog w = .ok (decide (j = k)) w := by
  obtain ⟨i, hi, hz0, hz1, hz2⟩ := info_parts Try.info22
  have : ((⟨bf, j, none⟩ : Addr) == ⟨bf, k, none⟩) = decide (j = k) := by
    by_cases h : j = k
    · subst h; simp
    · simp [h]
  simp [Op.equalIn, run_underlying Try.underlying28, sizeOf, typeInfo, hi, hz1, sameAddr, this]
theorem eq_ptr (bf j k : Nat) (w : World) : (binOp .eql 28 (.pointer (some ⟨bf, j, none⟩)) (.pointer (some ⟨bf, k, none⟩))).run Try.prog w = .ok (.bool (decide (j = k))) w := by
  simp only [binOp]
  simp [Op.equal, Op.maxDepth, eqIn_ptr 9999]
theorem eq_nil (a : Addr) (w : World) : (binOp .eql 28 (.pointer (some a)) (.pointer none)).run Try.prog w = .ok (.bool false) w := by kernel_rfl
theorem ne_nil (a : Addr) (w : World) : (binOp .neq 28 (.pointer (some a)) (.pointer none)).run Try.prog w = .ok (.bool true) w := by kernel_rfl
theorem nil_nil (w : World) : (binOp .neq 28 (.pointer none) (.pointer none)).run Try.prog w = .ok (.bool false) w := by kernel_rfl

theorem setRow_row (w : World) (b : Nat) (e : TypeId) (l : List Value) (m : List Value) (h : Row w b e l) : Row (w.setRow b m.toArray) b e m := by
  unfold Row at h ⊢
  simp [World.setRow, Array.getElem?_modify, h]

theorem setRow_only (w : World) (b : Nat) (m : Array Value) : Only b w (w.setRow b m) :=
  ⟨rfl, rfl, rfl, by simp [World.setRow], fun k hk => by simp [World.setRow, Array.getElem?_modify, Ne.symm hk]⟩

theorem copy_fresh (w : World) (x : Addr) (l c : Nat) (bs : List UInt8) (hl : bs.length = l) {lo : Nat} (hr : Reads lo w (some x) (asBytes bs)) :
    ∃ W1, (Builtin.copy_ #[22, 22] 3 #[.slice (some ⟨w.heap.size, 0, none⟩) l l, .slice (some x) l c]).run Try.prog (w.alloc (.cells (List.replicate l (Value.int .u8 0)).toArray 5)) = .ok (goInt l) W1 ∧ Row W1 w.heap.size 5 (asBytes bs) ∧ Below w.heap.size w W1 := by
  have hrow := Row.new w 5 (List.replicate l (Value.int .u8 0))
  have hlen : (asBytes bs).length = l := by simp [asBytes, hl]
  have h := run_copy_row (P := Try.prog) (w.alloc (.cells (List.replicate l (Value.int .u8 0)).toArray 5)) 22 22 3 5 w.heap.size 0 l l x l c (List.replicate l (Value.int .u8 0)).toArray 5 (asBytes bs)
    Try.underlying22 (by kernel_rfl) hrow (by rw [hlen]; simp) (fun j v hj => by
      have hj' : j < (asBytes bs).length := (List.getElem?_eq_some_iff.1 hj).1
      obtain ⟨b, off, he, _, hb, hc⟩ := hr j hj'
      injection he with he
      subst he
      have : (⟨b, off, none⟩ : Addr).add j = ⟨b, off + j, none⟩ := by unfold Addr.add; split <;> simp_all
      rw [this, World.cell?_of_block (w := w) (a := ⟨b, off + j, none⟩) (Below.heap_alloc w _ b hb), hc]
      rw [List.getElem?_eq_getElem hj'] at hj
      exact hj) (by simp [hlen]) (fun v hv => by simp [asBytes] at hv; obtain ⟨b, _, rfl⟩ := hv; rfl)
  rw [hlen] at h
  refine ⟨_, h, ?_, (setRow_only _ _ _).below ((Below.refl _ _).alloc (Nat.le_refl _) _) (Nat.le_refl _)⟩
  have h2 : (List.replicate l (Value.int .u8 0)).toArray.toList.take 0 ++ asBytes bs ++ (List.replicate l (Value.int .u8 0)).toArray.toList.drop (0 + l) = asBytes bs := by simp
  rw [h2]
  exact setRow_row _ _ _ _ _ hrow
end Go.Proofs.Qxb6600841a
