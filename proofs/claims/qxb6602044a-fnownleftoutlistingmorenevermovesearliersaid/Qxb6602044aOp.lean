/-
  FROM THE READING OF AN ARGUMENT TO WHAT A LAW IS TOLD OF IT.
-/
import Derived.Test.Qxb6602044aV
import Derived.ProofKit
import Derived.SliceStrings
import Derived.Deep.Matrix
namespace Go.Proofs.Qxb6602044a
open Go.RowKit Go.ChangeShapes Go.WideShapes Go.ChangeAt
set_option linter.unusedVariables false

theorem Try.cells3 : Try.prog.cellsOf 3 = 1 := by kernel_rfl
theorem Try.cells9 : Try.prog.cellsOf 9 = 1 := by kernel_rfl
theorem Try.cells22 : Try.prog.cellsOf 22 = 1 := by kernel_rfl

theorem addr_of {W : World} {x : Addr} {v : Value} {i : Nat} (h : W.cell? (x.add i) = some v) (h0 : ∃ u, W.cell? (x.add 0) = some u) : ∃ b off, x = ⟨b, off, none⟩ ∧ b < W.heap.size ∧ W.cell? ⟨b, off + i, none⟩ = some v := by
  obtain ⟨b, off, spot⟩ := x
  obtain ⟨u, h0⟩ := h0
  have hs : spot = none := by simpa [Addr.add] using World.cell?_spot h0
  subst hs
  have hb : b < W.heap.size := by simpa [Addr.add] using World.block_lt_of_cell? W _ h0
  refine ⟨b, off, rfl, hb, ?_⟩
  have : (⟨b, off, none⟩ : Addr).add i = ⟨b, off + i, none⟩ := by unfold Addr.add; split <;> simp_all
  rw [← this]; exact h

theorem reads_of {W : World} {x : Addr} {n m : Nat} {vs : List Value} (hn : vs.length = n) (hc : ∀ i (h : i < vs.length), W.cell? (x.add i) = some vs[i]) : Reads 0 W (some x) vs := by
  intro i hi
  obtain ⟨b, off, rfl, h1, h2⟩ := addr_of (hc i hi) ⟨_, hc 0 (by omega)⟩
  exact ⟨b, off, rfl, Nat.zero_le _, h1, h2⟩

theorem view_ints {H : Type} {enc : TypeId × Value → H} {W : World} {a : Option Addr} {len cap : Nat} {d : DataW H} {p : List MemPlace}
    (h : DataW.Trod enc Try.prog W 0 (fun _ => true) true 22 (.slice a len cap) d p) : ∃ zs, VInts W a len cap zs := by
  obtain ⟨fuel, hf⟩ := h
  rcases open_ints Try.underlying22 Try.underlying3 Try.cells3 hf with ⟨hcs, _⟩ | ⟨x, l, c, zs, hcs, _, hl, hm, hz, _, hcell, hwz⟩
  · simp [Value.cells] at hcs
    obtain ⟨rfl, rfl, rfl⟩ := hcs
    exact ⟨[], fun _ => ⟨rfl, rfl⟩, rfl, fun i hi => by simp at hi, by omega⟩
  · simp [Value.cells] at hcs
    obtain ⟨rfl, rfl, rfl⟩ := hcs
    simp only [if_true] at hz
    unfold maxLen at hm
    have hlz : (zs.take len).length = len := by simp; omega
    refine ⟨zs.take len, fun e => (by cases e), hlz, reads_of (n := len) (m := 0) (by simp; omega) (fun i hi => ?_), by omega⟩
    have hi' : i < len := by simp at hi; omega
    rw [hcell i (by omega)]
    simp [List.getElem?_eq_getElem (show i < zs.length by omega)]

theorem view_strs {H : Type} {enc : TypeId × Value → H} {W : World} {a : Option Addr} {len cap : Nat} {d : DataW H} {p : List MemPlace}
    (h : DataW.Trod enc Try.prog W 0 (fun _ => true) true 39 (.slice a len cap) d p) : ∃ ss, VStrs W a len cap ss := by
  obtain ⟨fuel, hf⟩ := h
  rcases open_strings Try.underlying39 Try.underlying9 Try.cells9 hf with ⟨hcs, _⟩ | ⟨x, l, c, zs, hcs, _, hl, hm, hz, _, hcell, hwz⟩
  · simp [Value.cells] at hcs
    obtain ⟨rfl, rfl, rfl⟩ := hcs
    exact ⟨[], fun _ => ⟨rfl, rfl⟩, rfl, fun i hi => by simp at hi, by omega, fun s hs => by simp at hs⟩
  · simp [Value.cells] at hcs
    obtain ⟨rfl, rfl, rfl⟩ := hcs
    simp only [if_true] at hz
    unfold maxLen at hm hwz
    have hlz : (zs.take len).length = len := by simp; omega
    refine ⟨zs.take len, fun e => (by cases e), hlz, reads_of (n := len) (m := 0) (by simp; omega) (fun i hi => ?_), by omega, fun s hs => by have := hwz s (List.mem_of_mem_take hs); omega⟩
    have hi' : i < len := by simp at hi; omega
    rw [hcell i (by omega)]
    simp [List.getElem?_eq_getElem (show i < zs.length by omega)]

theorem view_rows {H : Type} {enc : TypeId × Value → H} {W : World} {a : Option Addr} {len cap : Nat} {d : DataW H} {p : List MemPlace}
    (h : DataW.Trod enc Try.prog W 0 (fun _ => true) true 40 (.slice a len cap) d p) : ∃ vs rows, VRows W a len cap vs rows := by
  obtain ⟨fuel, hf⟩ := h
  rcases Go.Deep.open_int_rows Try.underlying40 Try.underlying22 Try.underlying3 Try.cells22 Try.cells3 hf with ⟨hcs, _⟩ | ⟨x, l, c, A, L, C, Z, hcs, _, hl, hm, _, hcell⟩
  · simp [Value.cells] at hcs
    obtain ⟨rfl, rfl, rfl⟩ := hcs
    exact ⟨[], [], fun _ => ⟨rfl, rfl⟩, rfl, fun i hi => by simp at hi, NVals.nil _ _, by omega, fun s hs => by simp at hs⟩
  · simp [Value.cells] at hcs
    obtain ⟨rfl, rfl, rfl⟩ := hcs
    unfold maxLen at hm
    refine ⟨(List.range len).map (fun r => .slice (A r) (L r) (C r)), (List.range len).map (fun r => (Z r).take (L r)), fun e => (by cases e), by simp, reads_of (n := len) (m := 0) (by simp) (fun i hi => ?_), ⟨by simp, fun i hi => ?_⟩, by omega, fun r hr => ?_⟩
    · have hi' : i < len := by simpa using hi
      obtain ⟨h1, _⟩ := hcell i (by omega)
      rw [h1]
      simp
    · have hi' : i < len := by simpa using hi
      obtain ⟨h1, h2, h3, h4, h5, h6, h7⟩ := hcell i (by omega)
      have hll : ((Z i).take (L i)).length = L i := by simp; omega
      refine ⟨A i, C i, ?_, fun hn => ?_, fun j hj => ?_⟩
      · simp [hi']; omega
      · have := h6 hn
        simp; omega
      · simp only [List.getElem_map, List.getElem_range] at hj ⊢
        have hj' : j < L i := by simp at hj; omega
        cases hA : A i with
        | none => have := h6 hA; omega
        | some a' =>
          obtain ⟨_, hc⟩ := h7 a' hA
          obtain ⟨b, off, rfl, k1, k2⟩ := addr_of (hc j (by omega)) ⟨_, hc 0 (by omega)⟩
          refine ⟨b, off, rfl, Nat.zero_le _, k1, ?_⟩
          rw [k2]
          simp [List.getElem?_eq_getElem (show j < (Z i).length by omega)]
    · obtain ⟨i, hi, rfl⟩ := List.mem_map.1 hr
      obtain ⟨h1, h2, h3, h4, h5, h6, h7⟩ := hcell i (by simp at hi; omega)
      unfold maxLen at h3
      simp; omega
end Go.Proofs.Qxb6602044a
