/-
  FROM A SLICE OF NUMBERS THAT CAME IN TO WHAT THE WALKS ARE TOLD OF IT.
-/
import Derived.Test.Qxb6602044aD1
import Derived.ProofKit
namespace Go.Proofs.Qxb6602044a
open Go.RowKit
set_option linter.unusedVariables false

theorem vnums_of {k : IntKind} {w : World} {a : Option Addr} {len cap : Nat} {zs : List Int}
    (h : (a = none ∧ len = 0 ∧ cap = 0 ∧ zs = []) ∨ ∃ x, a = some x ∧ len ≤ cap ∧ cap ≤ maxLen ∧ zs.length = cap ∧ (∀ i, i < zs.length → w.cell? (x.add i) = some (.int k (zs.getD i 0))) ∧ ∀ n ∈ zs, (Lit.int k n).wf = true) :
    VNums k w a len cap (zs.take len) := by
  rcases h with ⟨rfl, rfl, rfl, rfl⟩ | ⟨x, rfl, h1, h2, h3, h4, h5⟩
  · exact ⟨fun _ => ⟨rfl, rfl⟩, rfl, fun i hi => by simp at hi, by omega⟩
  · unfold maxLen at h2
    refine ⟨fun e => (by cases e), (by simp; omega), fun i hi => ?_, by omega⟩
    have hi' : i < len := by simp at hi; omega
    have hc := h4 i (by omega)
    have h0 := h4 0 (by omega)
    obtain ⟨b, off, spot⟩ := x
    have hs : spot = none := by simpa [Addr.add] using World.cell?_spot h0
    subst hs
    have hb : b < w.heap.size := by simpa [Addr.add] using World.block_lt_of_cell? w _ h0
    refine ⟨b, off, rfl, Nat.zero_le _, hb, ?_⟩
    have he : (⟨b, off, none⟩ : Addr).add i = ⟨b, off + i, none⟩ := by unfold Addr.add; split <;> simp_all
    rw [← he, hc]
    simp [List.getElem?_eq_getElem (show i < zs.length by omega)]

theorem u8_of {n : Int} (h : (Lit.int .u8 n).wf = true) : 0 ≤ n ∧ n < 256 := by
  have h' : (decide (IntKind.u8.min ≤ n) && decide (n ≤ IntKind.u8.max)) = true := h
  simp only [Bool.and_eq_true, decide_eq_true_eq] at h'
  have e1 : IntKind.u8.min = 0 := by decide
  have e2 : IntKind.u8.max = 255 := by decide
  omega

theorem u8s_of {w : World} {a : Option Addr} {len cap : Nat} {zs : List Int}
    (h : (a = none ∧ len = 0 ∧ cap = 0 ∧ zs = []) ∨ ∃ x, a = some x ∧ len ≤ cap ∧ cap ≤ maxLen ∧ zs.length = cap ∧ (∀ i, i < zs.length → w.cell? (x.add i) = some (.int .u8 (zs.getD i 0))) ∧ ∀ n ∈ zs, (Lit.int .u8 n).wf = true) :
    ∀ x ∈ zs.take len, 0 ≤ x ∧ x < 256 := by
  intro x hx
  have hx := List.mem_of_mem_take hx
  rcases h with ⟨rfl, rfl, rfl, rfl⟩ | ⟨x, rfl, h1, h2, h3, h4, h5⟩
  · cases hx
  · exact u8_of (h5 _ hx)
end Go.Proofs.Qxb6602044a
