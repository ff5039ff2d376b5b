/-
  PLAIN: what becomes of the first own unlisted write when a read lists more. No Go in sight.
-/
import Derived.Test.Qxb6602044aPl
namespace Go.Proofs.Qxb6602044a

theorem listed_append (x : ByteArray) (r m : List Int) (ri : List ByteArray) : listed x (r ++ m) ri = (listed x r ri || listed x m ri) := by
  unfold listed; rw [List.any_append]

theorem ownTest_more (wt : List Int) (wi wp ri : List ByteArray) (txn : Int) (pred : ByteArray) (r m : List Int) (w : Nat) :
    ownTest wt wi wp ri txn pred (r ++ m) w = (ownTest wt wi wp ri txn pred r w && !listed (wi.getD w noBytes) m ri) := by
  unfold ownTest
  rw [listed_append, Bool.not_or, Bool.and_assoc, Bool.and_assoc, Bool.and_assoc]
  simp only [Bool.and_assoc]

theorem more_law {wt : List Int} {wi wp ri : List ByteArray} {txn : Int} {pred : ByteArray} {r m : List Int} {before x y : Int}
    (hx : FirstOwn wt wi wp ri txn pred r before x) (hy : FirstOwn wt wi wp ri txn pred (r ++ m) before y) :
    (x = -1 ∧ y = -1) ∨ ∃ w : Nat, x = w ∧ w < wt.length ∧ (y = -1 ∨ x ≤ y) ∧ (listed (wi.getD w noBytes) m ri = false → y = x) := by
  have himp : ∀ j, ownTest wt wi wp ri txn pred r j = false → ownTest wt wi wp ri txn pred (r ++ m) j = false := by
    intro j h; rw [ownTest_more, h]; rfl
  rcases hx with ⟨w, h1, h2, h3, h4⟩ | ⟨h1, h2⟩
  · right
    have hw : w < wt.length := by unfold ownLim at h1; omega
    refine ⟨w, h2, hw, ?_, fun hl => ?_⟩
    · rcases hy with ⟨v, k1, k2, k3, k4⟩ | ⟨k1, k2⟩
      · right
        rcases Nat.lt_or_ge v w with h | h
        · rw [himp v (h4 v h)] at k3; cases k3
        · omega
      · exact .inl k1
    · refine FirstIs.unique hy (.inl ⟨w, h1, h2, ?_, fun j hj => himp j (h4 j hj)⟩)
      rw [ownTest_more, h3, hl]; rfl
  · left
    refine ⟨h1, FirstIs.unique hy (.inr ⟨rfl, fun j hj => himp j (h2 j hj)⟩)⟩
end Go.Proofs.Qxb6602044a
