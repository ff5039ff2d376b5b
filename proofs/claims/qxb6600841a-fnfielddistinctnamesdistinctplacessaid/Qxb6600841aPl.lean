/-
  PLAIN: the format's names.
-/
namespace Go.Proofs.Qxb6600841a
/-- the k-th name of the format, as bytes; empty past the last -/
def nameAt : Nat → List UInt8
  | 0 => [97, 116]
  | 1 => [116, 121, 112, 101]
  | 2 => [98, 111, 114, 114, 111, 119, 101, 114]
  | 3 => [108, 111, 97, 110]
  | 4 => [97, 109, 111, 117, 110, 116]
  | 5 => [100, 117, 101]
  | 6 => [115, 101, 113]
  | 7 => [112, 114, 101, 118]
  | _ => []

/-- the place of a name in the format -/
def IsIdx (bs : List UInt8) : Option Nat → Prop
  | some k => k < 8 ∧ bs = nameAt k
  | none => ∀ k, k < 8 → bs ≠ nameAt k

theorem nameAt_inj {j k : Nat} (hj : j < 8) (hk : k < 8) (h : nameAt j = nameAt k) : j = k := by
  have : ∀ j, j < 8 → ∀ k, k < 8 → nameAt j = nameAt k → j = k := by decide
  exact this j hj k hk h

theorem IsIdx.unique {bs : List UInt8} {a b : Option Nat} (ha : IsIdx bs a) (hb : IsIdx bs b) : a = b := by
  cases a with
  | none =>
    cases b with
    | none => rfl
    | some k => exact absurd hb.2 (ha k hb.1)
  | some j =>
    cases b with
    | none => exact absurd ha.2 (hb j ha.1)
    | some k => rw [nameAt_inj ha.1 hb.1 (ha.2.symm.trans hb.2)]

theorem exists_idx (bs : List UInt8) : ∃ o, IsIdx bs o := by
  by_cases h : ∃ k, k < 8 ∧ bs = nameAt k
  · obtain ⟨k, h1, h2⟩ := h
    exact ⟨some k, h1, h2⟩
  · exact ⟨none, fun k hk he => h ⟨k, hk, he⟩⟩
end Go.Proofs.Qxb6600841a
