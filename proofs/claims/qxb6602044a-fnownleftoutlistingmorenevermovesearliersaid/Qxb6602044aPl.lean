/-
  PLAIN FUNCTIONS of the OwnLeftOut laws: no Go in sight.
-/
namespace Go.Proofs.Qxb6602044a

abbrev noBytes : ByteArray := ByteArray.empty

def hit (item : ByteArray) (r : Int) (ri : List ByteArray) : Bool := ri.getD r.toNat noBytes == item

/-- is the item among the items of the listed reads? -/
def listed (item : ByteArray) (reads : List Int) (ri : List ByteArray) : Bool := reads.any fun r => hit item r ri

def idxOk (x : Int) (n : Nat) : Prop := 0 ≤ x ∧ x < n

/-- the least w below lim that meets the test, or -1 -/
def FirstIs (test : Nat → Bool) (lim : Nat) (res : Int) : Prop :=
  (∃ w : Nat, w < lim ∧ res = w ∧ test w = true ∧ ∀ j, j < w → test j = false) ∨ (res = -1 ∧ ∀ j, j < lim → test j = false)

theorem FirstIs.unique {test : Nat → Bool} {lim : Nat} {a b : Int} (ha : FirstIs test lim a) (hb : FirstIs test lim b) : a = b := by
  rcases ha with ⟨w, h1, h2, h3, h4⟩ | ⟨h1, h2⟩ <;> rcases hb with ⟨v, k1, k2, k3, k4⟩ | ⟨k1, k2⟩
  · have : w = v := by
      rcases Nat.lt_trichotomy w v with h | h | h
      · rw [k4 w h] at h3; cases h3
      · exact h
      · rw [h4 v h] at k3; cases k3
    omega
  · rw [k2 w h1] at h3; cases h3
  · rw [h2 v k1] at k3; cases k3
  · omega

/-- the test of one read of a predicate -/
def ownTest (wt : List Int) (wi wp ri : List ByteArray) (txn : Int) (pred : ByteArray) (reads : List Int) (w : Nat) : Bool :=
  !(pred == noBytes) && (wt.getD w 0 == txn) && (wp.getD w noBytes == pred) && !listed (wi.getD w noBytes) reads ri

/-- how far the writes are looked at -/
def ownLim (wt : List Int) (before : Int) : Nat := (min before wt.length).toNat

def FirstOwn (wt : List Int) (wi wp ri : List ByteArray) (txn : Int) (pred : ByteArray) (reads : List Int) (before : Int) (res : Int) : Prop :=
  FirstIs (ownTest wt wi wp ri txn pred reads) (ownLim wt before) res
end Go.Proofs.Qxb6602044a
