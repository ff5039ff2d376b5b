/-
  PLAIN: what ownLeftOut gathers, and why scanning it gives the first own unlisted write. No Go in sight.
-/
import Derived.Test.Qxb6602044aPl
namespace Go.Proofs.Qxb6602044a

def keyAt (wt : List Int) (wi wp : List ByteArray) (w : Nat) : Int × ByteArray × ByteArray := (wt.getD w 0, wp.getD w noBytes, wi.getD w noBytes)

/-- has a write below k into a predicate that key? -/
def seenB (wt : List Int) (wi wp : List ByteArray) (k : Nat) (x : Int × ByteArray × ByteArray) : Bool :=
  (List.range k).any fun w => decide (wp.getD w noBytes ≠ noBytes) && decide (keyAt wt wi wp w = x)

/-- is write w the first of its key? -/
def newAt (wt : List Int) (wi wp : List ByteArray) (w : Nat) : Bool := decide (wp.getD w noBytes ≠ noBytes) && !seenB wt wi wp w (keyAt wt wi wp w)

/-- the first writes of each item of one transaction into one predicate, among the first k writes -/
def ownL (wt : List Int) (wi wp : List ByteArray) (k : Nat) (x : Int × ByteArray) : List Nat :=
  (List.range k).filter fun w => newAt wt wi wp w && decide ((wt.getD w 0, wp.getD w noBytes) = x)

theorem seenB_succ (wt : List Int) (wi wp : List ByteArray) (k : Nat) (x : Int × ByteArray × ByteArray) :
    seenB wt wi wp (k + 1) x = (seenB wt wi wp k x || (decide (wp.getD k noBytes ≠ noBytes) && decide (keyAt wt wi wp k = x))) := by
  unfold seenB
  rw [List.range_succ, List.any_append]
  simp

theorem ownL_succ (wt : List Int) (wi wp : List ByteArray) (k : Nat) (x : Int × ByteArray) :
    ownL wt wi wp (k + 1) x = ownL wt wi wp k x ++ (if newAt wt wi wp k && decide ((wt.getD k 0, wp.getD k noBytes) = x) then [k] else []) := by
  unfold ownL
  rw [List.range_succ, List.filter_append]
  congr 1
  simp only [List.filter_cons, List.filter_nil]

theorem mem_ownL {wt : List Int} {wi wp : List ByteArray} {k : Nat} {x : Int × ByteArray} {w : Nat} :
    w ∈ ownL wt wi wp k x ↔ w < k ∧ newAt wt wi wp w = true ∧ (wt.getD w 0, wp.getD w noBytes) = x := by
  unfold ownL
  simp [List.mem_filter, List.mem_range]

theorem ownL_sorted (wt : List Int) (wi wp : List ByteArray) (k : Nat) (x : Int × ByteArray) : (ownL wt wi wp k x).Pairwise (· < ·) := by
  unfold ownL
  exact List.Pairwise.filter _ List.pairwise_lt_range

theorem ownL_length (wt : List Int) (wi wp : List ByteArray) (k : Nat) (x : Int × ByteArray) : (ownL wt wi wp k x).length ≤ k := by
  unfold ownL
  have := List.length_filter_le (fun w => newAt wt wi wp w && decide ((wt.getD w 0, wp.getD w noBytes) = x)) (List.range k)
  simpa using this

/-- ByteArray's own equality test is equality -/
def BaOk : Prop := ∀ a b : ByteArray, (a == b) = decide (a = b)

theorem ownTest_iff (hba : BaOk) (wt : List Int) (wi wp ri : List ByteArray) (txn : Int) (pred : ByteArray) (reads : List Int) (w : Nat) :
    ownTest wt wi wp ri txn pred reads w = true ↔ pred ≠ noBytes ∧ wt.getD w 0 = txn ∧ wp.getD w noBytes = pred ∧ listed (wi.getD w noBytes) reads ri = false := by
  unfold ownTest
  rw [hba, hba]
  simp only [Bool.and_eq_true, Bool.not_eq_true', decide_eq_false_iff_not, beq_iff_eq, decide_eq_true_eq]
  constructor
  · rintro ⟨⟨⟨a, b⟩, c⟩, d⟩; exact ⟨a, b, c, d⟩
  · rintro ⟨a, b, c, d⟩; exact ⟨⟨⟨a, b⟩, c⟩, d⟩

/-- the least index that meets the test is a first write of its key -/
theorem least_mem (hba : BaOk) {wt : List Int} {wi wp ri : List ByteArray} {txn : Int} {pred : ByteArray} {reads : List Int} {w n : Nat} (hw : w < n)
    (ht : ownTest wt wi wp ri txn pred reads w = true) (hl : ∀ j, j < w → ownTest wt wi wp ri txn pred reads j = false) : w ∈ ownL wt wi wp n (txn, pred) := by
  obtain ⟨h1, h2, h3, h4⟩ := (ownTest_iff hba ..).1 ht
  refine mem_ownL.2 ⟨hw, ?_, by rw [h2, h3]⟩
  unfold newAt
  have hne : wp.getD w noBytes ≠ noBytes := by rw [h3]; exact h1
  have hs : seenB wt wi wp w (keyAt wt wi wp w) = false := by
    cases hsb : seenB wt wi wp w (keyAt wt wi wp w) with
    | false => rfl
    | true =>
      unfold seenB at hsb
      rw [List.any_eq_true] at hsb
      obtain ⟨j, hj, hk⟩ := hsb
      simp only [Bool.and_eq_true, decide_eq_true_eq, keyAt, Prod.mk.injEq] at hk
      have hjw : j < w := by simpa using hj
      have : ownTest wt wi wp ri txn pred reads j = true := by
        rw [ownTest_iff hba]
        exact ⟨h1, by rw [hk.2.1, h2], by rw [hk.2.2.1, h3], by rw [hk.2.2.2]; exact h4⟩
      rw [hl j hjw] at this
      cases this
  rw [hs, decide_eq_true hne]
  rfl

/-- some index below lim meets the test: then a least one does -/
theorem exists_least (test : Nat → Bool) : ∀ lim, (∃ w, w < lim ∧ test w = true) → ∃ w, w < lim ∧ test w = true ∧ ∀ j, j < w → test j = false := by
  intro lim
  induction lim with
  | zero => rintro ⟨w, h, _⟩; omega
  | succ n ih =>
    rintro ⟨w, h, ht⟩
    by_cases hex : ∃ v, v < n ∧ test v = true
    · obtain ⟨v, h1, h2, h3⟩ := ih hex
      exact ⟨v, by omega, h2, h3⟩
    · have : w = n := by
        rcases Nat.lt_or_ge w n with h' | h'
        · exact absurd ⟨w, h', ht⟩ hex
        · omega
      subst this
      refine ⟨w, by omega, ht, fun j hj => ?_⟩
      cases hj' : test j with
      | false => rfl
      | true => exact absurd ⟨j, hj, hj'⟩ hex

theorem none_of (test : Nat → Bool) (lim : Nat) (h : ∀ w, w < lim → test w = true → (∀ j, j < w → test j = false) → False) : ∀ j, j < lim → test j = false := by
  intro j hj
  cases ht : test j with
  | false => rfl
  | true =>
    obtain ⟨w, h1, h2, h3⟩ := exists_least test lim ⟨j, hj, ht⟩
    exact (h w h1 h2 h3).elim

/-- the scan has come to place j of the own writes, none of the earlier ones left out: nothing is found if they end here or go beyond -/
theorem scan_none (hba : BaOk) {wt : List Int} {wi wp ri : List ByteArray} {txn : Int} {pred : ByteArray} {reads : List Int} {before : Int} {j : Nat}
    (hpre : ∀ i (h : i < (ownL wt wi wp wt.length (txn, pred)).length), i < j → listed (wi.getD ((ownL wt wi wp wt.length (txn, pred))[i]) noBytes) reads ri = true)
    (hend : (ownL wt wi wp wt.length (txn, pred)).length ≤ j ∨ ∃ h : j < (ownL wt wi wp wt.length (txn, pred)).length, before ≤ ((ownL wt wi wp wt.length (txn, pred))[j] : Nat)) :
    FirstOwn wt wi wp ri txn pred reads before (-1) := by
  refine .inr ⟨rfl, none_of _ _ fun w hw ht hl => ?_⟩
  have hlim : w < wt.length ∧ (w : Int) < before := by unfold ownLim at hw; omega
  have hm := least_mem hba hlim.1 ht hl
  obtain ⟨i, hi, hiw⟩ := List.mem_iff_getElem.1 hm
  have hnl := ((ownTest_iff hba ..).1 ht).2.2.2
  by_cases hij : i < j
  · have := hpre i hi hij
    rw [hiw, hnl] at this
    cases this
  · rcases hend with h | ⟨hj, h⟩
    · omega
    · have hs := ownL_sorted wt wi wp wt.length (txn, pred)
      rcases Nat.lt_or_ge j i with h' | h'
      · have := List.pairwise_iff_getElem.1 hs j i hj hi h'
        omega
      · have : i = j := by omega
        subst this
        omega

/-- it is found at place j -/
theorem scan_found (hba : BaOk) {wt : List Int} {wi wp ri : List ByteArray} {txn : Int} {pred : ByteArray} {reads : List Int} {before : Int} {j : Nat}
    (hpre : ∀ i (h : i < (ownL wt wi wp wt.length (txn, pred)).length), i < j → listed (wi.getD ((ownL wt wi wp wt.length (txn, pred))[i]) noBytes) reads ri = true)
    (hj : j < (ownL wt wi wp wt.length (txn, pred)).length) (hb : ((ownL wt wi wp wt.length (txn, pred))[j] : Nat) < before)
    (hl : listed (wi.getD ((ownL wt wi wp wt.length (txn, pred))[j]) noBytes) reads ri = false) :
    FirstOwn wt wi wp ri txn pred reads before (((ownL wt wi wp wt.length (txn, pred))[j] : Nat) : Int) := by
  have hmem := List.getElem_mem hj
  obtain ⟨m1, m2, m3⟩ := mem_ownL.1 hmem
  generalize hv : (ownL wt wi wp wt.length (txn, pred))[j] = v at *
  injection m3 with m3 m4
  have hne : pred ≠ noBytes := by
    unfold newAt at m2
    simp only [Bool.and_eq_true, decide_eq_true_eq] at m2
    rw [← m4]
    exact m2.1
  refine .inl ⟨v, by unfold ownLim; omega, rfl, (ownTest_iff hba ..).2 ⟨hne, m3, m4, hl⟩, ?_⟩
  refine none_of _ _ fun w hw ht hlw => ?_
  have hm := least_mem hba (n := wt.length) (by omega) ht hlw
  obtain ⟨i, hi, hiw⟩ := List.mem_iff_getElem.1 hm
  have hnl := ((ownTest_iff hba ..).1 ht).2.2.2
  have hs := ownL_sorted wt wi wp wt.length (txn, pred)
  have hij : i < j := by
    rcases Nat.lt_trichotomy i j with h | h | h
    · exact h
    · subst h; omega
    · have := List.pairwise_iff_getElem.1 hs j i hj hi h
      omega
  have := hpre i hi hij
  rw [hiw, hnl] at this
  cases this
end Go.Proofs.Qxb6602044a
