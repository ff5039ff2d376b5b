/-
  WHAT BOTH SCANS FIND: PLAIN.
-/
import Derived.Test.Qxb6602558aF2
namespace Go.Proofs.Qxb6602558a
open Go.RowKit
set_option linter.unusedVariables false

structure Job where
  T : ByteArray
  L : Nat
  nA : Nat
  A : Nat → ByteArray
  n : Nat → Nat
  il : Nat → Nat → Nat
  ia : Nat → Nat → Int
  S1 : Nat → Option (Nat → Bool)
  S2 : Nat → Option (Nat → Bool)

structure Job.Ok (J : Job) : Prop where
  two : ∀ k, k < J.nA → 2 ≤ (J.A k).size
  small : ∀ k, k < J.nA → (J.A k).size ≤ 1048576
  list : ∀ k j, k < J.nA → j < J.n k → J.il k j < J.L
  text : J.T.size ≤ 1048576
  lists : J.L ≤ 65536
  ancs : J.nA ≤ 65536

abbrev Fams := Nat → List Value

/-- a place p, the x-th anchor, is kept for list l -/
def put (X : Fams) (l p : Nat) (x : Int) : Fams := upd (upd X (2 * l) (X (2 * l) ++ [nv p])) (2 * l + 1) (X (2 * l + 1) ++ [.int .u8 x])

theorem put_len (X : Fams) (l p : Nat) (x : Int) (i : Nat) : (put X l p x i).length ≤ (X i).length + 1 := by
  unfold put
  by_cases h1 : i = 2 * l + 1
  · subst h1; rw [upd_same]; simp
  · rw [upd_other _ _ h1]
    by_cases h2 : i = 2 * l
    · subst h2; rw [upd_same]; simp
    · rw [upd_other _ _ h2]; omega

def Job.keeps (J : Job) (p k j : Nat) : Prop := Hold J.T (J.S1 (J.il k j)) (J.S2 (J.il k j)) p (p + (J.A k).size)

/-- the same, reckoned -/
def atB (T : ByteArray) (p : Nat) (a : ByteArray) : Bool := decide (p + a.size ≤ T.size) && (List.range a.size).all (fun j => byteAt T (p + j) == byteAt a j)

theorem atB_iff (T : ByteArray) (p : Nat) (a : ByteArray) : atB T p a = true ↔ At T p a := by
  unfold atB At
  simp

def holdB (T : ByteArray) (S1 S2 : Option (Nat → Bool)) (s e : Nat) : Bool :=
  (match S1 with
    | none => true
    | some f => s == 0 || f (byteAt T (s - 1))) &&
  (match S2 with
    | none => true
    | some f => decide (e < T.size) && f (byteAt T e))

theorem holdB_iff (T : ByteArray) (S1 S2 : Option (Nat → Bool)) (s e : Nat) : holdB T S1 S2 s e = true ↔ Hold T S1 S2 s e := by
  unfold holdB Hold
  cases S1 <;> cases S2 <;> simp

def Job.keepsB (J : Job) (p k j : Nat) : Bool := holdB J.T (J.S1 (J.il k j)) (J.S2 (J.il k j)) p (p + (J.A k).size)

theorem Job.keepsB_iff (J : Job) (p k j : Nat) : J.keepsB p k j = true ↔ J.keeps p k j := holdB_iff _ _ _ _ _

def Job.hit (J : Job) (p k : Nat) (X : Fams) : Nat → Fams
  | 0 => X
  | j + 1 => if J.keepsB p k j = true then put (J.hit p k X j) (J.il k j) p (IntKind.u8.wrap (J.ia k j)) else J.hit p k X j

def Job.nK (J : Job) (p : Nat) (X : Fams) : Nat → Fams
  | 0 => X
  | k + 1 => if atB J.T p (J.A k) = true then J.hit p k (J.nK p X k) (J.n k) else J.nK p X k

def Job.nP (J : Job) : Nat → Fams
  | 0 => fun _ => []
  | p + 1 => J.nK p (J.nP p) J.nA

theorem Job.hit_yes {J : Job} {p k : Nat} {X : Fams} {j : Nat} (h : J.keeps p k j) : J.hit p k X (j + 1) = put (J.hit p k X j) (J.il k j) p (IntKind.u8.wrap (J.ia k j)) := by
  rw [Job.hit]; exact if_pos ((J.keepsB_iff p k j).2 h)
theorem Job.hit_no {J : Job} {p k : Nat} {X : Fams} {j : Nat} (h : ¬ J.keeps p k j) : J.hit p k X (j + 1) = J.hit p k X j := by
  rw [Job.hit]; exact if_neg (fun e => h ((J.keepsB_iff p k j).1 e))
theorem Job.nK_yes {J : Job} {p k : Nat} {X : Fams} (h : At J.T p (J.A k)) : J.nK p X (k + 1) = J.hit p k (J.nK p X k) (J.n k) := by
  rw [Job.nK]; exact if_pos ((atB_iff _ _ _).2 h)
theorem Job.nK_no {J : Job} {p k : Nat} {X : Fams} (h : ¬ At J.T p (J.A k)) : J.nK p X (k + 1) = J.nK p X k := by
  rw [Job.nK]; exact if_neg (fun e => h ((atB_iff _ _ _).1 e))

theorem Job.nK_skip {J : Job} {p : Nat} {X : Fams} {m m' : Nat} (hm : m ≤ m') (h : ∀ k, m ≤ k → k < m' → ¬ At J.T p (J.A k)) : J.nK p X m' = J.nK p X m := by
  obtain ⟨d, rfl⟩ : ∃ d, m' = m + d := ⟨m' - m, by omega⟩
  clear hm
  induction d with
  | zero => rfl
  | succ d ih => rw [← Nat.add_assoc, Job.nK_no (h (m + d) (by omega) (by omega)), ih (fun k h1 h2 => h k h1 (by omega))]

/-- how many places the first m anchors have -/
def Job.W (J : Job) : Nat → Nat
  | 0 => 0
  | m + 1 => J.W m + J.n m

theorem Job.W_mono (J : Job) {a b : Nat} (h : a ≤ b) : J.W a ≤ J.W b := by
  obtain ⟨d, rfl⟩ : ∃ d, b = a + d := ⟨b - a, by omega⟩
  clear h
  induction d with
  | zero => exact Nat.le_refl _
  | succ d ih => exact Nat.le_trans ih (by show _ ≤ J.W (a + d) + _; omega)

theorem Job.hit_len (J : Job) (p k : Nat) (X : Fams) (i : Nat) : ∀ j, (J.hit p k X j i).length ≤ (X i).length + j := by
  intro j
  induction j with
  | zero => exact Nat.le_refl _
  | succ j ih =>
    by_cases h : J.keeps p k j
    · rw [Job.hit_yes h]
      have := put_len (J.hit p k X j) (J.il k j) p (IntKind.u8.wrap (J.ia k j)) i
      omega
    · rw [Job.hit_no h]; omega

theorem Job.nK_len (J : Job) (p : Nat) (X : Fams) (i : Nat) : ∀ k, (J.nK p X k i).length ≤ (X i).length + J.W k := by
  intro k
  induction k with
  | zero => exact Nat.le_refl _
  | succ k ih =>
    show _ ≤ _ + (J.W k + J.n k)
    by_cases h : At J.T p (J.A k)
    · rw [Job.nK_yes h]
      have := J.hit_len p k (J.nK p X k) i (J.n k)
      omega
    · rw [Job.nK_no h]; omega

theorem Job.nP_len (J : Job) (i : Nat) : ∀ p, (J.nP p i).length ≤ p * J.W J.nA := by
  intro p
  induction p with
  | zero => exact Nat.zero_le _
  | succ p ih =>
    have := J.nK_len p (J.nP p) i J.nA
    show (J.nK p (J.nP p) J.nA i).length ≤ _
    rw [Nat.add_mul, Nat.one_mul]
    omega

/-- in the midst of place p, anchor k, the first j places gone through -/
theorem Job.mid_len (J : Job) {p k j : Nat} (hp : p < J.T.size) (hk : k < J.nA) (hj : j ≤ J.n k) (hw : J.T.size * J.W J.nA ≤ 16777216) (i : Nat) : (J.hit p k (J.nK p (J.nP p) k) j i).length ≤ 16777216 := by
  have h1 := J.hit_len p k (J.nK p (J.nP p) k) i j
  have h2 := J.nK_len p (J.nP p) i k
  have h3 := J.nP_len i p
  have h4 : J.W (k + 1) ≤ J.W J.nA := J.W_mono (by omega)
  have h5 : J.W (k + 1) = J.W k + J.n k := rfl
  have h6 : (p + 1) * J.W J.nA ≤ J.T.size * J.W J.nA := Nat.mul_le_mul_right _ (by omega)
  rw [Nat.add_mul, Nat.one_mul] at h6
  omega

theorem at_first {T a : ByteArray} {p : Nat} (h : At T p a) (h2 : 2 ≤ a.size) : byteAt a 0 = byteAt T p ∧ byteAt a 1 = byteAt T (p + 1) ∧ p + 1 < T.size := by
  refine ⟨?_, ?_, ?_⟩
  · have := h.2 0 (by omega); rw [Nat.add_zero] at this; exact this.symm
  · exact (h.2 1 (by omega)).symm
  · have := h.1; omega

/-- the anchors that begin with byte c -/
def Job.ks (J : Job) (m c : Nat) : List Nat := (List.range m).filter (fun k => byteAt (J.A k) 0 == c)

theorem Job.ks_mem {J : Job} {m c k : Nat} : k ∈ J.ks m c ↔ k < m ∧ byteAt (J.A k) 0 = c := by simp [Job.ks]

theorem Job.ks_sorted (J : Job) (m c : Nat) : (J.ks m c).Pairwise (· < ·) := List.Pairwise.filter _ List.pairwise_lt_range

theorem Job.ks_succ (J : Job) (m c : Nat) : J.ks (m + 1) c = if byteAt (J.A m) 0 = c then J.ks m c ++ [m] else J.ks m c := by
  unfold Job.ks
  rw [List.range_succ, List.filter_append]
  by_cases h : byteAt (J.A m) 0 = c
  · rw [if_pos h]; simp [h]
  · rw [if_neg h]; simp [h]

/-- where the scan of the anchors that begin with c stands, t of them gone through: the next of them, or the end -/
def Job.upto (J : Job) (c t : Nat) : Nat := (J.ks J.nA c).getD t J.nA

theorem Job.upto_le (J : Job) (c t : Nat) : J.upto c t ≤ J.nA := by
  unfold Job.upto
  by_cases h : t < (J.ks J.nA c).length
  · rw [List.getD_eq_getElem?_getD, List.getElem?_eq_getElem h, Option.getD_some]
    have := (Job.ks_mem.1 (List.getElem_mem h)).1
    omega
  · rw [List.getD_eq_getElem?_getD, List.getElem?_eq_none (by omega)]
    exact Nat.le_refl _

theorem Job.at_ks {J : Job} (ok : J.Ok) {p k : Nat} (hk : k < J.nA) (h : At J.T p (J.A k)) : k ∈ J.ks J.nA (byteAt J.T p) := Job.ks_mem.2 ⟨hk, (at_first h (ok.two k hk)).1⟩

theorem Job.before {J : Job} (ok : J.Ok) {p t : Nat} (k : Nat) (hk : k < J.upto (byteAt J.T p) t) (h : At J.T p (J.A k)) : ∃ s, s < t ∧ ∃ hs : s < (J.ks J.nA (byteAt J.T p)).length, (J.ks J.nA (byteAt J.T p))[s] = k := by
  have hkn : k < J.nA := Nat.lt_of_lt_of_le hk (J.upto_le _ _)
  obtain ⟨s, hs, he⟩ := List.mem_iff_getElem.1 (Job.at_ks ok hkn h)
  refine ⟨s, ?_, hs, he⟩
  refine Classical.byContradiction fun hn => ?_
  have hts : t ≤ s := by omega
  have ht : t < (J.ks J.nA (byteAt J.T p)).length := by omega
  unfold Job.upto at hk
  rw [List.getD_eq_getElem?_getD, List.getElem?_eq_getElem ht, Option.getD_some] at hk
  rcases Nat.lt_or_eq_of_le hts with h1 | h1
  · have := List.pairwise_iff_getElem.1 (J.ks_sorted J.nA (byteAt J.T p)) t s ht hs h1
    omega
  · subst h1; omega

theorem Job.first_upto {J : Job} (ok : J.Ok) (p : Nat) (X : Fams) : J.nK p X (J.upto (byteAt J.T p) 0) = X := by
  have := Job.nK_skip (J := J) (p := p) (X := X) (Nat.zero_le (J.upto (byteAt J.T p) 0)) (fun k _ hk h => by
    obtain ⟨s, hs, _⟩ := Job.before ok k hk h
    omega)
  exact this

theorem Job.next_upto {J : Job} (ok : J.Ok) (p : Nat) (X : Fams) {t : Nat} (ht : t < (J.ks J.nA (byteAt J.T p)).length) : J.nK p X (J.upto (byteAt J.T p) (t + 1)) = J.nK p X (J.upto (byteAt J.T p) t + 1) := by
  have he : J.upto (byteAt J.T p) t = (J.ks J.nA (byteAt J.T p))[t] := by
    unfold Job.upto; rw [List.getD_eq_getElem?_getD, List.getElem?_eq_getElem ht, Option.getD_some]
  refine Job.nK_skip ?_ (fun k h1 h2 h => ?_)
  · rw [he]
    unfold Job.upto
    by_cases h1 : t + 1 < (J.ks J.nA (byteAt J.T p)).length
    · rw [List.getD_eq_getElem?_getD, List.getElem?_eq_getElem h1, Option.getD_some]
      have := List.pairwise_iff_getElem.1 (J.ks_sorted J.nA (byteAt J.T p)) t (t + 1) ht h1 (by omega)
      omega
    · rw [List.getD_eq_getElem?_getD, List.getElem?_eq_none (by omega), Option.getD_none]
      have := (Job.ks_mem.1 (List.getElem_mem ht)).1
      omega
  · obtain ⟨s, hs, hsl, hse⟩ := Job.before ok k h2 h
    rw [he] at h1
    rcases Nat.lt_or_eq_of_le (Nat.le_of_lt_succ hs) with h3 | h3
    · have := List.pairwise_iff_getElem.1 (J.ks_sorted J.nA (byteAt J.T p)) s t hsl ht h3
      omega
    · subst h3; omega

theorem Job.end_upto {J : Job} (c : Nat) {t : Nat} (ht : (J.ks J.nA c).length ≤ t) : J.upto c t = J.nA := by
  unfold Job.upto
  rw [List.getD_eq_getElem?_getD, List.getElem?_eq_none ht]; rfl

theorem Job.none_at {J : Job} (p : Nat) (X : Fams) (h : ∀ k, k < J.nA → ¬ At J.T p (J.A k)) : J.nK p X J.nA = X :=
  Job.nK_skip (Nat.zero_le _) (fun k _ hk => h k hk)

theorem Job.nP_end {J : Job} (ok : J.Ok) (h : 0 < J.T.size) : J.nP J.T.size = J.nP (J.T.size - 1) := by
  obtain ⟨m, hm⟩ : ∃ m, J.T.size = m + 1 := ⟨J.T.size - 1, by omega⟩
  rw [hm]
  show J.nK m (J.nP m) J.nA = J.nP m
  refine Job.none_at m _ (fun k hk ha => ?_)
  have := (at_first ha (ok.two k hk)).2.2
  omega
end Go.Proofs.Qxb6602558a
