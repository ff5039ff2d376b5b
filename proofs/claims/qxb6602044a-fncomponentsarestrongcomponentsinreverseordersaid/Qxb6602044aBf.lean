/-
  SEARCHING EACH CLASS FROM ONE OF ITS NODES; TURNING THE KEPT STEPS ROUND: PLAIN.
-/
import Derived.Test.Qxb6602044aCo
namespace Go.Proofs.Qxb6602044a.Tj
set_option linter.unusedVariables false

/-- the steps from x: those of st x .. st (x + 1) that kp keeps; step t leads to su t -/
structure Net where
  N : Nat
  K : Nat
  cmp : Nat → Nat
  st : Nat → Nat
  su : Nat → Nat
  kp : Nat → Nat → Bool

def Net.F (A : Net) (x v : Nat) : Prop := x < A.N ∧ ∃ t, A.st x ≤ t ∧ t < A.st (x + 1) ∧ A.kp x t = true ∧ A.su t = v

/-- kept steps stay in a class of nodes -/
structure Net.Stay (A : Net) : Prop where
  stay : ∀ x v, A.F x v → v < A.N ∧ A.cmp v = A.cmp x
  lt : ∀ v, v < A.N → A.cmp v < A.K

structure BInv (A : Net) (c r : Nat) (seen : Nat → Bool) (q : List Nat) : Prop where
  low : ∀ v, v < A.N → A.cmp v < c → seen v = true
  high : ∀ v, v < A.N → c < A.cmp v → seen v = false
  mid : ∀ v, v < A.N → A.cmp v = c → (seen v = true ↔ v ∈ q)
  qN : ∀ v ∈ q, v < A.N ∧ A.cmp v = c
  nodup : q.Nodup
  root : r ∈ q

def Exp (A : Net) (q : List Nat) (i : Nat) : Prop := ∀ k, k < i → ∀ v, A.F (q.getD k 0) v → v ∈ q
def ExpJ (A : Net) (q : List Nat) (x j : Nat) : Prop := ∀ t, A.st x ≤ t → t < j → A.kp x t = true → A.su t ∈ q

theorem BInv.start {A : Net} {c r : Nat} {seen : Nat → Bool} (hs : ∀ v, v < A.N → seen v = decide (A.cmp v < c)) (hr : r < A.N) (hc : A.cmp r = c) : BInv A c r (upd seen r true) [r] := by
  refine ⟨fun v hv h => ?_, fun v hv h => ?_, fun v hv h => ?_, fun v hv => ?_, by simp, by simp⟩
  · rw [upd_other _ _ (by intro e; subst e; omega), hs v hv]; exact decide_eq_true h
  · rw [upd_other _ _ (by intro e; subst e; omega), hs v hv]; exact decide_eq_false (by omega)
  · by_cases e : v = r
    · subst e; rw [upd_same]; simp
    · rw [upd_other _ _ e, hs v hv]
      simp [e, h]
  · simp at hv; subst hv; exact ⟨hr, hc⟩

theorem BInv.len {A : Net} {c r : Nat} {seen : Nat → Bool} {q : List Nat} (h : BInv A c r seen q) : q.length ≤ A.N := nodup_le _ _ h.nodup (fun v hv => (h.qN v hv).1)

theorem BInv.add {A : Net} {c r m : Nat} {seen : Nat → Bool} {q : List Nat} (h : BInv A c r seen q) (hm : m < A.N) (hc : A.cmp m = c) (hs : seen m = false) : BInv A c r (upd seen m true) (q ++ [m]) := by
  have hmq : m ∉ q := fun hq => by have := (h.mid m hm hc).2 hq; rw [hs] at this; cases this
  refine ⟨fun v hv e => ?_, fun v hv e => ?_, fun v hv e => ?_, fun v hv => ?_, ?_, by simp [h.root]⟩
  · rw [upd_other _ _ (by intro e'; subst e'; omega)]; exact h.low v hv e
  · rw [upd_other _ _ (by intro e'; subst e'; omega)]; exact h.high v hv e
  · by_cases e' : v = m
    · subst e'; rw [upd_same]; simp
    · rw [upd_other _ _ e', h.mid v hv e]; simp [e']
  · rcases List.mem_append.1 hv with hv | hv
    · exact h.qN v hv
    · simp at hv; subst hv; exact ⟨hm, hc⟩
  · rw [List.nodup_append]
    exact ⟨h.nodup, by simp, fun a ha b hb => by simp at hb; subst hb; exact fun e => hmq (e ▸ ha)⟩

theorem getD_app {q : List Nat} {m k : Nat} (hk : k < q.length) : (q ++ [m]).getD k 0 = q.getD k 0 := by
  rw [List.getD_eq_getElem?_getD, List.getElem?_append_left hk, ← List.getD_eq_getElem?_getD]

theorem Exp.add {A : Net} {q : List Nat} {i m : Nat} (h : Exp A q i) (hi : i ≤ q.length) : Exp A (q ++ [m]) i := fun k hk v hv => by
  rw [getD_app (by omega)] at hv
  exact List.mem_append_left _ (h k hk v hv)

theorem ExpJ.add {A : Net} {q : List Nat} {x j m : Nat} (h : ExpJ A q x j) : ExpJ A (q ++ [m]) x j := fun t h1 h2 h3 => List.mem_append_left _ (h t h1 h2 h3)

theorem ExpJ.init {A : Net} {q : List Nat} {x j : Nat} (hj : j = A.st x) : ExpJ A q x j := fun t h1 h2 _ => by omega

theorem ExpJ.next {A : Net} {q : List Nat} {x j : Nat} (h : ExpJ A q x j) (hm : A.kp x j = true → A.su j ∈ q) : ExpJ A q x (j + 1) := fun t h1 h2 h3 => by
  by_cases e : t = j
  · subst e; exact hm h3
  · exact h t h1 (by omega) h3

theorem Exp.next {A : Net} {q : List Nat} {i : Nat} (h : Exp A q i) {j : Nat} (hj : ExpJ A q (q.getD i 0) j) (he : A.st (q.getD i 0 + 1) ≤ j) : Exp A q (i + 1) := fun k hk v hv => by
  by_cases e : k = i
  · subst e
    obtain ⟨_, t, h1, h2, h3, rfl⟩ := hv
    exact hj t h1 (by omega) h3
  · exact h k (by omega) v hv

theorem BInv.finish {A : Net} {c r : Nat} {seen : Nat → Bool} {q : List Nat} (h : BInv A c r seen q) (hst : A.Stay) (he : Exp A q q.length) (hre : ∀ v, v < A.N → A.cmp v = c → Reach A.F r v) :
    ∀ v, v < A.N → seen v = decide (A.cmp v < c + 1) := by
  have hall : ∀ v, Reach A.F r v → v ∈ q := by
    intro v hv
    induction hv using Reach.ind with
    | refl => exact h.root
    | @step v x _ e ih =>
      obtain ⟨k, hk, hkv⟩ := List.mem_iff_getElem.1 ih
      have : q.getD k 0 = v := by rw [List.getD_eq_getElem?_getD, List.getElem?_eq_getElem hk]; exact hkv
      exact he k hk x (by rw [this]; exact e)
  intro v hv
  rcases Nat.lt_trichotomy (A.cmp v) c with hc | hc | hc
  · rw [h.low v hv hc]; exact (decide_eq_true (by omega)).symm
  · rw [(h.mid v hv hc).2 (hall v (hre v hv hc))]; exact (decide_eq_true (by omega)).symm
  · rw [h.high v hv hc]; exact (decide_eq_false (by omega)).symm

/-- the kept steps of a graph, forward -/
def Gr.net (G : Gr) (cmp : Nat → Nat) (K : Nat) : Net := ⟨G.N, K, cmp, G.st, G.to, fun x t => G.ok t && decide (cmp x = cmp (G.to t))⟩

theorem Gr.net_stay {G : Gr} (hv : G.Valid) {cmp : Nat → Nat} {size : List Nat} (g : Good G cmp size) : (G.net cmp size.length).Stay := by
  refine ⟨fun x v hF => ?_, g.lt⟩
  obtain ⟨hx, t, h1, h2, h3, rfl⟩ := hF
  have h3' : (G.ok t && decide (cmp x = cmp (G.to t))) = true := h3
  rw [Bool.and_eq_true, decide_eq_true_eq] at h3'
  have hx' : x < G.N := hx
  have h2' : t < G.st (x + 1) := h2
  have := hv.le (x + 1) (by omega)
  exact ⟨hv.ends t (by omega), h3'.2.symm⟩

theorem Gr.net_reach {G : Gr} {cmp : Nat → Nat} {size : List Nat} (g : Good G cmp size) {u v : Nat} (h : Reach G.E u v) (he : cmp u = cmp v) : Reach (G.net cmp size.length).F u v := by
  induction h using Reach.ind with
  | refl => exact .refl _
  | @step v x h e ih =>
    have h1 := g.mono _ _ e
    have h2 := g.down h
    refine .step (ih (by omega)) ?_
    obtain ⟨hu, t, t1, t2, t3, t4⟩ := e
    refine ⟨hu, t, t1, t2, ?_, t3⟩
    show (G.ok t && decide (cmp v = cmp (G.to t))) = true
    rw [t4, t3, decide_eq_true (by omega)]
    rfl

theorem reach_turn {E F : Nat → Nat → Prop} (h : ∀ u v, E u v → F v u) {u v : Nat} (hr : Reach E u v) : Reach F v u := by
  induction hr using Reach.ind with
  | refl => exact .refl _
  | step _ e ih => exact (Reach.one (h _ _ e)).trans ih

/-! the turning round -/
section
variable (G : Gr) (cmp : Nat → Nat)

/-- the node below n that step i leads from -/
def srcTo (i : Nat) : Nat → Nat
  | 0 => 0
  | n + 1 => if G.st n ≤ i ∧ i < G.st (n + 1) then n else srcTo i n

theorem srcTo_spec {G : Gr} {i : Nat} : ∀ n, (∃ u, u < n ∧ G.st u ≤ i ∧ i < G.st (u + 1)) → srcTo G i n < n ∧ G.st (srcTo G i n) ≤ i ∧ i < G.st (srcTo G i n + 1) := by
  intro n
  induction n with
  | zero => rintro ⟨u, h, _⟩; omega
  | succ n ih =>
    rintro ⟨u, h1, h2, h3⟩
    by_cases hn : G.st n ≤ i ∧ i < G.st (n + 1)
    · have he : srcTo G i (n + 1) = n := if_pos hn
      rw [he]; exact ⟨by omega, hn.1, hn.2⟩
    · have he : srcTo G i (n + 1) = srcTo G i n := if_neg hn
      have hu : u < n := by
        rcases Nat.lt_or_eq_of_le (Nat.le_of_lt_succ h1) with h | h
        · exact h
        · subst h; exact absurd ⟨h2, h3⟩ hn
      obtain ⟨k1, k2, k3⟩ := ih ⟨u, hu, h2, h3⟩
      rw [he]; exact ⟨by omega, k2, k3⟩

/-- the node that step i leads from -/
def src (i : Nat) : Nat := srcTo G i G.N

theorem st_mono {G : Gr} (hv : G.Valid) {a b : Nat} (h : a ≤ b) (hb : b ≤ G.N) : G.st a ≤ G.st b := by
  obtain ⟨k, rfl⟩ : ∃ k, b = a + k := ⟨b - a, by omega⟩
  clear h
  induction k with
  | zero => exact Nat.le_refl _
  | succ k ih => exact Nat.le_trans (ih (by omega)) (hv.mono (a + k) (by omega))

theorem src_eq {G : Gr} (hv : G.Valid) {u i : Nat} (hu : u < G.N) (h1 : G.st u ≤ i) (h2 : i < G.st (u + 1)) : src G i = u := by
  have hex : ∃ u, u < G.N ∧ G.st u ≤ i ∧ i < G.st (u + 1) := ⟨u, hu, h1, h2⟩
  obtain ⟨c1, c2, c3⟩ := srcTo_spec G.N hex
  unfold src
  generalize srcTo G i G.N = x at c1 c2 c3
  rcases Nat.lt_trichotomy x u with h | h | h
  · have := st_mono hv (show x + 1 ≤ u by omega) (by omega); omega
  · exact h
  · have := st_mono hv (show u + 1 ≤ x by omega) (by omega); omega

def kept (i : Nat) : Bool := G.ok i && decide (cmp (src G i) = cmp (G.to i))

theorem kept_eq {G : Gr} (hv : G.Valid) {cmp : Nat → Nat} {u i : Nat} (hu : u < G.N) (h1 : G.st u ≤ i) (h2 : i < G.st (u + 1)) : kept G cmp i = (G.ok i && decide (cmp u = cmp (G.to i))) := by
  unfold kept; rw [src_eq hv hu h1 h2]

/-- how many of the first k steps are kept and lead to v -/
def cnt (k v : Nat) : Nat := (List.range k).countP (fun i => kept G cmp i && decide (G.to i = v))

theorem cnt_succ (k v : Nat) : cnt G cmp (k + 1) v = cnt G cmp k v + if kept G cmp k = true ∧ G.to k = v then 1 else 0 := by
  unfold cnt
  rw [List.range_succ, List.countP_append]
  simp only [List.countP_cons, List.countP_nil, Bool.and_eq_true, decide_eq_true_eq]
  omega

theorem cnt_mono {a b : Nat} (h : a ≤ b) (v : Nat) : cnt G cmp a v ≤ cnt G cmp b v := by
  obtain ⟨k, rfl⟩ : ∃ k, b = a + k := ⟨b - a, by omega⟩
  clear h
  induction k with
  | zero => exact Nat.le_refl _
  | succ k ih => rw [← Nat.add_assoc, cnt_succ]; omega

theorem cnt_lt {i k : Nat} (h : i < k) (hk : kept G cmp i = true) : cnt G cmp i (G.to i) < cnt G cmp k (G.to i) := by
  have h1 := cnt_succ G cmp i (G.to i)
  rw [if_pos ⟨hk, rfl⟩] at h1
  have h2 := cnt_mono G cmp (show i + 1 ≤ k by omega) (G.to i)
  omega

theorem cnt_le (k v : Nat) : cnt G cmp k v ≤ k := by
  unfold cnt
  exact Nat.le_trans List.countP_le_length (by simp)

theorem cnt_find (k v d : Nat) (h : d < cnt G cmp k v) : ∃ i, i < k ∧ kept G cmp i = true ∧ G.to i = v ∧ cnt G cmp i v = d := by
  induction k with
  | zero => simp [cnt] at h
  | succ k ih =>
    rw [cnt_succ] at h
    by_cases hd : d < cnt G cmp k v
    · obtain ⟨i, h1, h2⟩ := ih hd
      exact ⟨i, by omega, h2⟩
    · by_cases hk : kept G cmp k = true ∧ G.to k = v
      · rw [if_pos hk] at h
        exact ⟨k, by omega, hk.1, hk.2, by omega⟩
      · rw [if_neg hk] at h; omega

/-- where the steps into v begin -/
def pre : Nat → Nat
  | 0 => 0
  | v + 1 => pre v + cnt G cmp G.M v

theorem pre_mono {a b : Nat} (h : a ≤ b) : pre G cmp a ≤ pre G cmp b := by
  obtain ⟨k, rfl⟩ : ∃ k, b = a + k := ⟨b - a, by omega⟩
  clear h
  induction k with
  | zero => exact Nat.le_refl _
  | succ k ih => exact Nat.le_trans ih (by show _ ≤ pre G cmp (a + k) + _; omega)

theorem pre_sum (v : Nat) : pre G cmp v ≤ (List.range G.M).countP (fun i => kept G cmp i && decide (G.to i < v)) := by
  induction v with
  | zero => exact Nat.zero_le _
  | succ v ih =>
    have := countP_split (p := fun i => kept G cmp i && decide (G.to i < v + 1)) (q := fun i => kept G cmp i && decide (G.to i < v)) (r := fun i => kept G cmp i && decide (G.to i = v)) (List.range G.M)
      (fun i _ => by
        cases kept G cmp i
        · simp
        · simp only [Bool.true_and]
          rw [Bool.eq_iff_iff]
          simp only [decide_eq_true_eq, Bool.or_eq_true]
          omega)
      (fun i _ => by
        cases kept G cmp i
        · simp
        · simp only [Bool.true_and, decide_eq_true_eq, decide_eq_false_iff_not]
          omega)
    rw [this]
    show pre G cmp v + cnt G cmp G.M v ≤ _
    unfold cnt
    omega

theorem pre_le (v : Nat) : pre G cmp v ≤ G.M := Nat.le_trans (pre_sum G cmp v) (Nat.le_trans List.countP_le_length (by simp))

/-- the place of step i among the turned steps -/
def place (i : Nat) : Nat := pre G cmp (G.to i) + cnt G cmp i (G.to i)

theorem place_lt {i : Nat} (hi : i < G.M) (hk : kept G cmp i = true) : place G cmp i < pre G cmp (G.to i + 1) := by
  have := cnt_lt G cmp hi hk
  show pre G cmp (G.to i) + _ < pre G cmp (G.to i) + _
  omega

theorem place_ne {i j : Nat} (hij : i < j) (hj : j < G.M) (hi : kept G cmp i = true) (hjk : kept G cmp j = true) : place G cmp i ≠ place G cmp j := by
  have h1 := place_lt G cmp (show i < G.M by omega) hi
  have h2 := place_lt G cmp hj hjk
  have h3 : pre G cmp (G.to i) ≤ place G cmp i := Nat.le_add_right _ _
  have h4 : pre G cmp (G.to j) ≤ place G cmp j := Nat.le_add_right _ _
  rcases Nat.lt_trichotomy (G.to i) (G.to j) with h | h | h
  · have := pre_mono G cmp (show G.to i + 1 ≤ G.to j by omega); omega
  · have := cnt_lt G cmp hij hi
    unfold place
    rw [← h]
    omega
  · have := pre_mono G cmp (show G.to j + 1 ≤ G.to i by omega); omega

/-- the turned steps, those of the first k steps laid -/
def Laid (r : Nat → Nat) (k : Nat) : Prop := ∀ i, i < k → kept G cmp i = true → r (place G cmp i) = src G i

theorem Laid.put {r : Nat → Nat} {k : Nat} (h : Laid G cmp r k) (hk : k < G.M) (hkk : kept G cmp k = true) : Laid G cmp (upd r (place G cmp k) (src G k)) (k + 1) := by
  intro i hi hik
  by_cases e : i = k
  · subst e; rw [upd_same]
  · rw [upd_other _ _ (place_ne G cmp (by omega) hk hik hkk)]
    exact h i (by omega) hik

theorem Laid.skip {r : Nat → Nat} {k : Nat} (h : Laid G cmp r k) (hkk : kept G cmp k = false) : Laid G cmp r (k + 1) := by
  intro i hi hik
  by_cases e : i = k
  · subst e; rw [hkk] at hik; cases hik
  · exact h i (by omega) hik

/-- the kept steps, backward -/
def back (K : Nat) (r : Nat → Nat) : Net := ⟨G.N, K, cmp, pre G cmp, r, fun _ _ => true⟩

theorem src_spec {G : Gr} (hv : G.Valid) {i : Nat} (hi : i < G.M) : src G i < G.N ∧ G.st (src G i) ≤ i ∧ i < G.st (src G i + 1) := by
  have : ∀ n, n ≤ G.N → i < G.st n → ∃ u, u < G.N ∧ G.st u ≤ i ∧ i < G.st (u + 1) := by
    intro n
    induction n with
    | zero => intro _ h; rw [hv.first] at h; omega
    | succ n ih =>
      intro hn h
      by_cases hlt : i < G.st n
      · exact ih (by omega) hlt
      · exact ⟨n, by omega, by omega, h⟩
  obtain ⟨u, h1, h2, h3⟩ := this G.N (Nat.le_refl _) (by rw [hv.last]; exact hi)
  rw [src_eq hv h1 h2 h3]
  exact ⟨h1, h2, h3⟩

theorem back_of {G : Gr} (hv : G.Valid) {cmp : Nat → Nat} {K : Nat} {r : Nat → Nat} (hl : Laid G cmp r G.M) {x v : Nat} (h : (back G cmp K r).F x v) : (G.net cmp K).F v x := by
  obtain ⟨hx, t, h1, h2, _, h4⟩ := h
  have h1' : pre G cmp x ≤ t := h1
  have h2' : t < pre G cmp x + cnt G cmp G.M x := h2
  have h4' : r t = v := h4
  obtain ⟨i, i1, i2, i3, i4⟩ := cnt_find G cmp G.M x (t - pre G cmp x) (by omega)
  have hp : place G cmp i = t := by unfold place; rw [i3, i4]; omega
  have hs := hl i i1 i2
  rw [hp, h4'] at hs
  obtain ⟨s1, s2, s3⟩ := src_spec hv i1
  refine ⟨by rw [hs]; exact s1, i, by rw [hs]; exact s2, by rw [hs]; exact s3, ?_, i3⟩
  show (G.ok i && decide (cmp v = cmp (G.to i))) = true
  rw [hs]
  exact i2

theorem back_to {G : Gr} (hv : G.Valid) {cmp : Nat → Nat} {K : Nat} {r : Nat → Nat} (hl : Laid G cmp r G.M) {x v : Nat} (h : (G.net cmp K).F v x) : (back G cmp K r).F x v := by
  obtain ⟨hx, i, h1, h2, h3, h4⟩ := h
  have hx' : v < G.N := hx
  have h1' : G.st v ≤ i := h1
  have h2' : i < G.st (v + 1) := h2
  have h4' : G.to i = x := h4
  have hle := hv.le (v + 1) (by omega)
  have hiM : i < G.M := by omega
  have hk : kept G cmp i = true := by rw [kept_eq hv hx' h1' h2']; exact h3
  have hs := hl i hiM hk
  rw [src_eq hv hx' h1' h2'] at hs
  have hp := place_lt G cmp hiM hk
  refine ⟨by rw [← h4']; exact hv.ends i hiM, place G cmp i, ?_, ?_, rfl, hs⟩
  · show pre G cmp x ≤ _
    rw [← h4']; exact Nat.le_add_right _ _
  · show _ < pre G cmp (x + 1)
    rw [← h4']; exact hp

theorem back_stay {G : Gr} (hv : G.Valid) {cmp : Nat → Nat} {size : List Nat} (g : Good G cmp size) {r : Nat → Nat} (hl : Laid G cmp r G.M) : (back G cmp size.length r).Stay := by
  refine ⟨fun x v hF => ?_, g.lt⟩
  have hF2 := back_of hv hl hF
  obtain ⟨h1, h2⟩ := (Gr.net_stay hv g).stay v x hF2
  exact ⟨hF2.1, h2.symm⟩

theorem back_reach {G : Gr} (hv : G.Valid) {cmp : Nat → Nat} {size : List Nat} (g : Good G cmp size) {r : Nat → Nat} (hl : Laid G cmp r G.M) {u v : Nat} (h : Reach G.E u v) (he : cmp u = cmp v) : Reach (back G cmp size.length r).F v u :=
  reach_turn (fun _ _ hF => back_to hv hl hF) (Gr.net_reach g h he)
end
end Go.Proofs.Qxb6602044a.Tj
