/-
  PERIODS: PLAIN. A number that divides what every step within a class leaves over, by whatever numbering, is at most the class's plain nodes.
-/
import Derived.Test.Qxb6602044aCo
namespace Go.Proofs.Qxb6602044a.Tj
set_option linter.unusedVariables false

/-- step i leads from u within u's class -/
def Gr.Within (G : Gr) (cmp : Nat → Nat) (u i : Nat) : Prop := u < G.N ∧ G.st u ≤ i ∧ i < G.st (u + 1) ∧ cmp (G.to i) = cmp u

def Gr.wt (G : Gr) (u : Nat) : Nat := if G.pl u then 1 else 0

def over (G : Gr) (num : Nat → Nat) (u i : Nat) : Int := (num u : Int) + (G.wt u : Int) - (num (G.to i) : Int)

/-- class c has no plain node -/
def Gr.Flat (G : Gr) (cmp : Nat → Nat) (c : Nat) : Prop := ∀ u, u < G.N → cmp u = c → G.pl u = false

structure PInv (G : Gr) (cmp num P : Nat → Nat) (Q : Nat → Nat → Prop) : Prop where
  div : ∀ u i, G.Within cmp u i → Q u i → (P (cmp u) : Int) ∣ over G num u i
  from_ : ∀ c, P c ≠ 0 → ∃ u i, G.Within cmp u i ∧ cmp u = c
  flat : ∀ c, G.Flat cmp c → P c = 0
  bound : ∀ c, P c ≤ 262146

theorem mod_of_dvd {d a b w : Nat} (h : (d : Int) ∣ (a : Int) + (w : Int) - (b : Int)) : b % d = (a + w) % d := by
  obtain ⟨k, hk⟩ := h
  rcases Int.le_total 0 k with h0 | h0
  · obtain ⟨n, rfl⟩ : ∃ n : Nat, k = (n : Int) := ⟨k.toNat, by omega⟩
    have : a + w = b + d * n := by
      have h1 : ((a + w : Nat) : Int) = ((b + d * n : Nat) : Int) := by push_cast; omega
      exact_mod_cast h1
    rw [this, Nat.add_mul_mod_self_left]
  · obtain ⟨n, rfl⟩ : ∃ n : Nat, k = -(n : Int) := ⟨(-k).toNat, by omega⟩
    have : b = a + w + d * n := by
      have h1 : ((b : Nat) : Int) = ((a + w + d * n : Nat) : Int) := by push_cast; rw [Int.mul_neg] at hk; omega
      exact_mod_cast h1
    rw [this, Nat.add_mul_mod_self_left]

theorem Reach.first {E : Nat → Nat → Prop} {u x : Nat} (h : Reach E u x) (hne : u ≠ x) : ∃ v, E u v ∧ Reach E v x := by
  induction h using Reach.ind with
  | refl => exact absurd rfl hne
  | @step v x h e ih =>
    by_cases hv : u = v
    · subst hv; exact ⟨x, e, .refl x⟩
    · obtain ⟨y, h1, h2⟩ := ih hv
      exact ⟨y, h1, .step h2 e⟩

theorem Gr.E.lt {G : Gr} (hv : G.Valid) {u v : Nat} (h : G.E u v) : v < G.N := by
  obtain ⟨hu, i, h1, h2, rfl, _⟩ := h
  have := hv.le (u + 1) (by omega)
  exact hv.ends i (by omega)

theorem period_le {G : Gr} {cmp num P : Nat → Nat} {size : List Nat} (hv : G.Valid) (g : Good G cmp size) (hp : PInv G cmp num P (fun _ _ => True)) (c : Nat) (hc : c < size.length) (h0 : P c ≠ 0) : P c ≤ size[c] := by
  obtain ⟨u0, i0, hw0, hu0⟩ := hp.from_ c h0
  have hpl : ∃ p, p < G.N ∧ cmp p = c ∧ G.pl p = true := by
    refine Classical.byContradiction fun hn => h0 (hp.flat c fun u hu he => ?_)
    cases hpu : G.pl u with
    | false => rfl
    | true => exact absurd ⟨u, hu, he, hpu⟩ hn
  obtain ⟨p, hpN, hpc, hpp⟩ := hpl
  generalize hd : P c = d at h0 ⊢
  have hstep : ∀ u i, G.Within cmp u i → cmp u = c → num (G.to i) % d = (num u + G.wt u) % d := fun u i hw he => by
    have := hp.div u i hw trivial
    rw [he, hd] at this
    exact mod_of_dvd this
  have hback : ∀ x v, Reach G.E x v → cmp x = c → cmp v = c → (∃ y, y < G.N ∧ cmp y = c ∧ G.pl y = true ∧ num y % d = num v % d) → ∃ y, y < G.N ∧ cmp y = c ∧ G.pl y = true ∧ num y % d = num x % d := by
    intro x v hr
    induction hr using Reach.ind with
    | refl => intro _ _ h; exact h
    | @step v' x' h e ih =>
      intro hx hx' hy
      have h1 := g.mono _ _ e
      have h2 := g.down h
      have hv' : cmp v' = c := by omega
      refine ih hx hv' ?_
      cases hpv : G.pl v' with
      | true => exact ⟨v', e.1, hv', hpv, rfl⟩
      | false =>
        obtain ⟨y, y1, y2, y3, y4⟩ := hy
        refine ⟨y, y1, y2, y3, ?_⟩
        obtain ⟨hu, i, i1, i2, i3, _⟩ := e
        have := hstep v' i ⟨hu, i1, i2, by rw [i3, hx', hv']⟩ hv'
        rw [i3] at this
        rw [y4, this]
        unfold Gr.wt
        rw [hpv]
        rfl
  have hlead : ∀ x, x < G.N → cmp x = c → ∃ y, y < G.N ∧ cmp y = c ∧ G.pl y = true ∧ num y % d = num x % d := fun x hx he =>
    hback x p (g.same x p hx hpN (by rw [he, hpc])) he hpc ⟨p, hpN, hpc, hpp, rfl⟩
  have hout : ∀ v, v < G.N → cmp v = c → ∃ i, G.Within cmp v i := fun v hvN hvc => by
    by_cases hx : u0 = v
    · subst hx; exact ⟨i0, hw0⟩
    · obtain ⟨v1, e, hr⟩ := (g.same v u0 hvN hw0.1 (by rw [hvc, hu0])).first (Ne.symm hx)
      obtain ⟨hu, i, i1, i2, i3, i4⟩ := e
      have h1 := g.mono v v1 ⟨hu, i, i1, i2, i3, i4⟩
      have h2 := g.down hr
      exact ⟨i, hu, i1, i2, by rw [i3]; omega⟩
  have hall : ∀ k, ∃ y, y < G.N ∧ cmp y = c ∧ G.pl y = true ∧ num y % d = (num p + k) % d := by
    intro k
    induction k with
    | zero => exact ⟨p, hpN, hpc, hpp, rfl⟩
    | succ k ih =>
      obtain ⟨y, y1, y2, y3, y4⟩ := ih
      obtain ⟨i, hw⟩ := hout y y1 y2
      have hM := hv.le (y + 1) (by omega)
      have hto : G.to i < G.N := hv.ends i (by have := hw.2.2.1; omega)
      obtain ⟨z, q1, q2, q3, q4⟩ := hlead (G.to i) hto (by rw [hw.2.2.2, y2])
      refine ⟨z, q1, q2, q3, ?_⟩
      rw [q4, hstep y i hw y2]
      unfold Gr.wt
      rw [y3, if_pos rfl, ← Nat.add_assoc, ← Nat.mod_add_mod (num y), y4, Nat.mod_add_mod]
  let y : Nat → Nat := fun k => Classical.choose (hall k)
  have hy : ∀ k, y k < G.N ∧ cmp (y k) = c ∧ G.pl (y k) = true ∧ num (y k) % d = (num p + k) % d := fun k => Classical.choose_spec (hall k)
  have hne : ∀ j k, j < k → k < d → y j ≠ y k := fun j k hj hk he => by
    have h1 := (hy j).2.2.2
    have h2 := (hy k).2.2.2
    rw [he, h2] at h1
    have h3 := Nat.sub_mod_eq_zero_of_mod_eq h1
    rw [show num p + k - (num p + j) = k - j from by omega, Nat.mod_eq_of_lt (by omega)] at h3
    omega
  have hnd : ((List.range d).map y).Nodup := by
    rw [List.nodup_iff_pairwise_ne, List.pairwise_map]
    refine List.Pairwise.imp_of_mem ?_ (List.nodup_range (n := d))
    intro a b ha hb hab
    simp at ha hb
    rcases Nat.lt_or_gt_of_ne hab with h | h
    · exact hne a b h hb
    · exact (hne b a h ha).symm
  have hcm := countP_mem G.N (fun v => decide (cmp v = c) && G.pl v) _ hnd (fun x hx => by
    obtain ⟨k, _, rfl⟩ := List.mem_map.1 hx
    exact (hy k).1)
  have hfull : ((List.range d).map y).countP (fun v => decide (cmp v = c) && G.pl v) = d := by
    rw [List.countP_eq_length.2]
    · simp
    · intro x hx
      obtain ⟨k, _, rfl⟩ := List.mem_map.1 hx
      simp [(hy k).2.1, (hy k).2.2.1]
  rw [g.sizes c hc, ← hfull, ← hcm]
  refine List.countP_mono_left fun v _ h => ?_
  simp only [Bool.and_eq_true] at h ⊢
  exact h.2

/-- the steps ahead of step i of node n -/
def Before (n i u j : Nat) : Prop := u < n ∨ (u = n ∧ j < i)

theorem PInv.init (G : Gr) (cmp num : Nat → Nat) : PInv G cmp num (fun _ => 0) (Before 0 0) :=
  ⟨fun u i _ h => by rcases h with h | ⟨_, h⟩ <;> omega, fun c h => absurd rfl h, fun c _ => rfl, fun c => by omega⟩

theorem PInv.same {G : Gr} {cmp num P : Nat → Nat} {n i : Nat} (h : PInv G cmp num P (Before n i)) (hno : ¬ G.Within cmp n i) : PInv G cmp num P (Before n (i + 1)) :=
  ⟨fun u j hw hb => h.div u j hw (by
    rcases hb with hb | ⟨rfl, hb⟩
    · exact .inl hb
    · refine .inr ⟨rfl, ?_⟩
      by_cases hj : j = i
      · subst hj; exact absurd hw hno
      · omega), h.from_, h.flat, h.bound⟩

theorem PInv.row {G : Gr} {cmp num P : Nat → Nat} {n : Nat} (h : PInv G cmp num P (Before n (G.st (n + 1)))) : PInv G cmp num P (Before (n + 1) 0) :=
  ⟨fun u j hw hb => h.div u j hw (by
    rcases hb with hb | ⟨rfl, hb⟩
    · by_cases hu : u = n
      · subst hu; exact .inr ⟨rfl, hw.2.2.1⟩
      · exact .inl (by omega)
    · omega), h.from_, h.flat, h.bound⟩

theorem PInv.start {G : Gr} {cmp num P : Nat → Nat} {n i : Nat} (h : PInv G cmp num P (Before n 0)) (hi : i = G.st n) : PInv G cmp num P (Before n i) :=
  ⟨fun u j hw hb => h.div u j hw (by
    rcases hb with hb | ⟨rfl, hb⟩
    · exact .inl hb
    · have := hw.2.1; omega), h.from_, h.flat, h.bound⟩

theorem PInv.all {G : Gr} {cmp num P : Nat → Nat} (h : PInv G cmp num P (Before G.N 0)) : PInv G cmp num P (fun _ _ => True) :=
  ⟨fun u j hw _ => h.div u j hw (.inl hw.1), h.from_, h.flat, h.bound⟩

theorem gcd_bound (a b : Nat) (ha : a ≤ 262146) (hb : b ≤ 262146) : Nat.gcd a b ≤ 262146 := by
  by_cases h : a = 0
  · subst h; rw [Nat.gcd_zero_left]; exact hb
  · exact Nat.le_trans (Nat.gcd_le_left b (by omega)) ha

theorem PInv.put {G : Gr} {cmp num P : Nat → Nat} {n i : Nat} (h : PInv G cmp num P (Before n i)) (hw : G.Within cmp n i) (hb : (over G num n i).natAbs ≤ 262146)
    (hflat : G.Flat cmp (cmp n) → over G num n i = 0) :
    PInv G cmp num (upd P (cmp n) (Nat.gcd (P (cmp n)) (over G num n i).natAbs)) (Before n (i + 1)) := by
  refine ⟨fun u j hw' hbf => ?_, fun c hc => ?_, fun c hc => ?_, fun c => ?_⟩
  · by_cases he : cmp u = cmp n
    · rw [he, upd_same]
      by_cases hni : u = n ∧ j = i
      · obtain ⟨rfl, rfl⟩ := hni
        exact Int.ofNat_dvd_left.2 (Nat.gcd_dvd_right _ _)
      · have := h.div u j hw' (by
          rcases hbf with hb | ⟨rfl, hb⟩
          · exact .inl hb
          · exact .inr ⟨rfl, by omega⟩)
        rw [he] at this
        exact Int.dvd_trans (Int.ofNat_dvd.2 (Nat.gcd_dvd_left _ _)) this
    · rw [upd_other _ _ he]
      refine h.div u j hw' ?_
      rcases hbf with hb | ⟨rfl, hb⟩
      · exact .inl hb
      · exact absurd rfl he
  · by_cases he : c = cmp n
    · exact ⟨n, i, hw, he.symm⟩
    · rw [upd_other _ _ he] at hc
      exact h.from_ c hc
  · by_cases he : c = cmp n
    · subst he
      rw [upd_same, h.flat _ hc, hflat hc]
      rfl
    · rw [upd_other _ _ he]
      exact h.flat c hc
  · by_cases he : c = cmp n
    · subst he
      rw [upd_same]
      exact gcd_bound _ _ (h.bound _) hb
    · rw [upd_other _ _ he]
      exact h.bound c

/-- the numbering, half done -/
structure NInv (G : Gr) (cmp num : Nat → Nat) (nbd : Nat → Bool) (vis : List Nat) : Prop where
  nodup : vis.Nodup
  lt : ∀ v ∈ vis, v < G.N
  iff_ : ∀ v, nbd v = true ↔ v ∈ vis
  bound : ∀ v, num v ≤ vis.length
  flat : ∀ v, G.Flat cmp (cmp v) → num v = 0

theorem NInv.init (G : Gr) (cmp : Nat → Nat) : NInv G cmp (fun _ => 0) (fun _ => false) [] :=
  ⟨List.nodup_nil, fun v h => (by cases h), fun v => (by simp), fun v => Nat.zero_le _, fun v _ => rfl⟩

theorem NInv.len {G : Gr} {cmp num : Nat → Nat} {nbd : Nat → Bool} {vis : List Nat} (h : NInv G cmp num nbd vis) : vis.length ≤ G.N := nodup_le _ _ h.nodup h.lt

theorem NInv.root {G : Gr} {cmp num : Nat → Nat} {nbd : Nat → Bool} {vis : List Nat} (h : NInv G cmp num nbd vis) {r : Nat} (hr : r < G.N) (hn : nbd r = false) : NInv G cmp num (upd nbd r true) (r :: vis) := by
  have hnm : r ∉ vis := fun hm => by have := (h.iff_ r).2 hm; rw [hn] at this; cases this
  refine ⟨List.nodup_cons.2 ⟨hnm, h.nodup⟩, fun v hv => ?_, fun v => ?_, fun v => ?_, h.flat⟩
  · rcases List.mem_cons.1 hv with rfl | hv
    · exact hr
    · exact h.lt v hv
  · by_cases e : v = r
    · subst e; rw [upd_same]; simp
    · rw [upd_other _ _ e, h.iff_ v]; simp [e]
  · have := h.bound v
    simp; omega

theorem NInv.put {G : Gr} {cmp num : Nat → Nat} {nbd : Nat → Bool} {vis : List Nat} (h : NInv G cmp num nbd vis) {n m : Nat} (hn : n < G.N) (hm : m < G.N) (hc : cmp m = cmp n) (hnb : nbd m = false) :
    NInv G cmp (upd num m (num n + G.wt n)) (upd nbd m true) (m :: vis) := by
  have hr := h.root hm hnb
  refine ⟨hr.nodup, hr.lt, hr.iff_, fun v => ?_, fun v hf => ?_⟩
  · by_cases e : v = m
    · subst e
      rw [upd_same]
      have := h.bound n
      have hw : G.wt n ≤ 1 := by unfold Gr.wt; split <;> omega
      simp; omega
    · rw [upd_other _ _ e]
      exact hr.bound v
  · by_cases e : v = m
    · subst e
      rw [upd_same]
      rw [hc] at hf
      have h1 := h.flat n hf
      have h2 : G.wt n = 0 := by unfold Gr.wt; rw [hf n hn rfl]; rfl
      omega
    · rw [upd_other _ _ e]
      exact h.flat v hf

theorem NInv.over_zero {G : Gr} {cmp num : Nat → Nat} {nbd : Nat → Bool} {vis : List Nat} (h : NInv G cmp num nbd vis) {n i : Nat} (hw : G.Within cmp n i) (hf : G.Flat cmp (cmp n)) : over G num n i = 0 := by
  unfold over
  have h1 := h.flat n hf
  have h2 := h.flat (G.to i) (by rw [hw.2.2.2]; exact hf)
  have h3 : G.wt n = 0 := by unfold Gr.wt; rw [hf n hw.1 rfl]; rfl
  omega

theorem NInv.over_le {G : Gr} {cmp num : Nat → Nat} {nbd : Nat → Bool} {vis : List Nat} (h : NInv G cmp num nbd vis) (hN : G.N ≤ 131072) (n i : Nat) : (over G num n i).natAbs ≤ 262146 := by
  unfold over
  have h1 := h.bound n
  have h2 := h.bound (G.to i)
  have h3 := h.len
  have h4 : G.wt n ≤ 1 := by unfold Gr.wt; split <;> omega
  omega
end Go.Proofs.Qxb6602044a.Tj
