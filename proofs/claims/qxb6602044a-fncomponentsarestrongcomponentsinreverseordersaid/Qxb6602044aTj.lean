/-
  TARJAN's SEARCH, PLAIN: the state, its invariant, and that each step keeps it. No Go here.
-/
namespace Go.Proofs.Qxb6602044a.Tj
set_option linter.unusedVariables false

/-- x lies in every set that holds u and is closed under E -/
def Reach (E : Nat → Nat → Prop) (u x : Nat) : Prop := ∀ S : Nat → Prop, S u → (∀ v y, S v → E v y → S y) → S x

theorem Reach.refl {E : Nat → Nat → Prop} (u : Nat) : Reach E u u := fun S h _ => h
theorem Reach.step {E : Nat → Nat → Prop} {u v x : Nat} (h : Reach E u v) (e : E v x) : Reach E u x := fun S h0 hs => hs v x (h S h0 hs) e
theorem Reach.ind {E : Nat → Nat → Prop} {u : Nat} {motive : (x : Nat) → Reach E u x → Prop} (refl : motive u (Reach.refl u)) (step : ∀ {v x : Nat} (h : Reach E u v) (e : E v x), motive v h → motive x (h.step e)) {x : Nat} (t : Reach E u x) : motive x t := by
  obtain ⟨_, h⟩ := t (fun y => ∃ h : Reach E u y, motive y h) ⟨_, refl⟩ (fun v y ⟨h, hm⟩ e => ⟨_, step h e hm⟩)
  exact h

theorem Reach.one {E : Nat → Nat → Prop} {u v : Nat} (h : E u v) : Reach E u v := .step (.refl u) h
theorem Reach.trans {E : Nat → Nat → Prop} {u v x : Nat} (h : Reach E u v) (k : Reach E v x) : Reach E u x := by
  induction k using Reach.ind with
  | refl => exact h
  | step _ e ih => exact .step ih e
theorem Reach.mono {E F : Nat → Nat → Prop} (hs : ∀ u v, E u v → F u v) {u v : Nat} (h : Reach E u v) : Reach F u v := by
  induction h using Reach.ind with
  | refl => exact .refl _
  | step _ e ih => exact .step ih (hs _ _ e)

structure Gr where
  N : Nat
  M : Nat
  st : Nat → Nat
  to : Nat → Nat
  ok : Nat → Bool
  pl : Nat → Bool

structure Gr.Valid (G : Gr) : Prop where
  first : G.st 0 = 0
  last : G.st G.N = G.M
  mono : ∀ n, n < G.N → G.st n ≤ G.st (n + 1)
  ends : ∀ i, i < G.M → G.to i < G.N

def Gr.E (G : Gr) (u v : Nat) : Prop := u < G.N ∧ ∃ i, G.st u ≤ i ∧ i < G.st (u + 1) ∧ G.to i = v ∧ G.ok i = true

theorem Gr.Valid.le {G : Gr} (h : G.Valid) : ∀ n, n ≤ G.N → G.st n ≤ G.M := by
  intro n hn
  rw [← h.last]
  obtain ⟨k, hk⟩ : ∃ k, G.N = n + k := ⟨G.N - n, by omega⟩
  rw [hk]
  clear hn
  induction k generalizing n with
  | zero => exact Nat.le_refl _
  | succ k ih =>
    have h1 := h.mono n (by omega)
    have h2 := ih (n + 1) (by omega)
    rw [show n + (k + 1) = n + 1 + k from by omega]
    omega

structure St where
  idx : Nat → Nat
  low : Nat → Nat
  cmp : Nat → Nat
  on : Nat → Bool
  stack : List Nat
  path : List (Nat × Nat)
  reached : Nat
  size : List Nat
  vis : List Nat

def upd {α : Type} (f : Nat → α) (k : Nat) (a : α) : Nat → α := fun m => if m = k then a else f m

theorem upd_same {α : Type} (f : Nat → α) (k : Nat) (a : α) : upd f k a k = a := by simp [upd]
theorem upd_other {α : Type} (f : Nat → α) {k m : Nat} (a : α) (h : m ≠ k) : upd f k a m = f m := by simp [upd, h]

/-- step i of node v has been looked at -/
def Ex (G : Gr) (s : St) (v i : Nat) : Prop := s.idx v ≠ 0 ∧ G.st v ≤ i ∧ i < G.st (v + 1) ∧ ∀ p ∈ s.path, p.1 = v → i < p.2

structure Inv (G : Gr) (s : St) : Prop where
  visNodup : s.vis.Nodup
  visLen : s.vis.length = s.reached
  visIff : ∀ v, v ∈ s.vis ↔ s.idx v ≠ 0
  visLt : ∀ v, s.idx v ≠ 0 → v < G.N
  idxLe : ∀ v, s.idx v ≤ s.reached
  idxInj : ∀ u v, s.idx u ≠ 0 → s.idx u = s.idx v → u = v
  onIff : ∀ v, s.on v = true ↔ v ∈ s.stack
  stackVis : ∀ v ∈ s.stack, s.idx v ≠ 0
  sorted : s.stack.Pairwise (fun a b => s.idx b < s.idx a)
  pathOn : ∀ p ∈ s.path, p.1 ∈ s.stack
  pathSorted : s.path.Pairwise (fun a b => s.idx b.1 < s.idx a.1)
  pathPos : ∀ p ∈ s.path, G.st p.1 ≤ p.2 ∧ p.2 ≤ G.st (p.1 + 1)
  base : ∀ v ∈ s.stack, ∃ p ∈ s.path, s.idx p.1 ≤ s.idx v
  down : ∀ v ∈ s.stack, ∀ p ∈ s.path, s.idx p.1 ≤ s.idx v → Reach G.E p.1 v
  lowLe : ∀ p ∈ s.path, s.low p.1 ≤ s.idx p.1
  lowIs : ∀ p ∈ s.path, ∃ x ∈ s.stack, s.idx x = s.low p.1 ∧ Reach G.E p.1 x
  back : ∀ v ∈ s.stack, (∀ p ∈ s.path, p.1 ≠ v) → ∃ x ∈ s.stack, s.idx x < s.idx v ∧ Reach G.E v x
  exVis : ∀ v i, Ex G s v i → G.ok i = true → s.idx (G.to i) ≠ 0
  exOn : ∀ v i, Ex G s v i → G.ok i = true → v ∈ s.stack → G.to i ∈ s.stack → ∃ q ∈ s.path, s.low q.1 ≤ s.idx (G.to i) ∧ ∀ p ∈ s.path, s.idx p.1 ≤ s.idx v → s.idx p.1 ≤ s.idx q.1
  exOff : ∀ v i, Ex G s v i → G.ok i = true → v ∉ s.stack → G.to i ∉ s.stack ∧ s.cmp (G.to i) ≤ s.cmp v
  cmpLt : ∀ v, s.idx v ≠ 0 → v ∉ s.stack → s.cmp v < s.size.length
  same : ∀ u v, s.idx u ≠ 0 → s.idx v ≠ 0 → u ∉ s.stack → v ∉ s.stack → s.cmp u = s.cmp v → Reach G.E u v
  some_ : ∀ c, c < s.size.length → ∃ v, s.idx v ≠ 0 ∧ v ∉ s.stack ∧ s.cmp v = c
  sizes : ∀ c (h : c < s.size.length), s.size[c] = (List.range G.N).countP (fun v => decide (s.idx v ≠ 0) && !(s.on v) && decide (s.cmp v = c) && G.pl v)

def init (c0 : Nat → Nat) : St := ⟨fun _ => 0, fun _ => 0, c0, fun _ => false, [], [], 0, [], []⟩

theorem inv_init (G : Gr) (c0 : Nat → Nat) : Inv G (init c0) := by
  constructor <;> simp [init, Ex]

/-! ### a visit -/
def visit (G : Gr) (s : St) (r : Nat) : St :=
  { s with idx := upd s.idx r (s.reached + 1), low := upd s.low r (s.reached + 1), on := upd s.on r true, stack := r :: s.stack, path := (r, G.st r) :: s.path, reached := s.reached + 1, vis := r :: s.vis }

theorem inv_visit {G : Gr} (hG : G.Valid) {s : St} (h : Inv G s) {r : Nat} (hr : r < G.N) (hu : s.idx r = 0)
    (hp : ∀ p ∈ s.path, Reach G.E p.1 r) : Inv G (visit G s r) := by
  have hns : r ∉ s.stack := fun hm => h.stackVis r hm hu
  have hnp : ∀ p ∈ s.path, p.1 ≠ r := fun p hm e => hns (e ▸ h.pathOn p hm)
  have hoth : ∀ v, v ≠ r → upd s.idx r (s.reached + 1) v = s.idx v := fun v hv => upd_other _ _ hv
  have hlow : ∀ v, v ≠ r → upd s.low r (s.reached + 1) v = s.low v := fun v hv => upd_other _ _ hv
  have hsame : upd s.idx r (s.reached + 1) r = s.reached + 1 := upd_same _ _ _
  have hst : ∀ v ∈ s.stack, upd s.idx r (s.reached + 1) v = s.idx v := fun v hm => hoth v (fun e => hns (e ▸ hm))
  have hpt : ∀ p ∈ s.path, upd s.idx r (s.reached + 1) p.1 = s.idx p.1 := fun p hm => hoth _ (hnp p hm)
  have hlp : ∀ p ∈ s.path, upd s.low r (s.reached + 1) p.1 = s.low p.1 := fun p hm => hlow _ (hnp p hm)
  have hex : ∀ v i, Ex G (visit G s r) v i → v ≠ r ∧ Ex G s v i := by
    intro v i ⟨h1, h2, h3, h4⟩
    have hv : v ≠ r := by
      intro e
      subst e
      have := h4 (v, G.st v) (by simp [visit]) rfl
      exact absurd this (by simp; omega)
    refine ⟨hv, ?_, h2, h3, fun p hm e => h4 p (by simp [visit, hm]) e⟩
    have : (visit G s r).idx v = s.idx v := hoth v hv
    rw [← this]; exact h1
  constructor
  case visNodup => exact List.nodup_cons.2 ⟨fun hm => (h.visIff r).1 hm hu, h.visNodup⟩
  case visLen => simp [visit, h.visLen]
  case visIff =>
    intro v
    show v ∈ r :: s.vis ↔ upd s.idx r (s.reached + 1) v ≠ 0
    by_cases hv : v = r
    · subst hv; simp [hsame]
    · rw [hoth v hv, ← h.visIff v]; simp [hv]
  case visLt =>
    intro v
    show upd s.idx r (s.reached + 1) v ≠ 0 → _
    by_cases hv : v = r
    · subst hv; exact fun _ => hr
    · rw [hoth v hv]; exact h.visLt v
  case idxLe =>
    intro v
    show upd s.idx r (s.reached + 1) v ≤ s.reached + 1
    by_cases hv : v = r
    · subst hv; rw [hsame]; exact Nat.le_refl _
    · rw [hoth v hv]; have := h.idxLe v; omega
  case idxInj =>
    intro u v
    show upd s.idx r (s.reached + 1) u ≠ 0 → upd s.idx r (s.reached + 1) u = upd s.idx r (s.reached + 1) v → _
    have hu1 := h.idxLe u
    have hv1 := h.idxLe v
    by_cases e1 : u = r <;> by_cases e2 : v = r
    · intros; rw [e1, e2]
    · subst e1; rw [hsame, hoth v e2]; intro _ e; omega
    · subst e2; rw [hsame, hoth u e1]; intro _ e; omega
    · rw [hoth v e2, hoth u e1]; exact h.idxInj u v
  case onIff =>
    intro v
    show upd s.on r true v = true ↔ v ∈ r :: s.stack
    by_cases hv : v = r
    · subst hv; simp [upd_same]
    · rw [upd_other _ _ hv, h.onIff v]; simp [hv]
  case stackVis =>
    intro v hm
    show upd s.idx r (s.reached + 1) v ≠ 0
    rcases List.mem_cons.1 hm with rfl | hm
    · rw [hsame]; omega
    · rw [hst v hm]; exact h.stackVis v hm
  case sorted =>
    show (r :: s.stack).Pairwise (fun a b => upd s.idx r (s.reached + 1) b < upd s.idx r (s.reached + 1) a)
    refine List.pairwise_cons.2 ⟨fun b hb => ?_, ?_⟩
    · rw [hsame, hst b hb]; have := h.idxLe b; omega
    · exact h.sorted.imp_of_mem (fun ha hb hab => by rw [hst _ ha, hst _ hb]; exact hab)
  case pathOn =>
    intro p hm
    rcases List.mem_cons.1 hm with rfl | hm
    · exact List.mem_cons_self
    · exact List.mem_cons_of_mem _ (h.pathOn p hm)
  case pathSorted =>
    show ((r, G.st r) :: s.path).Pairwise (fun a b => upd s.idx r (s.reached + 1) b.1 < upd s.idx r (s.reached + 1) a.1)
    refine List.pairwise_cons.2 ⟨fun b hb => ?_, ?_⟩
    · show _ < upd s.idx r (s.reached + 1) r
      rw [hsame, hpt b hb]; have := h.idxLe b.1; omega
    · exact h.pathSorted.imp_of_mem (fun ha hb hab => by rw [hpt _ ha, hpt _ hb]; exact hab)
  case pathPos =>
    intro p hm
    rcases List.mem_cons.1 hm with rfl | hm
    · exact ⟨Nat.le_refl _, hG.mono r hr⟩
    · exact h.pathPos p hm
  case base =>
    intro v hm
    rcases List.mem_cons.1 hm with rfl | hm
    · exact ⟨(v, G.st v), List.mem_cons_self, Nat.le_refl _⟩
    · obtain ⟨p, hp, hle⟩ := h.base v hm
      refine ⟨p, List.mem_cons_of_mem _ hp, ?_⟩
      show upd s.idx r (s.reached + 1) p.1 ≤ upd s.idx r (s.reached + 1) v
      rw [hpt p hp, hst v hm]; exact hle
  case down =>
    intro v hm p hpm
    show upd s.idx r (s.reached + 1) p.1 ≤ upd s.idx r (s.reached + 1) v → _
    rcases List.mem_cons.1 hm with rfl | hm
    · rcases List.mem_cons.1 hpm with rfl | hpm
      · exact fun _ => .refl _
      · exact fun _ => hp p hpm
    · rcases List.mem_cons.1 hpm with rfl | hpm
      · show upd s.idx r (s.reached + 1) r ≤ _ → _
        rw [hsame, hst v hm]; have := h.idxLe v; intro; omega
      · rw [hpt p hpm, hst v hm]; exact h.down v hm p hpm
  case lowLe =>
    intro p hpm
    show upd s.low r (s.reached + 1) p.1 ≤ upd s.idx r (s.reached + 1) p.1
    rcases List.mem_cons.1 hpm with rfl | hpm
    · show upd s.low r (s.reached + 1) r ≤ upd s.idx r (s.reached + 1) r
      rw [hsame, upd_same]; exact Nat.le_refl _
    · rw [hpt p hpm, hlp p hpm]; exact h.lowLe p hpm
  case lowIs =>
    intro p hpm
    show ∃ x ∈ r :: s.stack, upd s.idx r (s.reached + 1) x = upd s.low r (s.reached + 1) p.1 ∧ _
    rcases List.mem_cons.1 hpm with rfl | hpm
    · exact ⟨r, List.mem_cons_self, by show _ = upd s.low r (s.reached + 1) r; rw [hsame, upd_same], .refl _⟩
    · obtain ⟨x, hx, he, hre⟩ := h.lowIs p hpm
      exact ⟨x, List.mem_cons_of_mem _ hx, by rw [hst x hx, hlp p hpm, he], hre⟩
  case back =>
    intro v hm hno
    show ∃ x ∈ r :: s.stack, upd s.idx r (s.reached + 1) x < upd s.idx r (s.reached + 1) v ∧ _
    rcases List.mem_cons.1 hm with rfl | hm
    · exact absurd rfl (hno (v, G.st v) List.mem_cons_self)
    · obtain ⟨x, hx, he, hre⟩ := h.back v hm (fun p hp => hno p (List.mem_cons_of_mem _ hp))
      exact ⟨x, List.mem_cons_of_mem _ hx, by rw [hst x hx, hst v hm]; exact he, hre⟩
  case exVis =>
    intro v i he hok
    obtain ⟨hv, he⟩ := hex v i he
    show upd s.idx r (s.reached + 1) (G.to i) ≠ 0
    have hx := h.exVis v i he hok
    have hne : G.to i ≠ r := fun e => hx (e ▸ hu)
    rw [hoth _ hne]; exact hx
  case exOn =>
    intro v i he hok hv ht
    obtain ⟨hvr, he⟩ := hex v i he
    have hx := h.exVis v i he hok
    have hne : G.to i ≠ r := fun e => hx (e ▸ hu)
    have hv' : v ∈ s.stack := (List.mem_cons.1 hv).resolve_left hvr
    have ht' : G.to i ∈ s.stack := (List.mem_cons.1 ht).resolve_left hne
    obtain ⟨q, hq, hq1, hq2⟩ := h.exOn v i he hok hv' ht'
    refine ⟨q, List.mem_cons_of_mem _ hq, ?_, ?_⟩
    · show upd s.low r (s.reached + 1) q.1 ≤ upd s.idx r (s.reached + 1) (G.to i)
      rw [hlp q hq, hst _ ht']; exact hq1
    · intro p hpm
      show upd s.idx r (s.reached + 1) p.1 ≤ upd s.idx r (s.reached + 1) v → upd s.idx r (s.reached + 1) p.1 ≤ upd s.idx r (s.reached + 1) q.1
      rcases List.mem_cons.1 hpm with rfl | hpm
      · show upd s.idx r (s.reached + 1) r ≤ _ → _
        rw [hsame, hst v hv']; have := h.idxLe v; intro; omega
      · rw [hpt p hpm, hst v hv', hpt q hq]; exact hq2 p hpm
  case exOff =>
    intro v i he hok hv
    obtain ⟨hvr, he⟩ := hex v i he
    have hx := h.exVis v i he hok
    have hne : G.to i ≠ r := fun e => hx (e ▸ hu)
    obtain ⟨h1, h2⟩ := h.exOff v i he hok (fun hm => hv (List.mem_cons_of_mem _ hm))
    exact ⟨fun hm => h1 ((List.mem_cons.1 hm).resolve_left hne), h2⟩
  case cmpLt =>
    intro v
    show upd s.idx r (s.reached + 1) v ≠ 0 → v ∉ r :: s.stack → _
    intro h1 h2
    simp only [List.mem_cons, not_or] at h2
    rw [hoth v h2.1] at h1
    exact h.cmpLt v h1 h2.2
  case same =>
    intro u v
    show upd s.idx r (s.reached + 1) u ≠ 0 → upd s.idx r (s.reached + 1) v ≠ 0 → u ∉ r :: s.stack → v ∉ r :: s.stack → _
    intro h1 h2 h3 h4
    simp only [List.mem_cons, not_or] at h3 h4
    rw [hoth u h3.1] at h1
    rw [hoth v h4.1] at h2
    exact h.same u v h1 h2 h3.2 h4.2
  case some_ =>
    intro c hc
    obtain ⟨v, h1, h2, h3⟩ := h.some_ c hc
    have hv : v ≠ r := fun e => h1 (e ▸ hu)
    refine ⟨v, ?_, ?_, h3⟩
    · show upd s.idx r (s.reached + 1) v ≠ 0
      rw [hoth v hv]; exact h1
    · show v ∉ r :: s.stack
      simp [hv, h2]
  case sizes =>
    intro c hc
    show s.size[c] = _
    rw [h.sizes c hc]
    apply List.countP_congr
    intro v _
    show _ ↔ (decide (upd s.idx r (s.reached + 1) v ≠ 0) && !(upd s.on r true v) && decide (s.cmp v = c) && G.pl v) = true
    by_cases hv : v = r
    · subst hv; simp [hu, upd_same]
    · rw [hoth v hv, upd_other _ _ hv]

/-! ### a step is looked at, and nothing is visited -/
def advance (s : St) (n i : Nat) (tl : List (Nat × Nat)) (lo : Nat → Nat) : St := { s with path := (n, i + 1) :: tl, low := lo }

/-- what a step that was just looked at asks -/
structure Looked (G : Gr) (s : St) (n i l : Nat) : Prop where
  vis : G.ok i = true → s.idx (G.to i) ≠ 0
  on : G.ok i = true → G.to i ∈ s.stack → l ≤ s.idx (G.to i)
  le : l ≤ s.low n
  is : ∃ x ∈ s.stack, s.idx x = l ∧ Reach G.E n x

theorem inv_advance {G : Gr} {s : St} (h : Inv G s) {n i l : Nat} {tl : List (Nat × Nat)} (hp : s.path = (n, i) :: tl) (hi : i < G.st (n + 1)) (hl : Looked G s n i l) :
    Inv G (advance s n i tl (upd s.low n l)) := by
  have hmem : ∀ p, p ∈ (n, i + 1) :: tl → ∃ q ∈ s.path, q.1 = p.1 ∧ q.2 ≤ p.2 ∧ p.2 ≤ q.2 + 1 ∧ (p.1 ≠ n → q = p) := by
    intro p hm
    rw [hp]
    rcases List.mem_cons.1 hm with rfl | hm
    · exact ⟨(n, i), List.mem_cons_self, rfl, by simp, by simp, by simp⟩
    · exact ⟨p, List.mem_cons_of_mem _ hm, rfl, Nat.le_refl _, by omega, fun _ => rfl⟩
  have hmem' : ∀ q ∈ s.path, ∃ p ∈ (n, i + 1) :: tl, p.1 = q.1 ∧ q.2 ≤ p.2 := by
    intro q hm
    rw [hp] at hm
    rcases List.mem_cons.1 hm with rfl | hm
    · exact ⟨(n, i + 1), List.mem_cons_self, rfl, by simp⟩
    · exact ⟨q, List.mem_cons_of_mem _ hm, rfl, Nat.le_refl _⟩
  have hps := h.pathSorted
  rw [hp] at hps
  have htl : ∀ p ∈ tl, s.idx p.1 < s.idx n := fun p hm => (List.pairwise_cons.1 hps).1 p hm
  have hnin : (n, i) ∈ s.path := by rw [hp]; exact List.mem_cons_self
  have hnst : n ∈ s.stack := h.pathOn _ hnin
  have hmax : ∀ p ∈ s.path, s.idx p.1 ≤ s.idx n := by
    intro p hm
    rw [hp] at hm
    rcases List.mem_cons.1 hm with rfl | hm
    · exact Nat.le_refl _
    · exact Nat.le_of_lt (htl p hm)
  have hlowle : ∀ v, upd s.low n l v ≤ s.low v := by
    intro v
    by_cases hv : v = n
    · subst hv; rw [upd_same]; exact hl.le
    · rw [upd_other _ _ hv]; exact Nat.le_refl _
  have hex : ∀ v j, Ex G (advance s n i tl (upd s.low n l)) v j → Ex G s v j ∨ (v = n ∧ j = i) := by
    intro v j ⟨h1, h2, h3, h4⟩
    by_cases hv : v = n ∧ j = i
    · exact .inr hv
    · left
      refine ⟨h1, h2, h3, fun q hm e => ?_⟩
      rw [hp] at hm
      rcases List.mem_cons.1 hm with rfl | hm
      · have := h4 (n, i + 1) (by simp [advance]) e
        simp at this e
        have hji : j ≠ i := fun hj => hv ⟨e.symm, hj⟩
        show j < i
        omega
      · exact h4 q (by simp [advance, hm]) e
  constructor
  case visNodup => exact h.visNodup
  case visLen => exact h.visLen
  case visIff => exact h.visIff
  case visLt => exact h.visLt
  case idxLe => exact h.idxLe
  case idxInj => exact h.idxInj
  case onIff => exact h.onIff
  case stackVis => exact h.stackVis
  case sorted => exact h.sorted
  case pathOn =>
    intro p hm
    obtain ⟨q, hq, e, _⟩ := hmem p hm
    rw [← e]; exact h.pathOn q hq
  case pathSorted =>
    show ((n, i + 1) :: tl).Pairwise (fun a b => s.idx b.1 < s.idx a.1)
    exact List.pairwise_cons.2 ⟨htl, (List.pairwise_cons.1 hps).2⟩
  case pathPos =>
    intro p hm
    rcases List.mem_cons.1 hm with rfl | hm
    · have := h.pathPos (n, i) hnin
      simp at this ⊢; omega
    · exact h.pathPos p (by rw [hp]; exact List.mem_cons_of_mem _ hm)
  case base =>
    intro v hm
    obtain ⟨q, hq, hle⟩ := h.base v hm
    obtain ⟨p, hpm, e, _⟩ := hmem' q hq
    exact ⟨p, hpm, by show s.idx p.1 ≤ _; rw [e]; exact hle⟩
  case down =>
    intro v hm p hpm
    obtain ⟨q, hq, e, _⟩ := hmem p hpm
    rw [← e]; exact h.down v hm q hq
  case lowLe =>
    intro p hpm
    obtain ⟨q, hq, e, _⟩ := hmem p hpm
    rw [← e]
    exact Nat.le_trans (hlowle q.1) (h.lowLe q hq)
  case lowIs =>
    intro p hpm
    obtain ⟨q, hq, e, _⟩ := hmem p hpm
    rw [← e]
    show ∃ x ∈ s.stack, s.idx x = upd s.low n l q.1 ∧ _
    by_cases hv : q.1 = n
    · rw [hv, upd_same]; exact hl.is
    · rw [upd_other _ _ hv]; exact h.lowIs q hq
  case back =>
    intro v hm hno
    refine h.back v hm (fun q hq e => ?_)
    obtain ⟨p, hpm, e', _⟩ := hmem' q hq
    exact hno p hpm (e'.trans e)
  case exVis =>
    intro v j he hok
    rcases hex v j he with he | ⟨rfl, rfl⟩
    · exact h.exVis v j he hok
    · exact hl.vis hok
  case exOn =>
    intro v j he hok hv ht
    rcases hex v j he with he | ⟨rfl, rfl⟩
    · obtain ⟨q, hq, hq1, hq2⟩ := h.exOn v j he hok hv ht
      obtain ⟨q', hq', e, _⟩ := hmem' q hq
      refine ⟨q', hq', ?_, ?_⟩
      · rw [e]; exact Nat.le_trans (hlowle q.1) hq1
      · intro p hpm hle
        obtain ⟨p', hp', e', _⟩ := hmem p hpm
        rw [e]
        have := hq2 p' hp'
        rw [e'] at this
        exact this hle
    · refine ⟨(v, j + 1), List.mem_cons_self, ?_, fun p _ hle => hle⟩
      show upd s.low v l v ≤ s.idx (G.to j)
      rw [upd_same]; exact hl.on hok ht
  case exOff =>
    intro v j he hok hv
    rcases hex v j he with he | ⟨rfl, rfl⟩
    · exact h.exOff v j he hok hv
    · exact absurd hnst hv
  case cmpLt => exact h.cmpLt
  case same => exact h.same
  case some_ => exact h.some_
  case sizes => exact h.sizes

/-! ### a node is done -/
theorem Inv.low_bottom {G : Gr} {s : St} (h : Inv G s) {n i : Nat} (hp : s.path = [(n, i)]) : s.low n = s.idx n := by
  have hin : (n, i) ∈ s.path := by rw [hp]; exact List.mem_cons_self
  obtain ⟨x, hx, he, _⟩ := h.lowIs _ hin
  obtain ⟨p, hpm, hle⟩ := h.base x hx
  rw [hp] at hpm
  have := List.mem_singleton.1 hpm
  subst this
  have := h.lowLe _ hin
  simp at *
  omega

/-- the node goes from the path, and stays on the stack: its parent takes over what it reaches -/
theorem inv_leave {G : Gr} {s : St} (h : Inv G s) {n i m j : Nat} {tl : List (Nat × Nat)} (hp : s.path = (n, i) :: (m, j) :: tl) (hi : i = G.st (n + 1)) (hlow : s.low n ≠ s.idx n) :
    Inv G { s with path := (m, j) :: tl, low := upd s.low m (min (s.low m) (s.low n)) } := by
  have hps := h.pathSorted
  rw [hp] at hps
  have htl : ∀ p ∈ (m, j) :: tl, s.idx p.1 < s.idx n := fun p hm => (List.pairwise_cons.1 hps).1 p hm
  have htl2 : ∀ p ∈ tl, s.idx p.1 < s.idx m := fun p hm => (List.pairwise_cons.1 (List.pairwise_cons.1 hps).2).1 p hm
  have hnin : (n, i) ∈ s.path := by rw [hp]; exact List.mem_cons_self
  have hmin : (m, j) ∈ s.path := by rw [hp]; simp
  have hsub : ∀ p ∈ (m, j) :: tl, p ∈ s.path := fun p hm => by rw [hp]; exact List.mem_cons_of_mem _ hm
  have hmax : ∀ p ∈ (m, j) :: tl, s.idx p.1 ≤ s.idx m := by
    intro p hm
    rcases List.mem_cons.1 hm with rfl | hm
    · exact Nat.le_refl _
    · exact Nat.le_of_lt (htl2 p hm)
  have hnst := h.pathOn _ hnin
  have hmst := h.pathOn _ hmin
  have hlowlt : s.low n < s.idx n := by have := h.lowLe _ hnin; simp at this; omega
  have hlowle : ∀ v, upd s.low m (min (s.low m) (s.low n)) v ≤ s.low v := by
    intro v
    by_cases hv : v = m
    · subst hv; rw [upd_same]; omega
    · rw [upd_other _ _ hv]; exact Nat.le_refl _
  have hmn : Reach G.E m n := h.down n hnst _ hmin (Nat.le_of_lt (htl _ List.mem_cons_self))
  have hex : ∀ v k, Ex G { s with path := (m, j) :: tl, low := upd s.low m (min (s.low m) (s.low n)) } v k → Ex G s v k := by
    intro v k ⟨h1, h2, h3, h4⟩
    refine ⟨h1, h2, h3, fun q hm e => ?_⟩
    rw [hp] at hm
    rcases List.mem_cons.1 hm with rfl | hm
    · simp at e; subst e; subst hi; exact h3
    · exact h4 q hm e
  constructor
  case visNodup => exact h.visNodup
  case visLen => exact h.visLen
  case visIff => exact h.visIff
  case visLt => exact h.visLt
  case idxLe => exact h.idxLe
  case idxInj => exact h.idxInj
  case onIff => exact h.onIff
  case stackVis => exact h.stackVis
  case sorted => exact h.sorted
  case pathOn => exact fun p hm => h.pathOn p (hsub p hm)
  case pathSorted => exact (List.pairwise_cons.1 hps).2
  case pathPos => exact fun p hm => h.pathPos p (hsub p hm)
  case base =>
    intro v hm
    obtain ⟨q, hq, hle⟩ := h.base v hm
    rw [hp] at hq
    rcases List.mem_cons.1 hq with rfl | hq
    · exact ⟨(m, j), List.mem_cons_self, Nat.le_trans (Nat.le_of_lt (htl _ List.mem_cons_self)) hle⟩
    · exact ⟨q, hq, hle⟩
  case down => exact fun v hm p hpm => h.down v hm p (hsub p hpm)
  case lowLe => exact fun p hm => Nat.le_trans (hlowle p.1) (h.lowLe p (hsub p hm))
  case lowIs =>
    intro p hpm
    show ∃ x ∈ s.stack, s.idx x = upd s.low m (min (s.low m) (s.low n)) p.1 ∧ _
    by_cases hv : p.1 = m
    · rw [hv, upd_same]
      rcases Nat.le_total (s.low m) (s.low n) with hle | hle
      · rw [Nat.min_eq_left hle]; exact h.lowIs _ hmin
      · rw [Nat.min_eq_right hle]
        obtain ⟨x, hx, he, hre⟩ := h.lowIs _ hnin
        exact ⟨x, hx, he, hmn.trans hre⟩
    · rw [upd_other _ _ hv]; exact h.lowIs p (hsub p hpm)
  case back =>
    intro v hm hno
    by_cases hv : v = n
    · subst hv
      obtain ⟨x, hx, he, hre⟩ := h.lowIs _ hnin
      exact ⟨x, hx, by show s.idx x < s.idx v; simp at he; omega, hre⟩
    · refine h.back v hm (fun q hq e => ?_)
      rw [hp] at hq
      rcases List.mem_cons.1 hq with rfl | hq
      · exact hv e.symm
      · exact hno q hq e
  case exVis => exact fun v k he hok => h.exVis v k (hex v k he) hok
  case exOn =>
    intro v k he hok hv ht
    obtain ⟨q, hq, hq1, hq2⟩ := h.exOn v k (hex v k he) hok hv ht
    rw [hp] at hq
    rcases List.mem_cons.1 hq with rfl | hq
    · refine ⟨(m, j), List.mem_cons_self, ?_, fun p hpm _ => hmax p hpm⟩
      show upd s.low m (min (s.low m) (s.low n)) m ≤ s.idx (G.to k)
      rw [upd_same]; simp at hq1; omega
    · exact ⟨q, hq, Nat.le_trans (hlowle q.1) hq1, fun p hpm hle => hq2 p (hsub p hpm) hle⟩
  case exOff => exact fun v k he hok => h.exOff v k (hex v k he) hok
  case cmpLt => exact h.cmpLt
  case same => exact h.same
  case some_ => exact h.some_
  case sizes => exact h.sizes
end Go.Proofs.Qxb6602044a.Tj
