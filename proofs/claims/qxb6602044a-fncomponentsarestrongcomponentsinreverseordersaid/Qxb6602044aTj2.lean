import Derived.Test.Qxb6602044aTj
namespace Go.Proofs.Qxb6602044a.Tj
set_option linter.unusedVariables false

/-! ### numbers of nodes -/
theorem nodup_le : ∀ (N : Nat) (l : List Nat), l.Nodup → (∀ x ∈ l, x < N) → l.length ≤ N
  | 0, l, _, h => by
    cases l with
    | nil => exact Nat.le_refl _
    | cons a t => exact absurd (h a List.mem_cons_self) (by omega)
  | N + 1, l, hn, h => by
    have h1 := nodup_le N (l.erase N) (hn.erase N) (by
      intro x hx
      have hm := List.mem_of_mem_erase hx
      have := h x hm
      have hne : x ≠ N := by
        intro e
        subst e
        exact (List.Nodup.not_mem_erase hn) hx
      omega)
    have := List.length_erase (a := N) (l := l)
    rw [this] at h1
    split at h1 <;> omega

theorem countP_mem (N : Nat) (q : Nat → Bool) : ∀ (l : List Nat), l.Nodup → (∀ x ∈ l, x < N) → (List.range N).countP (fun v => decide (v ∈ l) && q v) = l.countP q
  | [], _, _ => by simp
  | a :: t, hn, h => by
    have hn' := List.nodup_cons.1 hn
    have ih := countP_mem N q t hn'.2 (fun x hx => h x (List.mem_cons_of_mem _ hx))
    rw [List.countP_cons, ← ih]
    have ha := h a List.mem_cons_self
    have key : ∀ M, (List.range M).countP (fun v => decide (v ∈ a :: t) && q v) = (List.range M).countP (fun v => decide (v ∈ t) && q v) + if a < M ∧ q a = true then 1 else 0 := by
      intro M
      induction M with
      | zero => simp
      | succ M ihM =>
        rw [List.range_succ, List.countP_append, List.countP_append, ihM]
        simp only [List.countP_singleton]
        by_cases e : M = a
        · subst e
          have : M ∉ t := hn'.1
          by_cases hq : q M <;> simp [this, hq]
        · have e' : a < M + 1 ↔ a < M := by omega
          by_cases hm : M ∈ t <;> by_cases hq : q M <;> simp [e, hm, hq, e'] <;> omega
    rw [key N]
    by_cases hq : q a <;> simp [ha, hq]

theorem Inv.reached_le {G : Gr} {s : St} (h : Inv G s) : s.reached ≤ G.N := by
  rw [← h.visLen]
  exact nodup_le _ _ h.visNodup (fun x hx => h.visLt x ((h.visIff x).1 hx))

theorem Inv.reached_lt {G : Gr} {s : St} (h : Inv G s) {r : Nat} (hr : r < G.N) (hu : s.idx r = 0) : s.reached < G.N := by
  have := nodup_le G.N (r :: s.vis) (List.nodup_cons.2 ⟨fun hm => (h.visIff r).1 hm hu, h.visNodup⟩) (by
    intro x hx
    rcases List.mem_cons.1 hx with rfl | hx
    · exact hr
    · exact h.visLt x ((h.visIff x).1 hx))
  rw [List.length_cons, h.visLen] at this
  omega

theorem pw_weaker {α : Type} {R S : α → α → Prop} (hi : ∀ {a b : α}, R a b → S a b) : ∀ {l : List α}, l.Pairwise R → l.Pairwise S
  | [], _ => List.Pairwise.nil
  | _ :: _, h => List.pairwise_cons.2 ⟨fun b hb => hi ((List.pairwise_cons.1 h).1 b hb), pw_weaker hi (List.pairwise_cons.1 h).2⟩

theorem Inv.stack_nodup {G : Gr} {s : St} (h : Inv G s) : s.stack.Nodup :=
  pw_weaker (fun {a b} hab e => by subst e; omega) h.sorted

theorem Inv.stack_lt {G : Gr} {s : St} (h : Inv G s) {v : Nat} (hv : v ∈ s.stack) : v < G.N := h.visLt v (h.stackVis v hv)

theorem Inv.stack_len {G : Gr} {s : St} (h : Inv G s) : s.stack.length ≤ G.N := nodup_le _ _ h.stack_nodup (fun _ hv => h.stack_lt hv)

theorem Inv.path_len {G : Gr} {s : St} (h : Inv G s) : s.path.length ≤ G.N := by
  have := nodup_le G.N (s.path.map Prod.fst) (by
    rw [List.nodup_iff_pairwise_ne, List.pairwise_map]
    exact pw_weaker (fun {a b} hab e => by rw [e] at hab; omega) h.pathSorted) (by
    intro x hx
    obtain ⟨p, hp, rfl⟩ := List.mem_map.1 hx
    exact h.stack_lt (h.pathOn p hp))
  simpa using this

theorem Inv.size_len {G : Gr} {s : St} (h : Inv G s) : s.size.length ≤ G.N := by
  have hf : ∀ c, ∃ v, c < s.size.length → s.idx v ≠ 0 ∧ v ∉ s.stack ∧ s.cmp v = c := by
    intro c
    by_cases hc : c < s.size.length
    · obtain ⟨v, hv⟩ := h.some_ c hc
      exact ⟨v, fun _ => hv⟩
    · exact ⟨0, fun hc' => absurd hc' hc⟩
  obtain ⟨f, hf⟩ := Classical.axiomOfChoice hf
  have := nodup_le G.N ((List.range s.size.length).map f) (by
    rw [List.nodup_iff_pairwise_ne, List.pairwise_map]
    refine List.nodup_range.imp_of_mem (fun {a b} ha hb hab e => hab ?_)
    rw [← (hf a (by simpa using ha)).2.2, ← (hf b (by simpa using hb)).2.2, e]) (by
    intro x hx
    obtain ⟨c, hc, rfl⟩ := List.mem_map.1 hx
    exact h.visLt _ (hf c (by simpa using hc)).1)
  simpa using this

/-! ### a component goes from the stack -/
theorem Inv.to_path {G : Gr} {s : St} (h : Inv G s) : ∀ k v, s.idx v < k → v ∈ s.stack → ∃ p ∈ s.path, Reach G.E v p.1
  | 0, v, hk, _ => absurd hk (by omega)
  | k + 1, v, hk, hv => by
    by_cases hp : ∃ p ∈ s.path, p.1 = v
    · obtain ⟨p, hp, e⟩ := hp
      exact ⟨p, hp, by rw [e]; exact .refl _⟩
    · obtain ⟨x, hx, hlt, hre⟩ := h.back v hv (fun p hpm e => hp ⟨p, hpm, e⟩)
      obtain ⟨p, hpm, hre2⟩ := h.to_path k x (by omega) hx
      exact ⟨p, hpm, hre.trans hre2⟩

def pop (G : Gr) (s : St) (ps rest : List Nat) (tl : List (Nat × Nat)) : St :=
  { s with path := tl, stack := rest, on := fun v => if v ∈ ps then false else s.on v, cmp := fun v => if v ∈ ps then s.size.length else s.cmp v, size := s.size ++ [ps.countP G.pl] }

theorem inv_pop {G : Gr} {s : St} (h : Inv G s) {n i : Nat} {tl : List (Nat × Nat)} {ps rest : List Nat} (hp : s.path = (n, i) :: tl) (hi : i = G.st (n + 1)) (hlow : s.low n = s.idx n)
    (hst : s.stack = ps ++ n :: rest) : Inv G (pop G s (ps ++ [n]) rest tl) := by
  have hst' : s.stack = (ps ++ [n]) ++ rest := by rw [hst]; simp
  have hsrt := h.sorted
  rw [hst] at hsrt
  have hsrt1 := List.pairwise_append.1 hsrt
  have hps : ∀ v ∈ ps, s.idx n < s.idx v := fun v hv => hsrt1.2.2 v hv n List.mem_cons_self
  have hrest : ∀ v ∈ rest, s.idx v < s.idx n := fun v hv => (List.pairwise_cons.1 hsrt1.2.1).1 v hv
  have hin : ∀ v ∈ ps ++ [n], s.idx n ≤ s.idx v := by
    intro v hv
    rcases List.mem_append.1 hv with hv | hv
    · exact Nat.le_of_lt (hps v hv)
    · rw [List.mem_singleton.1 hv]; exact Nat.le_refl _
  have hmem : ∀ v, v ∈ s.stack ↔ v ∈ ps ++ [n] ∨ v ∈ rest := by intro v; rw [hst']; exact List.mem_append
  have hdis : ∀ v, v ∈ rest → v ∉ ps ++ [n] := fun v h1 h2 => by have := hrest v h1; have := hin v h2; omega
  have hlo : ∀ v ∈ s.stack, s.idx v < s.idx n → v ∈ rest := fun v hv hlt => ((hmem v).1 hv).resolve_left (fun h2 => by have := hin v h2; omega)
  have hhi : ∀ v ∈ s.stack, s.idx n ≤ s.idx v → v ∈ ps ++ [n] := fun v hv hle => ((hmem v).1 hv).resolve_right (fun h2 => by have := hrest v h2; omega)
  have hpsrt := h.pathSorted
  rw [hp] at hpsrt
  have htl : ∀ p ∈ tl, s.idx p.1 < s.idx n := fun p hm => (List.pairwise_cons.1 hpsrt).1 p hm
  have hnin : (n, i) ∈ s.path := by rw [hp]; exact List.mem_cons_self
  have hnst : n ∈ s.stack := h.pathOn _ hnin
  have hsub : ∀ p ∈ tl, p ∈ s.path := fun p hm => by rw [hp]; exact List.mem_cons_of_mem _ hm
  have hmax : ∀ p ∈ s.path, s.idx p.1 ≤ s.idx n := by
    intro p hm
    rw [hp] at hm
    rcases List.mem_cons.1 hm with rfl | hm
    · exact Nat.le_refl _
    · exact Nat.le_of_lt (htl p hm)
  have hup : ∀ v ∈ s.stack, Reach G.E v n := by
    intro v hv
    obtain ⟨p, hpm, hre⟩ := h.to_path (s.idx v + 1) v (by omega) hv
    exact hre.trans (h.down n hnst p hpm (hmax p hpm))
  have hdn : ∀ v ∈ ps ++ [n], Reach G.E n v := fun v hv => h.down v ((hmem v).2 (.inl hv)) _ hnin (hin v hv)
  have hex : ∀ v k, Ex G (pop G s (ps ++ [n]) rest tl) v k → Ex G s v k := by
    intro v k ⟨h1, h2, h3, h4⟩
    refine ⟨h1, h2, h3, fun q hm e => ?_⟩
    rw [hp] at hm
    rcases List.mem_cons.1 hm with rfl | hm
    · simp at e; subst e; subst hi; exact h3
    · exact h4 q hm e
  have hedge : ∀ v k, v ∈ ps ++ [n] → Ex G s v k → G.ok k = true → G.to k ∈ s.stack → G.to k ∈ ps ++ [n] := by
    intro v k hv he hok ht
    obtain ⟨q, hq, hq1, hq2⟩ := h.exOn v k he hok ((hmem v).2 (.inl hv)) ht
    have h1 := hq2 _ hnin (hin v hv)
    have h2 := hmax q hq
    have h3 : s.idx q.1 = s.idx n := Nat.le_antisymm h2 h1
    have h4 := h.idxInj q.1 n (h.stackVis _ (h.pathOn q hq)) h3
    rw [h4, hlow] at hq1
    exact hhi _ ht hq1
  constructor
  case visNodup => exact h.visNodup
  case visLen => exact h.visLen
  case visIff => exact h.visIff
  case visLt => exact h.visLt
  case idxLe => exact h.idxLe
  case idxInj => exact h.idxInj
  case onIff =>
    intro v
    show (if v ∈ ps ++ [n] then false else s.on v) = true ↔ v ∈ rest
    by_cases hv : v ∈ ps ++ [n]
    · rw [if_pos hv]
      constructor
      · intro e; cases e
      · intro e; exact absurd hv (hdis v e)
    · rw [if_neg hv, h.onIff v, hmem v]
      constructor
      · intro e; exact e.resolve_left hv
      · exact .inr
  case stackVis => exact fun v hv => h.stackVis v ((hmem v).2 (.inr hv))
  case sorted => exact (List.pairwise_cons.1 hsrt1.2.1).2
  case pathOn => exact fun p hm => hlo _ (h.pathOn p (hsub p hm)) (htl p hm)
  case pathSorted => exact (List.pairwise_cons.1 hpsrt).2
  case pathPos => exact fun p hm => h.pathPos p (hsub p hm)
  case base =>
    intro v hv
    obtain ⟨q, hq, hle⟩ := h.base v ((hmem v).2 (.inr hv))
    have := hrest v hv
    rw [hp] at hq
    rcases List.mem_cons.1 hq with rfl | hq
    · simp at hle; omega
    · exact ⟨q, hq, hle⟩
  case down => exact fun v hv p hpm => h.down v ((hmem v).2 (.inr hv)) p (hsub p hpm)
  case lowLe => exact fun p hm => h.lowLe p (hsub p hm)
  case lowIs =>
    intro p hm
    obtain ⟨x, hx, he, hre⟩ := h.lowIs p (hsub p hm)
    have h1 := h.lowLe p (hsub p hm)
    have h2 := htl p hm
    exact ⟨x, hlo x hx (by omega), he, hre⟩
  case back =>
    intro v hv hno
    have hvn := hrest v hv
    obtain ⟨x, hx, he, hre⟩ := h.back v ((hmem v).2 (.inr hv)) (by
      intro q hq e
      rw [hp] at hq
      rcases List.mem_cons.1 hq with rfl | hq
      · simp at e; subst e; omega
      · exact hno q hq e)
    exact ⟨x, hlo x hx (by omega), he, hre⟩
  case exVis => exact fun v k he hok => h.exVis v k (hex v k he) hok
  case exOn =>
    intro v k he hok hv ht
    obtain ⟨q, hq, hq1, hq2⟩ := h.exOn v k (hex v k he) hok ((hmem v).2 (.inr hv)) ((hmem _).2 (.inr ht))
    rw [hp] at hq
    rcases List.mem_cons.1 hq with rfl | hq
    · have := hrest _ ht
      simp at hq1; omega
    · exact ⟨q, hq, hq1, fun p hpm hle => hq2 p (hsub p hpm) hle⟩
  case exOff =>
    intro v k he hok hv
    have he' := hex v k he
    show G.to k ∉ rest ∧ (if G.to k ∈ ps ++ [n] then s.size.length else s.cmp (G.to k)) ≤ (if v ∈ ps ++ [n] then s.size.length else s.cmp v)
    by_cases hvp : v ∈ ps ++ [n]
    · rw [if_pos hvp]
      by_cases htk : G.to k ∈ s.stack
      · have := hedge v k hvp he' hok htk
        exact ⟨fun hr => hdis _ hr this, by rw [if_pos this]; exact Nat.le_refl _⟩
      · refine ⟨fun hr => htk ((hmem _).2 (.inr hr)), ?_⟩
        rw [if_neg (fun hr => htk ((hmem _).2 (.inl hr)))]
        exact Nat.le_of_lt (h.cmpLt _ (h.exVis v k he' hok) htk)
    · have hvs : v ∉ s.stack := fun hm => ((hmem v).1 hm).elim hvp hv
      obtain ⟨h1, h2⟩ := h.exOff v k he' hok hvs
      refine ⟨fun hr => h1 ((hmem _).2 (.inr hr)), ?_⟩
      rw [if_neg (fun hr => h1 ((hmem _).2 (.inl hr))), if_neg hvp]
      exact h2
  case cmpLt =>
    intro v h1 h2
    show (if v ∈ ps ++ [n] then s.size.length else s.cmp v) < (s.size ++ [(ps ++ [n]).countP G.pl]).length
    rw [List.length_append]
    by_cases hvp : v ∈ ps ++ [n]
    · rw [if_pos hvp]; simp
    · rw [if_neg hvp]
      have := h.cmpLt v h1 (fun hm => ((hmem v).1 hm).elim hvp h2)
      simp; omega
  case same =>
    intro u v h1 h2 h3 h4
    show (if u ∈ ps ++ [n] then s.size.length else s.cmp u) = (if v ∈ ps ++ [n] then s.size.length else s.cmp v) → _
    by_cases hup' : u ∈ ps ++ [n] <;> by_cases hvp : v ∈ ps ++ [n]
    · exact fun _ => (hup u ((hmem u).2 (.inl hup'))).trans (hdn v hvp)
    · rw [if_pos hup', if_neg hvp]
      have := h.cmpLt v h2 (fun hm => ((hmem v).1 hm).elim hvp h4)
      intro; omega
    · rw [if_neg hup', if_pos hvp]
      have := h.cmpLt u h1 (fun hm => ((hmem u).1 hm).elim hup' h3)
      intro; omega
    · rw [if_neg hup', if_neg hvp]
      exact h.same u v h1 h2 (fun hm => ((hmem u).1 hm).elim hup' h3) (fun hm => ((hmem v).1 hm).elim hvp h4)
  case some_ =>
    intro c hc
    show ∃ v, s.idx v ≠ 0 ∧ v ∉ rest ∧ (if v ∈ ps ++ [n] then s.size.length else s.cmp v) = c
    by_cases hc' : c < s.size.length
    · obtain ⟨v, h1, h2, h3⟩ := h.some_ c hc'
      exact ⟨v, h1, fun hr => h2 ((hmem v).2 (.inr hr)), by rw [if_neg (fun hr => h2 ((hmem v).2 (.inl hr)))]; exact h3⟩
    · have hn : n ∈ ps ++ [n] := by simp
      refine ⟨n, h.stackVis n hnst, fun hr => hdis n hr hn, ?_⟩
      rw [if_pos hn]
      simp [pop] at hc
      omega
  case sizes =>
    intro c hc0
    have hc : c < (s.size ++ [(ps ++ [n]).countP G.pl]).length := hc0
    show (s.size ++ [(ps ++ [n]).countP G.pl])[c]'hc = (List.range G.N).countP (fun v => decide (s.idx v ≠ 0) && !(if v ∈ ps ++ [n] then false else s.on v) && decide ((if v ∈ ps ++ [n] then s.size.length else s.cmp v) = c) && G.pl v)
    by_cases hc' : c < s.size.length
    · rw [List.getElem_append_left hc', h.sizes c hc']
      apply List.countP_congr
      intro v _
      by_cases hvp : v ∈ ps ++ [n]
      · have hon : s.on v = true := (h.onIff v).2 ((hmem v).2 (.inl hvp))
        have : ¬ s.size.length = c := by omega
        simp only [if_pos hvp, hon, this]; simp
      · simp only [if_neg hvp]
    · have hcl : c = s.size.length := by simp at hc; omega
      subst hcl
      rw [List.getElem_append_right (Nat.le_refl _)]
      simp only [Nat.sub_self, List.getElem_cons_zero]
      rw [← countP_mem G.N G.pl (ps ++ [n])]
      · apply List.countP_congr
        intro v _
        by_cases hvp : v ∈ ps ++ [n]
        · have hid := h.stackVis v ((hmem v).2 (.inl hvp))
          simp only [if_pos hvp]
          simp [hid]
          intro _
          exact by simpa using hvp
        · simp only [if_neg hvp]
          constructor
          · intro e; simp at e; exact absurd (by simpa using e.1) hvp
          · intro e
            simp at e
            exfalso
            have hns : v ∉ s.stack := fun hm => by
              have := (h.onIff v).2 hm
              simp [this] at e
            have := h.cmpLt v e.1.1.1 hns
            omega
      · have := h.stack_nodup
        rw [hst'] at this
        exact (List.nodup_append.1 this).1
      · intro x hx
        exact h.stack_lt ((hmem x).2 (.inl hx))

/-! ### how many rounds are to come -/
def mu (G : Gr) (s : St) : Nat := (G.N - s.reached) * (G.M + 2) + (s.path.map (fun p => G.st (p.1 + 1) - p.2 + 1)).sum

/-! ### what stands at the end -/
structure Good (G : Gr) (cmp : Nat → Nat) (size : List Nat) : Prop where
  lt : ∀ v, v < G.N → cmp v < size.length
  mono : ∀ u v, G.E u v → cmp v ≤ cmp u
  same : ∀ u v, u < G.N → v < G.N → cmp u = cmp v → Reach G.E u v
  some_ : ∀ c, c < size.length → ∃ v, v < G.N ∧ cmp v = c
  sizes : ∀ c (h : c < size.length), size[c] = (List.range G.N).countP (fun v => decide (cmp v = c) && G.pl v)

theorem Inv.good {G : Gr} {s : St} (h : Inv G s) (hp : s.path = []) (hall : ∀ v, v < G.N → s.idx v ≠ 0) : Good G s.cmp s.size ∧ s.size.length ≤ G.N := by
  have hst : s.stack = [] := by
    cases hs : s.stack with
    | nil => rfl
    | cons a t =>
      obtain ⟨p, hpm, _⟩ := h.base a (by rw [hs]; exact List.mem_cons_self)
      rw [hp] at hpm; cases hpm
  have hoff : ∀ v, v ∉ s.stack := fun v hm => by rw [hst] at hm; cases hm
  refine ⟨⟨fun v hv => h.cmpLt v (hall v hv) (hoff v), ?_, fun u v hu hv => h.same u v (hall u hu) (hall v hv) (hoff u) (hoff v), ?_, ?_⟩, h.size_len⟩
  · rintro u v ⟨hu, i, h1, h2, rfl, hok⟩
    exact (h.exOff u i ⟨hall u hu, h1, h2, fun p hm => by rw [hp] at hm; cases hm⟩ hok (hoff u)).2
  · intro c hc
    obtain ⟨v, h1, _, h3⟩ := h.some_ c hc
    exact ⟨v, h.visLt v h1, h3⟩
  · intro c hc
    rw [h.sizes c hc]
    apply List.countP_congr
    intro v hv
    have hon : s.on v = false := by
      cases e : s.on v with
      | false => rfl
      | true => exact absurd ((h.onIff v).1 e) (hoff v)
    have := hall v (by simpa using hv)
    simp [this, hon]
end Go.Proofs.Qxb6602044a.Tj
