import Derived.Test.Qxb6602044aTj2
namespace Go.Proofs.Qxb6602044a.Tj
set_option linter.unusedVariables false

theorem upd_self {α : Type} (f : Nat → α) (k : Nat) : upd f k (f k) = f := by
  funext m
  unfold upd
  split
  · next h => rw [h]
  · rfl

theorem mu_advance {G : Gr} {s : St} {n i : Nat} {tl : List (Nat × Nat)} {lo : Nat → Nat} (hp : s.path = (n, i) :: tl) (hi : i < G.st (n + 1)) : mu G (advance s n i tl lo) < mu G s := by
  show (G.N - s.reached) * (G.M + 2) + (((n, i + 1) :: tl).map (fun p => G.st (p.1 + 1) - p.2 + 1)).sum < (G.N - s.reached) * (G.M + 2) + (s.path.map (fun p => G.st (p.1 + 1) - p.2 + 1)).sum
  rw [hp]
  simp only [List.map_cons, List.sum_cons]
  omega

theorem mu_visit {G : Gr} (hG : G.Valid) {s : St} {r : Nat} (hr : r < G.N) (hre : s.reached < G.N) : mu G (visit G s r) < mu G s := by
  show (G.N - (s.reached + 1)) * (G.M + 2) + (((r, G.st r) :: s.path).map (fun p => G.st (p.1 + 1) - p.2 + 1)).sum < (G.N - s.reached) * (G.M + 2) + (s.path.map (fun p => G.st (p.1 + 1) - p.2 + 1)).sum
  simp only [List.map_cons, List.sum_cons]
  have h1 := hG.le (r + 1) (by omega)
  obtain ⟨k, hk⟩ : ∃ k, G.N - s.reached = k + 1 := ⟨G.N - s.reached - 1, by omega⟩
  rw [hk, show G.N - (s.reached + 1) = k from by omega, Nat.succ_mul]
  omega

theorem mu_done {G : Gr} {s s' : St} {n i : Nat} {tl : List (Nat × Nat)} (hp : s.path = (n, i) :: tl) (hp' : s'.path = tl) (hr : s'.reached = s.reached) : mu G s' < mu G s := by
  unfold mu
  rw [hp, hp', hr]
  simp only [List.map_cons, List.sum_cons]
  omega

/-- a step whose kind is not taken, or that leads to a node that is done -/
theorem Inv.looked_off {G : Gr} {s : St} (h : Inv G s) {n i : Nat} {tl : List (Nat × Nat)} (hp : s.path = (n, i) :: tl) (hv : G.ok i = true → s.idx (G.to i) ≠ 0) (hon : G.ok i = true → s.on (G.to i) = false) : Looked G s n i (s.low n) := by
  have hin : (n, i) ∈ s.path := by rw [hp]; exact List.mem_cons_self
  refine ⟨hv, fun hok hm => ?_, Nat.le_refl _, h.lowIs _ hin⟩
  have := (h.onIff _).2 hm
  rw [hon hok] at this
  cases this

/-- a step that leads to a node on the stack -/
theorem Inv.looked_on {G : Gr} {s : St} (h : Inv G s) {n i : Nat} {tl : List (Nat × Nat)} (hp : s.path = (n, i) :: tl) (hi : i < G.st (n + 1)) (hok : G.ok i = true) (hon : s.on (G.to i) = true) : Looked G s n i (min (s.low n) (s.idx (G.to i))) := by
  have hin : (n, i) ∈ s.path := by rw [hp]; exact List.mem_cons_self
  have hst := (h.onIff _).1 hon
  have hpos := h.pathPos _ hin
  have hnN := h.stack_lt (h.pathOn _ hin)
  refine ⟨fun _ => h.stackVis _ hst, fun _ _ => Nat.min_le_right _ _, Nat.min_le_left _ _, ?_⟩
  rcases Nat.le_total (s.low n) (s.idx (G.to i)) with hle | hle
  · rw [Nat.min_eq_left hle]; exact h.lowIs _ hin
  · rw [Nat.min_eq_right hle]
    exact ⟨_, hst, rfl, Reach.one ⟨hnN, i, hpos.1, hi, rfl, hok⟩⟩

/-- a step that leads to a node not yet reached: it is looked at, and the node visited -/
theorem Inv.visit_next {G : Gr} (hG : G.Valid) {s : St} (h : Inv G s) {n i : Nat} {tl : List (Nat × Nat)} (hp : s.path = (n, i) :: tl) (hi : i < G.st (n + 1)) (hok : G.ok i = true) (hM : i < G.M) (hu : s.idx (G.to i) = 0) :
    Inv G (visit G { s with path := (n, i + 1) :: tl } (G.to i)) := by
  have hin : (n, i) ∈ s.path := by rw [hp]; exact List.mem_cons_self
  have hpos := h.pathPos _ hin
  have hnN := h.stack_lt (h.pathOn _ hin)
  have hnst := h.pathOn _ hin
  -- the visit first, of the state as it was; then the step is looked at
  have hedge : G.E n (G.to i) := ⟨hnN, i, hpos.1, hi, rfl, hok⟩
  have hps := h.pathSorted
  have hmax : ∀ p ∈ s.path, s.idx p.1 ≤ s.idx n := by
    intro p hm
    rw [hp] at hm hps
    rcases List.mem_cons.1 hm with rfl | hm
    · exact Nat.le_refl _
    · exact Nat.le_of_lt ((List.pairwise_cons.1 hps).1 p hm)
  have hv := inv_visit hG h (hG.ends i hM) hu (fun p hm => .step (h.down n hnst p hm (hmax p hm)) hedge)
  have hne : ∀ p ∈ s.path, p.1 ≠ G.to i := fun p hm e => h.stackVis _ (h.pathOn p hm) (by rw [e]; exact hu)
  have hnr : n ≠ G.to i := hne _ hin
  have hlown : (visit G s (G.to i)).low n = s.low n := upd_other _ _ hnr
  have hidxn : (visit G s (G.to i)).idx n = s.idx n := upd_other _ _ hnr
  have hidxr : (visit G s (G.to i)).idx (G.to i) = s.reached + 1 := upd_same _ _ _
  have hex : ∀ v j, Ex G (visit G { s with path := (n, i + 1) :: tl } (G.to i)) v j → Ex G (visit G s (G.to i)) v j ∨ (v = n ∧ j = i) := by
    intro v j ⟨h1, h2, h3, h4⟩
    by_cases hvj : v = n ∧ j = i
    · exact .inr hvj
    · left
      refine ⟨h1, h2, h3, fun q hm e => ?_⟩
      have hm' : q = (G.to i, G.st (G.to i)) ∨ q ∈ s.path := List.mem_cons.1 hm
      rcases hm' with rfl | hm'
      · exact h4 _ List.mem_cons_self e
      · rw [hp] at hm'
        rcases List.mem_cons.1 hm' with rfl | hm'
        · have := h4 (n, i + 1) (List.mem_cons_of_mem _ List.mem_cons_self) e
          simp at this e
          have hji : j ≠ i := fun hj => hvj ⟨e.symm, hj⟩
          show j < i
          omega
        · exact h4 q (List.mem_cons_of_mem _ (List.mem_cons_of_mem _ hm')) e
  have hmem : ∀ p, p ∈ (visit G { s with path := (n, i + 1) :: tl } (G.to i)).path → ∃ q ∈ (visit G s (G.to i)).path, q.1 = p.1 := by
    intro p hm
    rcases List.mem_cons.1 hm with rfl | hm
    · exact ⟨_, List.mem_cons_self, rfl⟩
    · rcases List.mem_cons.1 hm with rfl | hm
      · exact ⟨(n, i), List.mem_cons_of_mem _ hin, rfl⟩
      · exact ⟨p, List.mem_cons_of_mem _ (by rw [hp]; exact List.mem_cons_of_mem _ hm), rfl⟩
  have hmem' : ∀ q ∈ (visit G s (G.to i)).path, ∃ p ∈ (visit G { s with path := (n, i + 1) :: tl } (G.to i)).path, p.1 = q.1 := by
    intro q hm
    rcases List.mem_cons.1 hm with rfl | hm
    · exact ⟨_, List.mem_cons_self, rfl⟩
    · rw [hp] at hm
      rcases List.mem_cons.1 hm with rfl | hm
      · exact ⟨(n, i + 1), List.mem_cons_of_mem _ List.mem_cons_self, rfl⟩
      · exact ⟨q, List.mem_cons_of_mem _ (List.mem_cons_of_mem _ hm), rfl⟩
  constructor
  case visNodup => exact hv.visNodup
  case visLen => exact hv.visLen
  case visIff => exact hv.visIff
  case visLt => exact hv.visLt
  case idxLe => exact hv.idxLe
  case idxInj => exact hv.idxInj
  case onIff => exact hv.onIff
  case stackVis => exact hv.stackVis
  case sorted => exact hv.sorted
  case pathOn =>
    intro p hm
    obtain ⟨q, hq, e⟩ := hmem p hm
    rw [← e]; exact hv.pathOn q hq
  case pathSorted =>
    have h1 := hv.pathSorted
    have h2 : ((G.to i, G.st (G.to i)) :: (n, i) :: tl).Pairwise (fun a b => (visit G s (G.to i)).idx b.1 < (visit G s (G.to i)).idx a.1) := by
      have : (visit G s (G.to i)).path = (G.to i, G.st (G.to i)) :: (n, i) :: tl := by show _ :: s.path = _; rw [hp]
      rw [this] at h1; exact h1
    obtain ⟨h3, h4⟩ := List.pairwise_cons.1 h2
    obtain ⟨h5, h6⟩ := List.pairwise_cons.1 h4
    refine List.pairwise_cons.2 ⟨fun b hb => ?_, List.pairwise_cons.2 ⟨h5, h6⟩⟩
    rcases List.mem_cons.1 hb with rfl | hb
    · exact h3 (n, i) List.mem_cons_self
    · exact h3 b (List.mem_cons_of_mem _ hb)
  case pathPos =>
    intro p hm
    rcases List.mem_cons.1 hm with rfl | hm
    · exact hv.pathPos _ List.mem_cons_self
    · rcases List.mem_cons.1 hm with rfl | hm
      · simp at hpos ⊢; omega
      · exact h.pathPos p (by rw [hp]; exact List.mem_cons_of_mem _ hm)
  case base =>
    intro v hm
    obtain ⟨q, hq, hle⟩ := hv.base v hm
    obtain ⟨p, hpm, e⟩ := hmem' q hq
    exact ⟨p, hpm, by rw [e]; exact hle⟩
  case down =>
    intro v hm p hpm
    obtain ⟨q, hq, e⟩ := hmem p hpm
    rw [← e]; exact hv.down v hm q hq
  case lowLe =>
    intro p hpm
    obtain ⟨q, hq, e⟩ := hmem p hpm
    rw [← e]; exact hv.lowLe q hq
  case lowIs =>
    intro p hpm
    obtain ⟨q, hq, e⟩ := hmem p hpm
    rw [← e]; exact hv.lowIs q hq
  case back =>
    intro v hm hno
    refine hv.back v hm (fun q hq e => ?_)
    obtain ⟨p, hpm, e'⟩ := hmem' q hq
    exact hno p hpm (e'.trans e)
  case exVis =>
    intro v j he hok'
    rcases hex v j he with he | ⟨rfl, rfl⟩
    · exact hv.exVis v j he hok'
    · show upd s.idx (G.to j) (s.reached + 1) (G.to j) ≠ 0
      rw [upd_same]; omega
  case exOn =>
    intro v j he hok' hvs ht
    rcases hex v j he with he | ⟨rfl, rfl⟩
    · obtain ⟨q, hq, hq1, hq2⟩ := hv.exOn v j he hok' hvs ht
      obtain ⟨q', hq', e⟩ := hmem' q hq
      refine ⟨q', hq', by rw [e]; exact hq1, fun p hpm hle => ?_⟩
      obtain ⟨p', hp', e'⟩ := hmem p hpm
      rw [e]
      have := hq2 p' hp'
      rw [e'] at this
      exact this hle
    · refine ⟨(v, j + 1), List.mem_cons_of_mem _ List.mem_cons_self, ?_, fun p _ hle => hle⟩
      show (visit G s (G.to j)).low v ≤ (visit G s (G.to j)).idx (G.to j)
      rw [hlown, hidxr]
      have h1 := h.lowLe _ hin
      have h2 := h.idxLe v
      simp at h1; omega
  case exOff =>
    intro v j he hok' hvs
    rcases hex v j he with he | ⟨rfl, rfl⟩
    · exact hv.exOff v j he hok' hvs
    · exact absurd (List.mem_cons_of_mem _ hnst) hvs
  case cmpLt => exact hv.cmpLt
  case same => exact hv.same
  case some_ => exact hv.some_
  case sizes => exact hv.sizes

/-- what the parent's low becomes when n leaves the path -/
def leaveLow (s : St) (n : Nat) (tl : List (Nat × Nat)) : Nat → Nat :=
  match tl with
  | [] => s.low
  | p :: _ => upd s.low p.1 (min (s.low p.1) (s.low n))

theorem Inv.parent_lt {G : Gr} {s : St} (h : Inv G s) {n i : Nat} {p : Nat × Nat} {tt : List (Nat × Nat)} (hp : s.path = (n, i) :: p :: tt) : s.idx p.1 < s.idx n := by
  have hps := h.pathSorted
  rw [hp] at hps
  exact (List.pairwise_cons.1 hps).1 p List.mem_cons_self

theorem Inv.leaveLow_n {G : Gr} {s : St} (h : Inv G s) {n i : Nat} {tl : List (Nat × Nat)} (hp : s.path = (n, i) :: tl) : leaveLow s n tl n = s.low n := by
  cases tl with
  | nil => rfl
  | cons p tt =>
    have := h.parent_lt hp
    exact upd_other _ _ (fun e => by rw [← e] at this; omega)

theorem Inv.leaveLow_root {G : Gr} {s : St} (h : Inv G s) {n i : Nat} {tl : List (Nat × Nat)} (hp : s.path = (n, i) :: tl) (hl : s.low n = s.idx n) : leaveLow s n tl = s.low := by
  cases tl with
  | nil => rfl
  | cons p tt =>
    have h1 := h.parent_lt hp
    have h2 := h.lowLe p (by rw [hp]; simp)
    show upd s.low p.1 (min (s.low p.1) (s.low n)) = s.low
    rw [Nat.min_eq_left (by omega), upd_self]

theorem Inv.leave {G : Gr} {s : St} (h : Inv G s) {n i : Nat} {tl : List (Nat × Nat)} (hp : s.path = (n, i) :: tl) (hi : i = G.st (n + 1)) (hl : s.low n ≠ s.idx n) : Inv G { s with path := tl, low := leaveLow s n tl } := by
  cases tl with
  | nil => exact absurd (h.low_bottom hp) hl
  | cons p tt => exact inv_leave h hp hi hl

/-- the state while a component goes from the stack -/
def popping (G : Gr) (s : St) (ps rest : List Nat) (tl : List (Nat × Nat)) : St :=
  { s with path := tl, stack := rest, on := fun v => if v ∈ ps then false else s.on v, cmp := fun v => if v ∈ ps then s.size.length else s.cmp v, size := s.size ++ [ps.countP G.pl] }

theorem popping_on (f : Nat → Bool) (ps : List Nat) (m : Nat) : upd (fun v => if v ∈ ps then false else f v) m false = fun v => if v ∈ ps ++ [m] then false else f v := by
  funext v
  unfold upd
  by_cases h : v = m
  · subst h; simp
  · simp [h]

theorem popping_cmp (f : Nat → Nat) (ps : List Nat) (m c : Nat) : upd (fun v => if v ∈ ps then c else f v) m c = fun v => if v ∈ ps ++ [m] then c else f v := by
  funext v
  unfold upd
  by_cases h : v = m
  · subst h; simp
  · simp [h]

theorem popping_nil (G : Gr) (s : St) (tl : List (Nat × Nat)) : popping G s [] s.stack tl = { s with path := tl, size := s.size ++ [0] } := by
  unfold popping
  simp

theorem popping_off {G : Gr} (s : St) (ps rest : List Nat) (tl : List (Nat × Nat)) {m : Nat} (h : G.pl m = false) :
    { popping G s ps (m :: rest) tl with stack := rest, on := upd (popping G s ps (m :: rest) tl).on m false, cmp := upd (popping G s ps (m :: rest) tl).cmp m s.size.length } = popping G s (ps ++ [m]) rest tl := by
  unfold popping
  simp only [popping_on, popping_cmp, List.countP_append]
  simp [h]

theorem popping_on1 {G : Gr} (s : St) (ps rest : List Nat) (tl : List (Nat × Nat)) {m : Nat} (h : G.pl m = true) :
    { popping G s ps (m :: rest) tl with stack := rest, on := upd (popping G s ps (m :: rest) tl).on m false, cmp := upd (popping G s ps (m :: rest) tl).cmp m s.size.length, size := s.size ++ [ps.countP G.pl + 1] } = popping G s (ps ++ [m]) rest tl := by
  unfold popping
  simp only [popping_on, popping_cmp, List.countP_append]
  simp [h]
end Go.Proofs.Qxb6602044a.Tj
