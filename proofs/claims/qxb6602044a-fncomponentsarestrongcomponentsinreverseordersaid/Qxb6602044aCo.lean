/-
  LETTING MORE STEPS IN ONLY MERGES CLASSES: PLAIN.
-/
import Derived.Test.Qxb6602044aTj2
namespace Go.Proofs.Qxb6602044a.Tj
set_option linter.unusedVariables false

structure Wider (A B : Gr) : Prop where
  N : A.N = B.N
  st : A.st = B.st
  to : A.to = B.to
  pl : A.pl = B.pl
  ok : ∀ i, A.ok i = true → B.ok i = true

theorem Wider.edge {A B : Gr} (h : Wider A B) (u v : Nat) (e : A.E u v) : B.E u v := by
  obtain ⟨hu, i, h1, h2, h3, h4⟩ := e
  exact ⟨h.N ▸ hu, i, h.st ▸ h1, h.st ▸ h2, h.to ▸ h3, h.ok i h4⟩

theorem Good.down {G : Gr} {cmp : Nat → Nat} {size : List Nat} (g : Good G cmp size) {u v : Nat} (h : Reach G.E u v) : cmp v ≤ cmp u := by
  induction h using Reach.ind with
  | refl => exact Nat.le_refl _
  | step _ e ih => exact Nat.le_trans (g.mono _ _ e) ih

theorem coarse {A B : Gr} {ca cb : Nat → Nat} {sa sb : List Nat} (hw : Wider A B) (ga : Good A ca sa) (gb : Good B cb sb) {u v : Nat} (hu : u < A.N) (hv : v < A.N) (he : ca u = ca v) : cb u = cb v :=
  Nat.le_antisymm (gb.down ((ga.same v u hv hu he.symm).mono hw.edge)) (gb.down ((ga.same u v hu hv he).mono hw.edge))

theorem coarse_len {A B : Gr} {ca cb : Nat → Nat} {sa sb : List Nat} (hw : Wider A B) (ga : Good A ca sa) (gb : Good B cb sb) : sb.length ≤ sa.length := by
  have hex : ∀ c, ∃ v, c < sb.length → v < B.N ∧ cb v = c := fun c => by
    by_cases h : c < sb.length
    · obtain ⟨v, hv⟩ := gb.some_ c h
      exact ⟨v, fun _ => hv⟩
    · exact ⟨0, fun h' => absurd h' h⟩
  let r : Nat → Nat := fun c => Classical.choose (hex c)
  have hr : ∀ c, c < sb.length → r c < B.N ∧ cb (r c) = c := fun c => Classical.choose_spec (hex c)
  have h := nodup_le sa.length ((List.range sb.length).map (fun c => ca (r c))) ?_ ?_
  · simpa using h
  · rw [List.nodup_iff_pairwise_ne, List.pairwise_map]
    refine List.Pairwise.imp_of_mem ?_ (List.nodup_range (n := sb.length))
    intro a b ha hb hne he
    simp at ha hb
    obtain ⟨h1, h2⟩ := hr a ha
    obtain ⟨h3, h4⟩ := hr b hb
    have := coarse hw ga gb (hw.N ▸ h1) (hw.N ▸ h3) he
    exact hne (by omega)
  · intro x hx
    obtain ⟨c, hc, rfl⟩ := List.mem_map.1 hx
    simp at hc
    exact ga.lt _ (hw.N ▸ (hr c hc).1)

theorem countP_split {α : Type} {p q r : α → Bool} (l : List α) (h : ∀ x ∈ l, p x = (q x || r x)) (hd : ∀ x ∈ l, q x = true → r x = false) : l.countP p = l.countP q + l.countP r := by
  induction l with
  | nil => rfl
  | cons a t ih =>
    have i := ih (fun x hx => h x (List.mem_cons_of_mem _ hx)) (fun x hx => hd x (List.mem_cons_of_mem _ hx))
    have h1 := h a List.mem_cons_self
    have h2 := hd a List.mem_cons_self
    rw [List.countP_cons, List.countP_cons, List.countP_cons, i, h1]
    cases hq : q a with
    | true => rw [h2 hq]; simp; omega
    | false => simp; omega

/-- what the classes below k add up to, by the class f gives each -/
def merged (f : Nat → Nat) (size : List Nat) : Nat → Nat → Nat
  | 0, _ => 0
  | k + 1, c => merged f size k c + if f k = c then size.getD k 0 else 0

theorem merged_count {G : Gr} {cmp : Nat → Nat} {size : List Nat} (g : Good G cmp size) (f : Nat → Nat) (c : Nat) : ∀ k, k ≤ size.length →
    merged f size k c = (List.range G.N).countP (fun v => decide (cmp v < k ∧ f (cmp v) = c) && G.pl v) := by
  intro k
  induction k with
  | zero =>
    intro _
    simp [merged]
  | succ k ih =>
    intro hk
    rw [merged, ih (by omega)]
    by_cases hf : f k = c
    · rw [if_pos hf, List.getD_eq_getElem?_getD, List.getElem?_eq_getElem (by omega), Option.getD_some, g.sizes k (by omega)]
      symm
      refine countP_split _ (fun v _ => ?_) (fun v _ => ?_)
      · cases G.pl v
        · simp
        · simp only [Bool.and_true]
          rw [Bool.eq_iff_iff]
          simp only [decide_eq_true_eq, Bool.or_eq_true]
          constructor
          · rintro ⟨h1, h2⟩
            by_cases h3 : cmp v = k
            · exact .inr h3
            · exact .inl ⟨by omega, h2⟩
          · rintro (⟨h1, h2⟩ | h1)
            · exact ⟨by omega, h2⟩
            · exact ⟨by omega, by rw [h1]; exact hf⟩
      · cases G.pl v
        · simp
        · simp only [Bool.and_true, decide_eq_true_eq, decide_eq_false_iff_not]
          omega
    · rw [if_neg hf, Nat.add_zero]
      apply List.countP_congr
      intro v _
      simp only [Bool.and_eq_true, decide_eq_true_eq]
      constructor
      · rintro ⟨⟨h1, h2⟩, h3⟩
        exact ⟨⟨by omega, h2⟩, h3⟩
      · rintro ⟨⟨h1, h2⟩, h3⟩
        refine ⟨⟨?_, h2⟩, h3⟩
        by_cases h4 : cmp v = k
        · rw [h4] at h2; exact absurd h2 hf
        · omega

theorem merged_all {A B : Gr} {ca cb : Nat → Nat} {sa sb : List Nat} (hw : Wider A B) (ga : Good A ca sa) (gb : Good B cb sb) {rep : Nat → Nat} (hr : ∀ c, c < sa.length → rep c < A.N ∧ ca (rep c) = c)
    (c : Nat) (hc : c < sb.length) : merged (fun k => cb (rep k)) sa sa.length c = sb[c] := by
  rw [merged_count ga _ c _ (Nat.le_refl _), gb.sizes c hc, ← hw.N]
  apply List.countP_congr
  intro v hv
  have hv : v < A.N := by simpa using hv
  have h1 := ga.lt v hv
  obtain ⟨h2, h3⟩ := hr _ h1
  have h4 := coarse hw ga gb h2 hv h3
  rw [hw.pl]
  simp only [Bool.and_eq_true, decide_eq_true_eq, h4, h1, true_and]

theorem merged_le {G : Gr} {cmp : Nat → Nat} {size : List Nat} (g : Good G cmp size) (f : Nat → Nat) (c : Nat) (k : Nat) (hk : k ≤ size.length) : merged f size k c ≤ G.N := by
  rw [merged_count g f c k hk]
  exact Nat.le_trans List.countP_le_length (by simp)

theorem Good.size_le {G : Gr} {cmp : Nat → Nat} {size : List Nat} (g : Good G cmp size) (c : Nat) (hc : c < size.length) : size[c] ≤ G.N := by
  rw [g.sizes c hc]
  exact Nat.le_trans List.countP_le_length (by simp)
end Go.Proofs.Qxb6602044a.Tj
