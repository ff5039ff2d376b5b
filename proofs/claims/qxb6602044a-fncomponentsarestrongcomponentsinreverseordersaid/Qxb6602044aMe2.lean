import Derived.Test.Qxb6602044aMe
namespace Go.Proofs.Qxb6602044a
open Go.RowKit
set_option linter.unusedVariables false

theorem owns_form {w : World} {base : Nat} {e : TypeId} {size : Nat} {v : Value} {n : Nat} {xs : List Value} (h : w.ownsRow base e size v n xs) : ∃ a cap, v = .slice a n cap := by
  rcases h.2 with ⟨rfl, rfl⟩ | ⟨g, cap, cur, rfl, _⟩
  · exact ⟨_, _, rfl⟩
  · exact ⟨_, _, rfl⟩

theorem owns_open {w : World} {base : Nat} {e : TypeId} {size : Nat} {v : Value} {n : Nat} {xs : List Value} (h : w.ownsRow base e size v n xs) (hn : 0 < n) :
    ∃ g cap, v = .slice (some ⟨g, 0, none⟩) n cap ∧ base ≤ g ∧ g < w.heap.size ∧ n ≤ cap ∧ cap ≤ maxLen ∧ (∀ j x, xs[j]? = some x → w.cell? ⟨g, j, none⟩ = some x) ∧ ∀ j, w.frozen? ⟨g, j, none⟩ = false := by
  rcases h.2 with ⟨_, h0⟩ | ⟨g, cap, cur, rfl, hb, hg, hc, hm, hs, htake⟩
  · omega
  · refine ⟨g, cap, rfl, hb, (Array.getElem?_eq_some_iff.1 hg).1, hc, hm, ?_, ?_⟩
    · intro j x hx
      rw [← htake, List.getElem?_take] at hx
      split at hx
      · simp [World.cell?, hg]; simpa using hx
      · cases hx
    · intro j
      simp [World.frozen?, hg]

theorem owns_shrink {w : World} {base : Nat} {e : TypeId} {size : Nat} {g n cap : Nat} {xs : List Value} (h : w.ownsRow base e size (.slice (some ⟨g, 0, none⟩) n cap) n xs) {k : Nat} (hk : k ≤ n) :
    w.ownsRow base e size (.slice (some ⟨g, 0, none⟩) k cap) k (xs.take (k * size)) := by
  rcases h.2 with ⟨h0, _⟩ | ⟨g', cap', cur, he, hb, hg, hc, hm, hs, htake⟩
  · cases h0
  · injection he with h1 h2 h3
    injection h1 with h1
    injection h1 with h1
    subst h1 h3
    have hkn : k * size ≤ n * size := Nat.mul_le_mul_right _ hk
    refine ⟨?_, .inr ⟨g, cap, cur, rfl, hb, hg, by omega, hm, hs, ?_⟩⟩
    · rw [List.length_take, h.1]; omega
    · rw [← htake, List.take_take, Nat.min_eq_left hkn]

theorem owns_set {w : World} {base : Nat} {e : TypeId} {size : Nat} {g n cap : Nat} {xs : List Value} (h : w.ownsRow base e size (.slice (some ⟨g, 0, none⟩) n cap) n xs) (j : Nat) (u : Value) :
    (w.setCell ⟨g, j, none⟩ u).ownsRow base e size (.slice (some ⟨g, 0, none⟩) n cap) n (xs.set j u) := by
  rcases h.2 with ⟨h0, _⟩ | ⟨g', cap', cur, he, hb, hg, hc, hm, hs, htake⟩
  · cases h0
  · injection he with h1 h2 h3
    injection h1 with h1
    injection h1 with h1
    subst h1 h3
    have hrow : Row w g e cur.toList := by unfold Row; simpa using hg
    have h2 := hrow.set j u
    refine ⟨by rw [List.length_set]; exact h.1, .inr ⟨g, cap, (cur.toList.set j u).toArray, rfl, hb, h2, hc, hm, by simpa using hs, ?_⟩⟩
    rw [← htake]
    simp [List.take_set]

section
variable {w wr : World} {B N bg : Nat} {s : Tj.St} {vS vP vZ : Value}

theorem Far.same {u : Value} {a : Option Addr} {n n' cap : Nat} (h : Far (.slice a n cap) u) : Far (.slice a n' cap) u := by
  intro g hg
  cases a with
  | none => simp [Value.ownBlock] at hg
  | some x => exact h g hg

theorem flat_last (n i : Nat) (tl : List (Nat × Nat)) : flat ((n, i) :: tl).reverse = flat tl.reverse ++ [nv n, nv i] := by
  rw [List.reverse_cons, flat_append]; rfl

theorem flat_rlen (tl : List (Nat × Nat)) : (flat tl.reverse).length = tl.length * 2 := by rw [flat_length, List.length_reverse]

theorem Mem.top (h : Mem w wr B N bg s vS vP vZ) {n i : Nat} {tl : List (Nat × Nat)} (hp : s.path = (n, i) :: tl) :
    ∃ g cap, vP = .slice (some ⟨g, 0, none⟩) (tl.length + 1) cap ∧ B + 11 ≤ g ∧ g < wr.heap.size ∧ tl.length + 1 ≤ cap ∧ cap ≤ maxLen ∧ wr.cell? ⟨g, tl.length * 2, none⟩ = some (nv n) ∧ wr.cell? ⟨g, tl.length * 2 + 1, none⟩ = some (nv i) ∧ wr.frozen? ⟨g, tl.length * 2 + 1, none⟩ = false ∧
      (∀ m j tt, tl = (m, j) :: tt → wr.cell? ⟨g, tt.length * 2, none⟩ = some (nv m)) := by
  have ho := h.oP
  rw [hp] at ho
  obtain ⟨g, cap, he, h1, h2, h3, h4, h5, h6⟩ := owns_open ho (by simp)
  rw [flat_last] at h5
  refine ⟨g, cap, by simpa using he, h1, h2, by simpa using h3, h4, h5 _ _ ?_, h5 _ _ ?_, h6 _, ?_⟩
  · rw [List.getElem?_append_right (by rw [flat_rlen]; exact Nat.le_refl _), flat_rlen]; simp
  · rw [List.getElem?_append_right (by rw [flat_rlen]; omega), flat_rlen]; simp
  · rintro m j tt rfl
    apply h5
    rw [List.getElem?_append_left (by rw [flat_rlen]; simp), flat_last, List.getElem?_append_right (by rw [flat_rlen]; exact Nat.le_refl _), flat_rlen]; simp

theorem Mem.topAt {g cap : Nat} {n i : Nat} {tl : List (Nat × Nat)} (h : Mem w wr B N bg s vS (.slice (some ⟨g, 0, none⟩) (tl.length + 1) cap) vZ) (hp : s.path = (n, i) :: tl) :
    wr.cell? ⟨g, tl.length * 2, none⟩ = some (nv n) ∧ wr.cell? ⟨g, tl.length * 2 + 1, none⟩ = some (nv i) ∧ wr.frozen? ⟨g, tl.length * 2 + 1, none⟩ = false := by
  obtain ⟨g', cap', he, _, _, _, _, h1, h2, h3, _⟩ := h.top hp
  injection he with he _ _
  injection he with he
  injection he with he
  subst he
  exact ⟨h1, h2, h3⟩

theorem Mem.stepP {g cap : Nat} {n i : Nat} {tl : List (Nat × Nat)} (h : Mem w wr B N bg s vS (.slice (some ⟨g, 0, none⟩) (tl.length + 1) cap) vZ) (hp : s.path = (n, i) :: tl) (j : Nat) :
    Mem w (wr.setCell ⟨g, tl.length * 2 + 1, none⟩ (nv j)) B N bg { s with path := (n, j) :: tl } vS (.slice (some ⟨g, 0, none⟩) (tl.length + 1) cap) vZ := by
  have ho := h.oP
  rw [hp] at ho
  have hgB := (ho.lt g rfl).1
  have ho2 := owns_set ho (tl.length * 2 + 1) (nv j)
  have hg := grownBy_setCell wr ⟨g, tl.length * 2 + 1, none⟩ (nv j)
  have hf := h.fix.grown hg (fun k hk => by injection hk with hk; simp at hk; omega)
  have oS := keepF (v := .slice (some ⟨g, 0, none⟩) (tl.length + 1) cap) h.oS hg h.sp.symm
  have oZ := keepF (v := .slice (some ⟨g, 0, none⟩) (tl.length + 1) cap) h.oZ hg h.pz
  refine ⟨hf.b0, hf.b1, hf.b2, hf.b3, hf.b4, hf.b5, hf.b6, hf.b7, hf.b8, hf.b9, hf.b10, oS, ?_, oZ, h.sp, h.sz, h.pz, hf.below, hf.room⟩
  show World.ownsRow _ _ _ _ _ ((n, j) :: tl).length (flat ((n, j) :: tl).reverse)
  rw [flat_last] at ho2 ⊢
  have : (flat tl.reverse ++ [nv n, nv i]).set (tl.length * 2 + 1) (nv j) = flat tl.reverse ++ [nv n, nv j] := by
    rw [List.set_append_right _ _ (by rw [flat_rlen]; omega), flat_rlen]
    have : tl.length * 2 + 1 - tl.length * 2 = 1 := by omega
    rw [this]; rfl
  rw [this] at ho2
  exact ho2

theorem Mem.popP {g cap : Nat} {n i : Nat} {tl : List (Nat × Nat)} (h : Mem w wr B N bg s vS (.slice (some ⟨g, 0, none⟩) (tl.length + 1) cap) vZ) (hp : s.path = (n, i) :: tl) :
    Mem w (wr.setCell ⟨B + 9, 0, none⟩ (.slice (some ⟨g, 0, none⟩) tl.length cap)) B N bg { s with path := tl } vS (.slice (some ⟨g, 0, none⟩) tl.length cap) vZ := by
  have ho := h.oP
  rw [hp] at ho
  have ho2 := owns_shrink ho (k := tl.length) (by simp)
  rw [flat_last, List.take_left' (flat_rlen tl)] at ho2
  exact h.setP ho2 h.sp.symm.same.symm h.pz.same

theorem Mem.topS (h : Mem w wr B N bg s vS vP vZ) {m : Nat} {rest : List Nat} (hp : s.stack = m :: rest) :
    ∃ g cap, vS = .slice (some ⟨g, 0, none⟩) (rest.length + 1) cap ∧ B + 11 ≤ g ∧ g < wr.heap.size ∧ rest.length + 1 ≤ cap ∧ cap ≤ maxLen ∧ wr.cell? ⟨g, rest.length, none⟩ = some (nv m) := by
  have ho := h.oS
  rw [hp] at ho
  obtain ⟨g, cap, he, h1, h2, h3, h4, h5, h6⟩ := owns_open ho (by simp)
  refine ⟨g, cap, by simpa using he, h1, h2, by simpa using h3, h4, h5 _ _ ?_⟩
  simp

theorem Mem.popS {g cap : Nat} {m : Nat} {rest : List Nat} (h : Mem w wr B N bg s (.slice (some ⟨g, 0, none⟩) (rest.length + 1) cap) vP vZ) (hp : s.stack = m :: rest) :
    Mem w (wr.setCell ⟨B + 8, 0, none⟩ (.slice (some ⟨g, 0, none⟩) rest.length cap)) B N bg { s with stack := rest } (.slice (some ⟨g, 0, none⟩) rest.length cap) vP vZ := by
  have ho := h.oS
  rw [hp] at ho
  have ho2 := owns_shrink ho (k := rest.length) (by simp)
  rw [show List.take (rest.length * 1) ((m :: rest).reverse.map nv) = rest.reverse.map nv by simp] at ho2
  exact h.setS ho2 h.sp.same h.sz.same

theorem Mem.topZ (h : Mem w wr B N bg s vS vP vZ) {x : Nat} {zs : List Nat} (hp : s.size = zs ++ [x]) :
    ∃ g cap, vZ = .slice (some ⟨g, 0, none⟩) (zs.length + 1) cap ∧ B + 11 ≤ g ∧ g < wr.heap.size ∧ zs.length + 1 ≤ cap ∧ cap ≤ maxLen ∧ wr.cell? ⟨g, zs.length, none⟩ = some (nv x) ∧ wr.frozen? ⟨g, zs.length, none⟩ = false := by
  have ho := h.oZ
  rw [hp] at ho
  obtain ⟨g, cap, he, h1, h2, h3, h4, h5, h6⟩ := owns_open ho (by simp)
  refine ⟨g, cap, by simpa using he, h1, h2, by simpa using h3, h4, h5 _ _ ?_, h6 _⟩
  simp

theorem Mem.incZ {g cap : Nat} {x y : Nat} {zs : List Nat} (h : Mem w wr B N bg s vS vP (.slice (some ⟨g, 0, none⟩) (zs.length + 1) cap)) (hp : s.size = zs ++ [x]) :
    Mem w (wr.setCell ⟨g, zs.length, none⟩ (nv y)) B N bg { s with size := zs ++ [y] } vS vP (.slice (some ⟨g, 0, none⟩) (zs.length + 1) cap) := by
  have ho := h.oZ
  rw [hp] at ho
  rw [show (zs ++ [x]).length = zs.length + 1 by simp] at ho
  have hgB := (ho.lt g rfl).1
  have ho2 := owns_set ho zs.length (nv y)
  have hg := grownBy_setCell wr ⟨g, zs.length, none⟩ (nv y)
  have hf := h.fix.grown hg (fun k hk => by injection hk with hk; simp at hk; omega)
  have oS := keepF (v := .slice (some ⟨g, 0, none⟩) (zs.length + 1) cap) h.oS hg h.sz.symm
  have oP := keepF (v := .slice (some ⟨g, 0, none⟩) (zs.length + 1) cap) h.oP hg h.pz.symm
  refine ⟨hf.b0, hf.b1, hf.b2, hf.b3, hf.b4, hf.b5, hf.b6, hf.b7, hf.b8, hf.b9, hf.b10, oS, oP, ?_, h.sp, h.sz, h.pz, hf.below, hf.room⟩
  have : ((zs ++ [x]).map nv).set zs.length (nv y) = (zs ++ [y]).map nv := by
    rw [List.map_append, List.map_append, List.set_append_right _ _ (by simp)]
    simp
  rw [this] at ho2
  simpa using ho2
end
end Go.Proofs.Qxb6602044a
