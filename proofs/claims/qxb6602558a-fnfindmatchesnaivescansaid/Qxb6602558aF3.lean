/-
  appendDoubling, BY slices.Grow.
-/
import Derived.Test.Qxb6602558aF1
import Derived.Lib.Walk
import Derived.Lib.SliceRun
import Derived.Lib.AppendZerosOnto
namespace Go.Proofs.Qxb6602558a
open Go.RowKit
set_option linter.unusedVariables false

/-- what an append to a row of its own hands back -/
def AppOut (w : World) (base : Nat) (e : TypeId) (v : Value) (n : Nat) (xs : List Value) (x : Value) (en : Ending) (w' : World) : Prop :=
  ∃ g cap, en = .returned (.slice (some ⟨g, 0, none⟩) (n + 1) cap) ∧ w'.ownsRow base e 1 (.slice (some ⟨g, 0, none⟩) (n + 1) cap) (n + 1) (xs ++ [x]) ∧ w.grownBy w' v.ownBlock ∧ (v.ownBlock = some g ∨ w.heap.size ≤ g)

theorem grown_trans {a b c : World} {row row' : Option Nat} (h : a.grownBy b none) (k : b.grownBy c row') (hr : row' = row ∨ ∀ g, row' = some g → a.heap.size ≤ g) : a.grownBy c row :=
  ⟨k.os.trans h.os, k.tape.trans h.tape, k.output.trans h.output, Nat.le_trans h.size k.size, fun i hi hne => by
    rw [k.block i (Nat.lt_of_lt_of_le hi h.size) ?_, h.block i hi (fun e => by cases e)]
    rcases hr with rfl | hr
    · exact hne
    · intro e
      have := hr i e.symm
      omega⟩

theorem Try.nfo3 : (Try.prog.info? 3).map (fun i => (i.zero, i.size, i.bytes)) = some (some (.int .i64 0), 1, 8) := by kernel_rfl

set_option maxHeartbeats 2000000 in
set_option maxRecDepth 100000 in
theorem growI (base : Option Addr) (l n : Nat) (cs : List Value) (w : World) (hn : 0 < n) (hbig : l + n ≤ 134217728) (hcl : cs.length = l) (hnil : base = none → l = 0)
    (hcs : ∀ a, base = some a → ∀ j v, cs[j]? = some v → w.cell? (a.add j) = some v) :
    Calls Try.prog 42 #[.slice base l l, .int .i64 (n : Int)] w fun e w' =>
      e = .returned (.slice (some ⟨w.heap.size, 0, none⟩) l (grownCap w (l + n) l 3)) ∧
      w' = w.drew.alloc (.cells (cs.toArray ++ Builtin.zeroCells #[.int .i64 0] n ++ Builtin.zeroCells #[.int .i64 0] (grownCap w (l + n) l 3 - (l + n))) 3) := by
  obtain ⟨i0, hi0, hz0, hs0, hby⟩ := info_parts Try.nfo3
  have h1 : ¬ ((n : Int) < 0) := by omega
  have hold : (Builtin.firstCells i0.size l (.slice base l l)).run Try.prog w.drew = .ok cs.toArray w.drew := by
    cases base with
    | none =>
      have h0 := hnil rfl
      subst h0
      have hc0 : cs = [] := List.length_eq_zero_iff.1 (by simpa using hcl)
      rw [hc0]
      exact run_firstCells_none w.drew i0.size 0 0 0
    | some a => exact run_firstCells_some w.drew i0.size l a l l cs (by rw [hs0, Nat.mul_one]; exact hcl) (fun j v hj => hcs a rfl j v hj)
  have hrz : ∀ ty, (Builtin.append_ #[37, 3] ty #[.slice base l l, .int .i64 (n : Int)]).run Try.prog w =
      .ok (.slice (some ⟨w.heap.size, 0, none⟩) (l + n) (grownCap w (l + n) l 3)) (w.drew.alloc (.cells (cs.toArray ++ Builtin.zeroCells #[.int .i64 0] n ++ Builtin.zeroCells #[.int .i64 0] (grownCap w (l + n) l 3 - (l + n))) 3)) := fun ty => by
    exact Lib.run_append_grow_zeros w 37 3 ty 3 i0 (.int .i64 0) .i64 .i64 Try.underlying37 Try.underlying3 hi0 hz0 base l l cs hold n (by omega) (by omega) (by omega) (by omega)
      (by rw [hby]; omega)
      (growslice_fits (by omega) (by rw [hby]; omega))
  have hGn : l + n ≤ grownCap w (l + n) l 3 := grownCap_ge w _ _ _
  obtain ⟨G, hG⟩ : ∃ G, G = grownCap w (l + n) l 3 := ⟨_, rfl⟩
  rw [← hG] at hrz hGn ⊢
  have hG63 : G ≤ 9223372036854775807 := by
    have := grownCap_le_maxLen w (l + n) l 3 (by unfold maxLen; omega)
    rw [← hG] at this
    unfold maxLen at this
    omega
  clear hold hG hcs hcl
  go_enter Try.func42, Try.ntmps42
  cases base with
  | none =>
    have h0 := hnil rfl
    subst h0
    go_wp2_with (at_builtin; refine Lib.wpList_append_run _ rfl _ _ _ _ rfl _ _ rfl rfl _ _ (hrz _) ?_)
    all_goals (go_ret; exact ⟨rfl, rfl⟩)
  | some a =>
    obtain ⟨ab, ao, asp⟩ := a
    go_wp2_with (at_builtin; refine Lib.wpList_append_run _ rfl _ _ _ _ rfl _ _ rfl rfl _ _ (hrz _) ?_)
    all_goals (go_ret; exact ⟨rfl, rfl⟩)

set_option maxHeartbeats 2000000 in
set_option maxRecDepth 100000 in
theorem appI (w : World) (base : Nat) (v : Value) (n : Nat) (xs : List Value) (x : Int) (hown : w.ownsRow base 3 1 v n xs) (hn : n ≤ 33554432) (hbase : base ≤ w.heap.size) :
    Calls Try.prog 32 #[v, .int .i64 x] w (AppOut w base 3 v n xs (.int .i64 x)) := by
  obtain ⟨i0, hi, hz0, hz1, hz2⟩ := info_parts Try.nfo3
  obtain ⟨a, cap, rfl⟩ : ∃ a cap, v = .slice a n cap := owns_form hown
  have hcap : n ≤ cap := by
    rcases hown.2 with ⟨h0, h1⟩ | ⟨g, c, cur, h0, _, _, hc, _⟩
    · injection h0 with _ h2 h3; omega
    · injection h0 with _ h2 h3; omega
  have hc63 : cap ≤ 9223372036854775807 := by
    rcases hown.2 with ⟨h0, h1⟩ | ⟨g, c, cur, h0, _, _, hc, hm, _⟩
    · injection h0 with _ h2 h3; omega
    · injection h0 with _ h2 h3; unfold maxLen at hm; omega
  by_cases hfull : n = cap
  · subst hfull
    have hb : ((n : Int) == (n : Int)) = true := by simp
    have hlen : xs.length = n := by have := hown.1; simpa using this
    have hnil : a = none → n = 0 := fun e => by
      subst e
      rcases hown.2 with ⟨h0, h1⟩ | ⟨g, c, cur, h0, _⟩
      · exact h1
      · cases h0
    have hcs : ∀ ad, a = some ad → ∀ j u, xs[j]? = some u → w.cell? (ad.add j) = some u := fun ad e j u hj => by
      subst e
      have hpos : 0 < n := by
        rcases Nat.eq_zero_or_pos n with h | h
        · rw [h] at hlen
          rw [List.length_eq_zero_iff.1 hlen] at hj
          cases hj
        · exact h
      obtain ⟨g, c, he, _, _, _, _, hc, _⟩ := owns_open hown hpos
      injection he with he _ _
      injection he with he
      subst he
      have hadd : (⟨g, 0, none⟩ : Addr).add j = ⟨g, j, none⟩ := by unfold Addr.add; split <;> simp_all
      rw [hadd]
      exact hc j u hj
    have K := hide (growI a n (n + 16) xs w (by omega) (by omega) hlen hnil hcs)
    have hGn : n + (n + 16) ≤ grownCap w (n + (n + 16)) n 3 := grownCap_ge w _ _ _
    have hGm := grownCap_le_maxLen w (n + (n + 16)) n 3 (by unfold maxLen; omega)
    generalize grownCap w (n + (n + 16)) n 3 = G at K hGn hGm
    have hw16 : IntKind.i64.wrap ((n : Int) + 16) = ((n + 16 : Nat) : Int) := by rw [IntKind.wrap_i64]; omega
    have hw16' : ((n + 16 : Nat) : Int) = (n : Int) + 16 := by omega
    rw [hw16'] at K
    clear hw16 hw16' hcs hnil
    go_enter Try.func32, Try.ntmps32
    go_wp2_with fail
    refine Calls.mono (Hid.out K) ?_
    rintro e1 w1 ⟨rfl, hw1⟩
    have hsz : w1.heap.size = w.heap.size + 1 := by rw [hw1]; simp
    have hg1 : w.grownBy w1 none := by rw [hw1]; exact ⟨rfl, rfl, rfl, by simp, fun k hk _ => by rw [Below.heap_alloc _ _ _ (by simpa using hk)]; rfl⟩
    have hown1 : w1.ownsRow base 3 1 (.slice (some ⟨w.heap.size, 0, none⟩) n G) n xs := by
      refine ⟨by simpa using hlen, .inr ⟨w.heap.size, G, _, rfl, hbase, by rw [hw1]; exact heap_alloc_new w.drew _, by omega, hGm, ?_, ?_⟩⟩
      · simp [Builtin.zeroCells, hlen]; omega
      · simp [hlen]
    have hnb : (w1.alloc (.cells #[.int .i64 x] 3)).heap[w1.heap.size]? = some (.cells #[.int .i64 x] 3 (0, 0)) := heap_alloc_new _ _
    have Hnb := hide hnb
    have Hown2 := hide (hown1.kept (World.grownBy_alloc w1 (.cells #[.int .i64 x] 3) none) (.inr (by simp [Value.ownBlock])))
    have Hg2 := hide (grown_trans (row := none) hg1 (World.grownBy_alloc w1 (.cells #[.int .i64 x] 3) none) (.inl rfl))
    have Hsz := hide hsz
    have Hlen := hide hlen
    clear hw1 hg1 hown1 hnb K hown hsz hlen
    go_wp2_with (at_builtin; refine wpList_append_lies (w1.alloc (.cells #[.int .i64 x] 3)) (by rfl) _ _ 37 (by rfl) base 3 i0 (.int .i64 0) 1 8 Try.underlying37 hi hz0 hz1 hz2 rfl (by decide) (.slice (some ⟨w.heap.size, 0, none⟩) n G) n _ (by rfl) Hown2.out ⟨w1.heap.size, 0, none⟩ 1 1 [.int .i64 x] (by rfl) rfl (World.news_of_block Hnb.out) (by simp [Value.oneCell']) (by omega) (by unfold maxLen; omega) (by omega) (by have := Hsz.out; simp; omega) (w1.heap.size + 1) (by simp) ?_; intro g2 cap2 w4 hown4 hgrow4 hloc4 hglt4; have Hq3 := hide (And.intro hown4 (And.intro hgrow4 hloc4)); clear hown4 hgrow4 hloc4 hglt4)
    go_ret
    obtain ⟨q1, q2, q3⟩ := Hq3.out
    have hg2 : w.heap.size ≤ g2 := by
      have := Hsz.out
      rcases q3 with q3 | q3
      · simp [Value.ownBlock] at q3; omega
      · omega
    exact ⟨g2, cap2, rfl, q1, grown_trans Hg2.out q2 (.inr (fun g hg => by simp [Value.ownBlock] at hg; omega)), .inr hg2⟩
  · have hb : ((n : Int) == (cap : Int)) = false := beq_eq_false_iff_ne.2 (by omega)
    have hnb : (w.alloc (.cells #[.int .i64 x] 3)).heap[w.heap.size]? = some (.cells #[.int .i64 x] 3 (0, 0)) := heap_alloc_new _ _
    have Hnb := hide hnb
    have Hown2 := hide (hown.kept (World.grownBy_alloc w (.cells #[.int .i64 x] 3) none) (by cases (Value.slice a n cap).ownBlock <;> simp))
    have Hg2 := hide (World.grownBy_alloc w (.cells #[.int .i64 x] 3) none)
    clear hnb hown
    go_enter Try.func32, Try.ntmps32
    go_wp2_with (at_builtin; refine wpList_append_lies (w.alloc (.cells #[.int .i64 x] 3)) (by rfl) _ _ 37 (by rfl) base 3 i0 (.int .i64 0) 1 8 Try.underlying37 hi hz0 hz1 hz2 rfl (by decide) (.slice a n cap) n _ (by rfl) Hown2.out ⟨w.heap.size, 0, none⟩ 1 1 [.int .i64 x] (by rfl) rfl (World.news_of_block Hnb.out) (by simp [Value.oneCell']) (by omega) (by unfold maxLen; omega) (by omega) (by simp; omega) (w.heap.size + 1) (by simp) ?_; intro g2 cap2 w4 hown4 hgrow4 hloc4 hglt4; have Hq3 := hide (And.intro hown4 (And.intro hgrow4 hloc4)); clear hown4 hgrow4 hloc4 hglt4)
    go_ret
    obtain ⟨q1, q2, q3⟩ := Hq3.out
    exact ⟨g2, cap2, rfl, q1, grown_trans Hg2.out q2 (.inl rfl), by rcases q3 with q3 | q3; exact .inl q3; exact .inr (by omega)⟩

theorem Try.nfo5 : (Try.prog.info? 5).map (fun i => (i.zero, i.size, i.bytes)) = some (some (.int .u8 0), 1, 1) := by kernel_rfl

set_option maxHeartbeats 2000000 in
set_option maxRecDepth 100000 in
theorem growB (base : Option Addr) (l n : Nat) (cs : List Value) (w : World) (hn : 0 < n) (hbig : l + n ≤ 134217728) (hcl : cs.length = l) (hnil : base = none → l = 0)
    (hcs : ∀ a, base = some a → ∀ j v, cs[j]? = some v → w.cell? (a.add j) = some v) :
    Calls Try.prog 43 #[.slice base l l, .int .i64 (n : Int)] w fun e w' =>
      e = .returned (.slice (some ⟨w.heap.size, 0, none⟩) l (grownCap w (l + n) l 5)) ∧
      w' = w.drew.alloc (.cells (cs.toArray ++ Builtin.zeroCells #[.int .u8 0] n ++ Builtin.zeroCells #[.int .u8 0] (grownCap w (l + n) l 5 - (l + n))) 5) := by
  obtain ⟨i0, hi0, hz0, hs0, hby⟩ := info_parts Try.nfo5
  have h1 : ¬ ((n : Int) < 0) := by omega
  have hold : (Builtin.firstCells i0.size l (.slice base l l)).run Try.prog w.drew = .ok cs.toArray w.drew := by
    cases base with
    | none =>
      have h0 := hnil rfl
      subst h0
      have hc0 : cs = [] := List.length_eq_zero_iff.1 (by simpa using hcl)
      rw [hc0]
      exact run_firstCells_none w.drew i0.size 0 0 0
    | some a => exact run_firstCells_some w.drew i0.size l a l l cs (by rw [hs0, Nat.mul_one]; exact hcl) (fun j v hj => hcs a rfl j v hj)
  have hrz : ∀ ty, (Builtin.append_ #[22, 3] ty #[.slice base l l, .int .i64 (n : Int)]).run Try.prog w =
      .ok (.slice (some ⟨w.heap.size, 0, none⟩) (l + n) (grownCap w (l + n) l 5)) (w.drew.alloc (.cells (cs.toArray ++ Builtin.zeroCells #[.int .u8 0] n ++ Builtin.zeroCells #[.int .u8 0] (grownCap w (l + n) l 5 - (l + n))) 5)) := fun ty => by
    exact Lib.run_append_grow_zeros w 22 3 ty 5 i0 (.int .u8 0) .i64 .i64 Try.underlying22 Try.underlying3 hi0 hz0 base l l cs hold n (by omega) (by omega) (by omega) (by omega)
      (by rw [hby]; omega)
      (growslice_fits (by omega) (by rw [hby]; omega))
  have hGn : l + n ≤ grownCap w (l + n) l 5 := grownCap_ge w _ _ _
  obtain ⟨G, hG⟩ : ∃ G, G = grownCap w (l + n) l 5 := ⟨_, rfl⟩
  rw [← hG] at hrz hGn ⊢
  have hG63 : G ≤ 9223372036854775807 := by
    have := grownCap_le_maxLen w (l + n) l 5 (by unfold maxLen; omega)
    rw [← hG] at this
    unfold maxLen at this
    omega
  clear hold hG hcs hcl
  go_enter Try.func43, Try.ntmps43
  cases base with
  | none =>
    have h0 := hnil rfl
    subst h0
    go_wp2_with (at_builtin; refine Lib.wpList_append_run _ rfl _ _ _ _ rfl _ _ rfl rfl _ _ (hrz _) ?_)
    all_goals (go_ret; exact ⟨rfl, rfl⟩)
  | some a =>
    obtain ⟨ab, ao, asp⟩ := a
    go_wp2_with (at_builtin; refine Lib.wpList_append_run _ rfl _ _ _ _ rfl _ _ rfl rfl _ _ (hrz _) ?_)
    all_goals (go_ret; exact ⟨rfl, rfl⟩)

set_option maxHeartbeats 2000000 in
set_option maxRecDepth 100000 in
theorem appB (w : World) (base : Nat) (v : Value) (n : Nat) (xs : List Value) (x : Int) (hown : w.ownsRow base 5 1 v n xs) (hn : n ≤ 33554432) (hbase : base ≤ w.heap.size) :
    Calls Try.prog 33 #[v, .int .u8 x] w (AppOut w base 5 v n xs (.int .u8 x)) := by
  obtain ⟨i0, hi, hz0, hz1, hz2⟩ := info_parts Try.nfo5
  obtain ⟨a, cap, rfl⟩ : ∃ a cap, v = .slice a n cap := owns_form hown
  have hcap : n ≤ cap := by
    rcases hown.2 with ⟨h0, h1⟩ | ⟨g, c, cur, h0, _, _, hc, _⟩
    · injection h0 with _ h2 h3; omega
    · injection h0 with _ h2 h3; omega
  have hc63 : cap ≤ 9223372036854775807 := by
    rcases hown.2 with ⟨h0, h1⟩ | ⟨g, c, cur, h0, _, _, hc, hm, _⟩
    · injection h0 with _ h2 h3; omega
    · injection h0 with _ h2 h3; unfold maxLen at hm; omega
  by_cases hfull : n = cap
  · subst hfull
    have hb : ((n : Int) == (n : Int)) = true := by simp
    have hlen : xs.length = n := by have := hown.1; simpa using this
    have hnil : a = none → n = 0 := fun e => by
      subst e
      rcases hown.2 with ⟨h0, h1⟩ | ⟨g, c, cur, h0, _⟩
      · exact h1
      · cases h0
    have hcs : ∀ ad, a = some ad → ∀ j u, xs[j]? = some u → w.cell? (ad.add j) = some u := fun ad e j u hj => by
      subst e
      have hpos : 0 < n := by
        rcases Nat.eq_zero_or_pos n with h | h
        · rw [h] at hlen
          rw [List.length_eq_zero_iff.1 hlen] at hj
          cases hj
        · exact h
      obtain ⟨g, c, he, _, _, _, _, hc, _⟩ := owns_open hown hpos
      injection he with he _ _
      injection he with he
      subst he
      have hadd : (⟨g, 0, none⟩ : Addr).add j = ⟨g, j, none⟩ := by unfold Addr.add; split <;> simp_all
      rw [hadd]
      exact hc j u hj
    have K := hide (growB a n (n + 16) xs w (by omega) (by omega) hlen hnil hcs)
    have hGn : n + (n + 16) ≤ grownCap w (n + (n + 16)) n 5 := grownCap_ge w _ _ _
    have hGm := grownCap_le_maxLen w (n + (n + 16)) n 5 (by unfold maxLen; omega)
    generalize grownCap w (n + (n + 16)) n 5 = G at K hGn hGm
    have hw16 : IntKind.i64.wrap ((n : Int) + 16) = ((n + 16 : Nat) : Int) := by rw [IntKind.wrap_i64]; omega
    have hw16' : ((n + 16 : Nat) : Int) = (n : Int) + 16 := by omega
    rw [hw16'] at K
    clear hw16 hw16' hcs hnil
    go_enter Try.func33, Try.ntmps33
    go_wp2_with fail
    refine Calls.mono (Hid.out K) ?_
    rintro e1 w1 ⟨rfl, hw1⟩
    have hsz : w1.heap.size = w.heap.size + 1 := by rw [hw1]; simp
    have hg1 : w.grownBy w1 none := by rw [hw1]; exact ⟨rfl, rfl, rfl, by simp, fun k hk _ => by rw [Below.heap_alloc _ _ _ (by simpa using hk)]; rfl⟩
    have hown1 : w1.ownsRow base 5 1 (.slice (some ⟨w.heap.size, 0, none⟩) n G) n xs := by
      refine ⟨by simpa using hlen, .inr ⟨w.heap.size, G, _, rfl, hbase, by rw [hw1]; exact heap_alloc_new w.drew _, by omega, hGm, ?_, ?_⟩⟩
      · simp [Builtin.zeroCells, hlen]; omega
      · simp [hlen]
    have hnb : (w1.alloc (.cells #[.int .u8 x] 5)).heap[w1.heap.size]? = some (.cells #[.int .u8 x] 5 (0, 0)) := heap_alloc_new _ _
    have Hnb := hide hnb
    have Hown2 := hide (hown1.kept (World.grownBy_alloc w1 (.cells #[.int .u8 x] 5) none) (.inr (by simp [Value.ownBlock])))
    have Hg2 := hide (grown_trans (row := none) hg1 (World.grownBy_alloc w1 (.cells #[.int .u8 x] 5) none) (.inl rfl))
    have Hsz := hide hsz
    have Hlen := hide hlen
    clear hw1 hg1 hown1 hnb K hown hsz hlen
    go_wp2_with (at_builtin; refine wpList_append_lies (w1.alloc (.cells #[.int .u8 x] 5)) (by rfl) _ _ 22 (by rfl) base 5 i0 (.int .u8 0) 1 1 Try.underlying22 hi hz0 hz1 hz2 rfl (by decide) (.slice (some ⟨w.heap.size, 0, none⟩) n G) n _ (by rfl) Hown2.out ⟨w1.heap.size, 0, none⟩ 1 1 [.int .u8 x] (by rfl) rfl (World.news_of_block Hnb.out) (by simp [Value.oneCell']) (by omega) (by unfold maxLen; omega) (by omega) (by have := Hsz.out; simp; omega) (w1.heap.size + 1) (by simp) ?_; intro g2 cap2 w4 hown4 hgrow4 hloc4 hglt4; have Hq3 := hide (And.intro hown4 (And.intro hgrow4 hloc4)); clear hown4 hgrow4 hloc4 hglt4)
    go_ret
    obtain ⟨q1, q2, q3⟩ := Hq3.out
    have hg2 : w.heap.size ≤ g2 := by
      have := Hsz.out
      rcases q3 with q3 | q3
      · simp [Value.ownBlock] at q3; omega
      · omega
    exact ⟨g2, cap2, rfl, q1, grown_trans Hg2.out q2 (.inr (fun g hg => by simp [Value.ownBlock] at hg; omega)), .inr hg2⟩
  · have hb : ((n : Int) == (cap : Int)) = false := beq_eq_false_iff_ne.2 (by omega)
    have hnb : (w.alloc (.cells #[.int .u8 x] 5)).heap[w.heap.size]? = some (.cells #[.int .u8 x] 5 (0, 0)) := heap_alloc_new _ _
    have Hnb := hide hnb
    have Hown2 := hide (hown.kept (World.grownBy_alloc w (.cells #[.int .u8 x] 5) none) (by cases (Value.slice a n cap).ownBlock <;> simp))
    have Hg2 := hide (World.grownBy_alloc w (.cells #[.int .u8 x] 5) none)
    clear hnb hown
    go_enter Try.func33, Try.ntmps33
    go_wp2_with (at_builtin; refine wpList_append_lies (w.alloc (.cells #[.int .u8 x] 5)) (by rfl) _ _ 22 (by rfl) base 5 i0 (.int .u8 0) 1 1 Try.underlying22 hi hz0 hz1 hz2 rfl (by decide) (.slice a n cap) n _ (by rfl) Hown2.out ⟨w.heap.size, 0, none⟩ 1 1 [.int .u8 x] (by rfl) rfl (World.news_of_block Hnb.out) (by simp [Value.oneCell']) (by omega) (by unfold maxLen; omega) (by omega) (by simp; omega) (w.heap.size + 1) (by simp) ?_; intro g2 cap2 w4 hown4 hgrow4 hloc4 hglt4; have Hq3 := hide (And.intro hown4 (And.intro hgrow4 hloc4)); clear hown4 hgrow4 hloc4 hglt4)
    go_ret
    obtain ⟨q1, q2, q3⟩ := Hq3.out
    exact ⟨g2, cap2, rfl, q1, grown_trans Hg2.out q2 (.inl rfl), by rcases q3 with q3 | q3; exact .inl q3; exact .inr (by omega)⟩
end Go.Proofs.Qxb6602558a
