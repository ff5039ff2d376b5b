/-
  THE TWO TABLES WHILE THEY ARE BUILT.
-/
import Derived.Test.Qxb6602558aF15
namespace Go.Proofs.Qxb6602558a
open Go.RowKit
set_option linter.unusedVariables false

/-- which bit an anchor sets -/
def Job.q (J : Job) (k : Nat) : Nat := byteAt (J.A k) 0 * 256 + byteAt (J.A k) 1

theorem Job.q_lt (J : Job) (k : Nat) : J.q k < 65536 := by
  have h1 := byteAt_lt (J.A k) 0
  have h2 := byteAt_lt (J.A k) 1
  unfold Job.q; omega

/-- the bits of kb anchors are set, k anchors are listed -/
structure Built (w wr : World) (J : Job) (B kb k : Nat) (P : Nat → Nat) (V : Nat → Value) (X : Fams) : Prop where
  p : Row wr B 36 (Tab 1024 (fun i => .int .u64 (P i : Int)))
  lt : ∀ i, i < 1024 → P i < 18446744073709551616
  bits : ∀ k', k' < kb → (P (J.q k' / 64)).testBit (J.q k' % 64) = true
  s : Row wr (B + 1) 38 (Tab 256 (fun c => V (2 * c)))
  fam : Fam wr (B + 2) 512 V X
  ks : ∀ c, c < 256 → X (2 * c) = (J.ks k c).map nv
  below : Below B w wr
  room : B + 2 ≤ wr.heap.size

section
variable {w wr : World} {J : Job} {B kb k : Nat} {P : Nat → Nat} {V : Nat → Value} {X : Fams}

theorem Built.grown {wr' : World} (h : Built w wr J B kb k P V X) (hg : wr.grownBy wr' none) : Built w wr' J B kb k P V X := by
  have hz : ∀ k, some k ≠ (none : Option Nat) := fun k e => by cases e
  have hr := h.room
  exact ⟨h.p.kept hg (hz _), h.lt, h.bits, h.s.kept hg (hz _), h.fam.grown hg, h.ks, h.below.grown hg (by omega) (fun j hj => by cases hj), Nat.le_trans hr hg.size⟩

theorem Built.alloc (h : Built w wr J B kb k P V X) (o : Obj) : Built w (wr.alloc o) J B kb k P V X := h.grown (World.grownBy_alloc _ _ _)
theorem Built.drewN (h : Built w wr J B kb k P V X) (n : Nat) : Built w (wr.drewN n) J B kb k P V X := h.grown (grown_drews ⟨rfl, rfl, rfl, Nat.le_refl _, fun _ _ _ => rfl⟩ n)

theorem or_lt {a r : Nat} (h : a < 18446744073709551616) (hr : r < 64) : a ||| 2 ^ r < 18446744073709551616 := by
  have h2 : 2 ^ r < 2 ^ 64 := Nat.pow_lt_pow_right (by omega) hr
  exact Nat.or_lt_two_pow (n := 64) h h2

theorem or_u64 {a r : Nat} (h : a < 18446744073709551616) (hr : r < 64) : Go.bits .or .u64 (a : Int) (IntKind.u64.wrap ((2 : Int) ^ r)) = ((a ||| 2 ^ r : Nat) : Int) := by
  have h2 : 2 ^ r < 18446744073709551616 := by
    have : 2 ^ r < 2 ^ 64 := Nat.pow_lt_pow_right (by omega) hr
    exact this
  rw [pow_wrap hr, bits_or_u64_nat _ _ h h2]

theorem Built.pair (h : Built w wr J B k k P V X) : Built w (wr.setCell ⟨B, J.q k / 64, none⟩ (.int .u64 ((P (J.q k / 64) ||| 2 ^ (J.q k % 64) : Nat) : Int))) J B (k + 1) k (upd P (J.q k / 64) (P (J.q k / 64) ||| 2 ^ (J.q k % 64))) V X := by
  have hg := grownBy_setCell wr ⟨B, J.q k / 64, none⟩ (.int .u64 ((P (J.q k / 64) ||| 2 ^ (J.q k % 64) : Nat) : Int))
  have hr := h.room
  refine ⟨(h.p.setTab _ _).tabEq (fun m _ => ?_), fun i hi => ?_, fun k' hk' => ?_, h.s.kept hg (nsome (by simp)), h.fam.low hg (by show B < B + 2; omega), h.ks, h.below.setCell (Nat.le_refl _) _, Nat.le_trans hr hg.size⟩
  · by_cases e : m = J.q k / 64
    · subst e; rw [if_pos rfl, upd_same]
    · rw [if_neg e, upd_other _ _ e]
  · by_cases e : i = J.q k / 64
    · subst e; rw [upd_same]; exact or_lt (h.lt _ hi) (by omega)
    · rw [upd_other _ _ e]; exact h.lt i hi
  · by_cases e : J.q k' / 64 = J.q k / 64
    · rw [e, upd_same, Nat.testBit_or]
      by_cases ek : k' = k
      · subst ek; simp [Nat.testBit_two_pow_self]
      · have := h.bits k' (by omega)
        rw [e] at this
        rw [this]; rfl
    · rw [upd_other _ _ e]
      refine h.bits k' ?_
      have : k' ≠ k := fun ek => e (by rw [ek])
      omega

theorem Built.keepS {w1 : World} {i : Nat} (h : Built w wr J B kb k P V X) (hi : i < 512) (hg : wr.grownBy w1 (V i).ownBlock) : Row w1 (B + 1) 38 (Tab 256 (fun c => V (2 * c))) := by
  have hlt : ∀ k, (V i).ownBlock = some k → B + 2 ≤ k := fun k hk => ((h.fam.own i hi).lt k hk).1
  exact h.s.kept hg (fun e => by have := hlt _ e.symm; omega)

theorem Built.push {w1 : World} {c g cap : Nat} (h : Built w wr J B kb k P V X) (hc : byteAt (J.A k) 0 = c) (hc2 : c < 256) (hg : wr.grownBy w1 (V (2 * c)).ownBlock)
    (ho : w1.ownsRow (B + 2) 3 1 (.slice (some ⟨g, 0, none⟩) ((X (2 * c)).length + 1) cap) ((X (2 * c)).length + 1) (X (2 * c) ++ [nv k])) (hloc : (V (2 * c)).ownBlock = some g ∨ wr.heap.size ≤ g) :
    Built w (w1.setCell ⟨B + 1, c, none⟩ (.slice (some ⟨g, 0, none⟩) ((X (2 * c)).length + 1) cap)) J B kb (k + 1) P (upd V (2 * c) (.slice (some ⟨g, 0, none⟩) ((X (2 * c)).length + 1) cap)) (upd X (2 * c) (X (2 * c) ++ [nv k])) := by
  have hlt : ∀ k, (V (2 * c)).ownBlock = some k → B + 2 ≤ k := fun k hk => ((h.fam.own (2 * c) (by omega)).lt k hk).1
  have hr := h.room
  have hg2 := grownBy_setCell w1 ⟨B + 1, c, none⟩ (.slice (some ⟨g, 0, none⟩) ((X (2 * c)).length + 1) cap)
  refine ⟨(h.p.kept hg (fun e => ?_)).kept hg2 (nsome (by simp)), h.lt, h.bits, ?_, ?_, fun c' hc' => ?_, ?_, Nat.le_trans (Nat.le_trans hr hg.size) hg2.size⟩
  · have := hlt _ e.symm; omega
  · refine ((h.s.kept hg (fun e => ?_)).setTab c _).tabEq (fun m _ => ?_)
    · have := hlt _ e.symm; omega
    · by_cases e : m = c
      · subst e; rw [if_pos rfl, upd_same]
      · rw [if_neg e, upd_other _ _ (by omega)]
  · exact (h.fam.push (by omega) hg (by rw [ety_even]; exact ho) hloc).low hg2 (by show B + 1 < B + 2; omega)
  · rw [Job.ks_succ]
    by_cases e : c' = c
    · subst e
      rw [upd_same, if_pos hc, h.ks c' hc']
      simp
    · rw [upd_other _ _ (show 2 * c' ≠ 2 * c by omega), if_neg (by rw [hc]; exact fun q => e q.symm), h.ks c' hc']
  · exact (h.below.grown hg (by omega) (fun j hj => by have := hlt _ hj; omega)).grown hg2 (by have := hg.size; omega) (fun j hj => by injection hj with hj; simp at hj; omega)

theorem Built.parts (h : Built w wr J B J.nA J.nA P V X) : Parts wr J (Tab 1024 (fun i => Value.int .u64 (P i : Int))).toArray (Tab 256 (fun c => V (2 * c))).toArray P := by
  refine ⟨by simp [Tab.length], by simp [Tab.length], fun i hi => ⟨by simp only [List.getElem?_toArray]; exact Tab.get _ _ _ hi, h.lt i hi⟩, fun k hk => h.bits k hk, fun c hc => ?_⟩
  obtain ⟨a, cap, hv, hcell⟩ := h.fam.cellAt (Below.refl _ _) (i := 2 * c) (by omega)
  have hx := h.ks c hc
  refine ⟨a, cap, ?_, fun t ht => ?_⟩
  · simp only [List.getElem?_toArray]
    rw [Tab.get _ _ _ hc, hv, hx, List.length_map]
  · have hj : (X (2 * c))[t]? = some (nv (J.upto c t)) := by
      rw [hx, List.getElem?_map, List.getElem?_eq_getElem ht]
      unfold Job.upto
      rw [List.getD_eq_getElem?_getD, List.getElem?_eq_getElem ht]
      rfl
    obtain ⟨g, h1, h2⟩ := hcell t _ hj
    have hlt : 0 < (X (2 * c)).length := by rw [hx, List.length_map]; omega
    obtain ⟨g', cap', q1, _, q2, _⟩ := owns_open (h.fam.own (2 * c) (by omega)) hlt
    rw [hv, h1] at q1
    injection q1 with q1 _ _
    injection q1 with q1
    injection q1 with q1 _ _
    exact ⟨g, 0, h1, by rw [q1]; exact q2, by rw [Nat.zero_add]; exact h2⟩
end

theorem arr_tab (n : Nat) (v : Value) : Array.replicate n v = (Tab n (fun _ => v)).toArray := by rw [← tab_replicate]; simp

theorem built_init (w : World) (J : Job) : Built w ((w.alloc (.cells (Array.replicate 1024 (.int .u64 0)) 36)).alloc (.cells (Array.replicate 256 (.slice none 0 0)) 38)) J w.heap.size 0 0 (fun _ => 0) (fun _ => .slice none 0 0) (fun _ => []) := by
  refine ⟨?_, fun i _ => by omega, fun k' hk' => absurd hk' (Nat.not_lt_zero _), ?_, ⟨fun i _ => World.ownsRow_nil _ _ _ _, fun i j _ _ _ g h => by simp [Value.ownBlock] at h⟩, fun c _ => by simp [Job.ks], ?_, by simp⟩
  · exact (row_at rfl (arr_tab 1024 (.int .u64 0))).alloc _
  · exact row_at (by simp) (arr_tab 256 (.slice none 0 0))
  · exact ((Below.refl _ _).alloc (Nat.le_refl _) _).alloc (by simp) _
end Go.Proofs.Qxb6602558a
