/-
  CLASSES IN RANGE, AND A NODE OF EACH.
-/
import Derived.Test.Qxb6602044aD2
namespace Go.Proofs.Qxb6602044a
open Go.RowKit
set_option linter.unusedVariables false

set_option maxRecDepth 100000 in
set_option maxHeartbeats 1000000 in
theorem range_any {w : World} {bc N K : Nat} {cmp : Nat → Nat} (hr : Row w bc 3 (Tab N (fun v => nv (cmp v)))) (hlt : ∀ v, v < N → cmp v < K) (hN : N ≤ 131072) (hK : K ≤ 131072) :
    Calls Try.prog 14 #[.slice (some ⟨bc, 0, none⟩) N N, .int .i64 (N : Int), .int .i64 (K : Int)] w fun e w' => e = .returned (.bool true) ∧ w' = w := by
  have Hr := hide hr
  have Hlt := hide hlt
  have hb : ((N : Int) != (N : Int)) = false := by simp
  clear hr hlt
  go_enter Try.func14, Try.ntmps14
  go_wp2
  go_loopw [7] (fun i wr => ∃ k : Nat, k ≤ N ∧ i = .int .i64 k ∧ wr = w) (fun i _ => N - (intOf i).toNat)
  case atStart => exact ⟨0, Nat.zero_le _, rfl, rfl⟩
  case round =>
    obtain ⟨k, hk, rfl, rfl⟩ := hrel
    by_cases hkn : k < N
    · have hki : (k : Int) < (N : Int) := by omega
      have hc : wr.cell? ⟨bc, k, none⟩ = some (.int .i64 (cmp k : Int)) := Hr.out.cellTab hkn
      have hck := Hlt.out k hkn
      generalize cmp k = x at hc hck
      have h0 : ¬ ((x : Int) < 0) := by omega
      have h1 : ¬ ((K : Int) ≤ (x : Int)) := by omega
      go_wp2
      go_roundw
      case rel => exact ⟨k + 1, by omega, by go_num, trivial⟩
      case measure => simp [intOf]; omega
    · go_wp2
      go_ret
      exact ⟨rfl, rfl⟩

/-- what zzClassReps hands back -/
def RepsOut (w : World) (K N : Nat) (cmp : Nat → Nat) (e : Ending) (w' : World) : Prop :=
  ∃ rep : Nat → Nat, e = .returned (.slice (some ⟨w.heap.size, 0, none⟩) K K) ∧ Row w' w.heap.size 3 (Tab K (fun c => nv (rep c))) ∧ (∀ c, c < K → rep c < N ∧ cmp (rep c) = c) ∧ w'.heap.size = w.heap.size + 1 ∧ Below w.heap.size w w'

def RepsRel (w : World) (K N : Nat) (cmp : Nat → Nat) (k : Nat) (wr : World) : Prop :=
  ∃ rep : Nat → Int, Row wr w.heap.size 3 (Tab K (fun c => .int .i64 (rep c))) ∧ (∀ c, c < K → (rep c = -1 ∧ ∀ v, v < k → cmp v ≠ c) ∨ ∃ r : Nat, r < N ∧ rep c = (r : Int) ∧ cmp r = c) ∧ wr.heap.size = w.heap.size + 1 ∧ Below w.heap.size w wr

set_option maxRecDepth 100000 in
set_option maxHeartbeats 1000000 in
theorem reps_any {w : World} {bc N K : Nat} {cmp : Nat → Nat} (hr : Row w bc 3 (Tab N (fun v => nv (cmp v)))) (hlt : ∀ v, v < N → cmp v < K) (hsome : ∀ c, c < K → ∃ v, v < N ∧ cmp v = c) (hN : N ≤ 131072) (hK : K ≤ 131072) :
    Calls Try.prog 15 #[.slice (some ⟨bc, 0, none⟩) N N, .int .i64 (K : Int), .bool false] w (RepsOut w K N cmp) := by
  have Hr := hide hr
  have Hlt := hide hlt
  have Hsome := hide hsome
  have hne : bc ≠ w.heap.size := by have := hr.lt; omega
  clear hr hlt hsome
  have hmk := mk_ints K (by omega)
  go_enter Try.func15, Try.ntmps15
  go_wp2
  clear hmk
  go_loopw [8] (fun i wr => ∃ k : Nat, k ≤ K ∧ i = .int .i64 k ∧ Row wr w.heap.size 3 (Tab K (fun c => if c < k then .int .i64 (-1) else .int .i64 0)) ∧ wr.heap.size = w.heap.size + 1 ∧ Below w.heap.size w wr) (fun i _ => K - (intOf i).toNat)
  case atStart =>
    refine ⟨0, Nat.zero_le _, rfl, ?_, by simp, (Below.refl _ _).alloc (Nat.le_refl _) _⟩
    refine row_at rfl ?_
    unfold Tab
    simp [List.map_const']
  case round =>
    obtain ⟨k, hk, rfl, hrow, hsz, hb⟩ := hrel
    by_cases hkn : k < K
    · have hki : (k : Int) < (K : Int) := by omega
      have hc := hrow.cellTab hkn
      have hf := hrow.frozen k
      generalize (if k < k then Value.int .i64 (-1) else Value.int .i64 0) = y at hc
      have Hrow := hide ((hrow.setTab k (.int .i64 (-1))).tabEq (G := fun c => if c < k + 1 then .int .i64 (-1) else .int .i64 0) (fun m _ => by
        by_cases h : m = k
        · subst h; rw [if_pos rfl, if_pos (by omega)]
        · rw [if_neg h]
          by_cases h2 : m < k
          · rw [if_pos h2, if_pos (by omega)]
          · rw [if_neg h2, if_neg (by omega)]))
      have Hsz := hide hsz
      have Hb := hide hb
      clear hrow hsz hb
      go_wp2
      go_roundw
      case rel => exact ⟨k + 1, by omega, by go_num, Hrow.out, by simpa [World.setCell] using Hsz.out, Hb.out.setCell (by simp) _⟩
      case measure => simp [intOf]; omega
    · have Hrel : Hid (RepsRel w K N cmp 0 wr) := hide ⟨fun _ => -1, hrow.tabEq (fun m hm => by rw [if_pos (by omega)]), fun c _ => .inl ⟨rfl, fun v hv => absurd hv (Nat.not_lt_zero _)⟩, hsz, hb⟩
      clear hrow hsz hb
      go_wp2
      go_loopw [9] (fun i wr => ∃ j : Nat, j ≤ N ∧ i = .int .i64 j ∧ RepsRel w K N cmp j wr) (fun i _ => N - (intOf i).toNat)
      case atStart => exact ⟨0, Nat.zero_le _, rfl, Hrel.out⟩
      case round =>
        clear Hrel
        obtain ⟨j, hj, rfl, rep, hrow, hrep, hsz, hb⟩ := hrel
        by_cases hjn : j < N
        · have hji : (j : Int) < (N : Int) := by omega
          have hc : wr.cell? ⟨bc, j, none⟩ = some (.int .i64 (cmp j : Int)) := by rw [hb.cell (p := ⟨bc, j, none⟩) Hr.out.lt]; exact Hr.out.cellTab hjn
          have hck := Hlt.out j hjn
          have hd := hrow.cellTab hck
          have hf := hrow.frozen (cmp j)
          have hrc := hrep _ hck
          have Hrow := hide hrow
          have Hsz := hide hsz
          have Hb := hide hb
          have Hrep := hide hrep
          clear hrow hsz hb hrep
          obtain ⟨x, Hx⟩ : ∃ x, Hid (cmp j = x) := ⟨_, hide rfl⟩
          rw [Hx.out] at hc hck hd hf hrc
          have hxi : (x : Int) < (K : Int) := by omega
          by_cases hneg : rep x < 0
          · have Hhc := hide hrc
            clear hrc
            generalize hy : rep x = y at hd hneg
            clear hy
            go_wp2
            go_roundw
            case rel =>
              refine ⟨j + 1, by omega, by go_num, fun c => if c = x then (j : Int) else rep c, ?_, fun c hc => ?_, by simpa [World.setCell] using Hsz.out, Hb.out.setCell (by simp) _⟩
              · exact (Hrow.out.setTab x (.int .i64 (j : Int))).tabEq (fun m _ => by by_cases h : m = x <;> simp [h])
              · by_cases h : c = x
                · subst h
                  exact .inr ⟨j, hjn, by simp, Hx.out⟩
                · simp only [if_neg h]
                  rcases Hrep.out c hc with ⟨h1, h2⟩ | h1
                  · refine .inl ⟨h1, fun v hv => ?_⟩
                    by_cases hvj : v = j
                    · subst hvj; rw [Hx.out]; exact Ne.symm h
                    · exact h2 v (by omega)
                  · exact .inr h1
            case measure => simp [intOf]; omega
          · obtain ⟨r, hr1, hr2, hr3⟩ := hrc.resolve_left (fun h => hneg (by rw [h.1]; decide))
            have Hr2 := hide hr2
            have Hr3 := hide hr3
            generalize hy : rep x = y at hd hneg
            clear hy hrc hr2 hr3
            go_wp2
            go_roundw
            case rel =>
              refine ⟨j + 1, by omega, by go_num, rep, Hrow.out, fun c hc => ?_, Hsz.out, Hb.out⟩
              by_cases h : c = x
              · subst h
                exact .inr ⟨r, hr1, Hr2.out, Hr3.out⟩
              · rcases Hrep.out c hc with ⟨h1, h2⟩ | h1
                · refine .inl ⟨h1, fun v hv => ?_⟩
                  by_cases hvj : v = j
                  · subst hvj; rw [Hx.out]; exact Ne.symm h
                  · exact h2 v (by omega)
                · exact .inr h1
            case measure => simp [intOf]; omega
        · have Hfin : Hid (RepsOut w K N cmp (.returned (.slice (some ⟨w.heap.size, 0, none⟩) K K)) wr) := by
            have hall : ∀ c, c < K → ∃ r : Nat, r < N ∧ rep c = (r : Int) ∧ cmp r = c := fun c hc => by
              rcases hrep c hc with ⟨h1, h2⟩ | h1
              · obtain ⟨v, hv, he⟩ := Hsome.out c hc
                exact absurd he (h2 v (by omega))
              · exact h1
            refine hide ⟨fun c => (rep c).toNat, rfl, hrow.tabEq (fun c hc => ?_), fun c hc => ?_, hsz, hb⟩
            · obtain ⟨r, _, h2, _⟩ := hall c hc
              show _ = nv (rep c).toNat
              rw [h2, Int.toNat_natCast]; rfl
            · obtain ⟨r, h1, h2, h3⟩ := hall c hc
              show (rep c).toNat < N ∧ cmp (rep c).toNat = c
              rw [h2, Int.toNat_natCast]
              exact ⟨h1, h3⟩
          clear hrow hsz hb hrep
          go_wp2
          go_ret
          exact Hfin.out
end Go.Proofs.Qxb6602044a
