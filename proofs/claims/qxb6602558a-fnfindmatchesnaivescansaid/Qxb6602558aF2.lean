/-
  hold: THE BYTES NEXT TO A PLACE.
-/
import Derived.Test.Qxb6602558aF1
namespace Go.Proofs.Qxb6602558a
open Go.RowKit
set_option linter.unusedVariables false

/-- a pointer to a set of bytes, or nil -/
def SetAt (w : World) (v : Value) (S : Option (Nat → Bool)) : Prop :=
  (v = .pointer none ∧ S = none) ∨ ∃ b off f, v = .pointer (some ⟨b, off, none⟩) ∧ S = some f ∧ b < w.heap.size ∧ ∀ c, c < 256 → w.cell? ⟨b, off + c, none⟩ = some (.bool (f c))

theorem SetAt.below {w w' : World} {v : Value} {S : Option (Nat → Bool)} (h : SetAt w v S) (hb : Below w.heap.size w w') : SetAt w' v S := by
  rcases h with h | ⟨b, off, f, h1, h2, h3, h4⟩
  · exact .inl h
  · exact .inr ⟨b, off, f, h1, h2, Nat.lt_of_lt_of_le h3 hb.size, fun c hc => by rw [hb.cell (p := ⟨b, off + c, none⟩) h3]; exact h4 c hc⟩

/-- the bytes next to T's part from s to e are of the two sets -/
def Hold (T : ByteArray) (S1 S2 : Option (Nat → Bool)) (s e : Nat) : Prop :=
  (∀ f, S1 = some f → s = 0 ∨ f (byteAt T (s - 1)) = true) ∧ ∀ f, S2 = some f → e < T.size ∧ f (byteAt T e) = true

/-- a test that draws and makes memory of its own -/
def Tells2 (w : World) (P : Prop) (e : Ending) (w' : World) : Prop := ∃ b : Bool, e = .returned (.bool b) ∧ (b = true ↔ P) ∧ w.grownBy w' none

theorem grown_drews {w w' : World} {row : Option Nat} (h : w.grownBy w' row) (n : Nat) : w.grownBy (w'.drewN n) row := by
  induction n with
  | zero => exact h
  | succ n ih => exact ⟨ih.os, ih.tape, ih.output, ih.size, ih.block⟩

set_option maxRecDepth 100000 in
set_option maxHeartbeats 4000000 in
theorem hold_any (w : World) (T : ByteArray) (s e : Nat) (pb pa : Value) (S1 S2 : Option (Nat → Bool)) (h1 : SetAt w pb S1) (h2 : SetAt w pa S2) (hs : s ≤ T.size) (hsT : s ≤ e) (he : e ≤ T.size) (hT : T.size ≤ 1048576) :
    Calls Try.prog 31 #[.agg #[pb, pa], .string T, .int .i64 (s : Int), .int .i64 (e : Int)] w (Tells2 w (Hold T S1 S2 s e)) := by
  rcases h1 with ⟨rfl, hS1⟩ | ⟨b1, o1, f1, rfl, hS1, hb1, hc1⟩
  · rcases h2 with ⟨rfl, hS2⟩ | ⟨b2, o2, f2, rfl, hS2, hb2, hc2⟩
    · have HF : Hid (Hold T S1 S2 s e) := hide (⟨fun f hf => (by rw [hS1] at hf; cases hf), fun f hf => (by rw [hS2] at hf; cases hf)⟩)
      clear hS1 hS2
      go_enter Try.func31, Try.ntmps31
      go_upto_region 1 with fail
      go_quiet (fail)
      go_wp2
      go_ret
      exact ⟨true, by simp, ⟨fun _ => HF.out, fun _ => rfl⟩, grown_drews (World.grownBy_alloc _ _ _) nq⟩
    · by_cases helt : e < T.size
      · have heI : (e : Int) < (T.size : Int) := by omega
        have hdI : decide ((e : Int) < (T.size : Int)) = true := decide_eq_true heI
        have hbe := byteAt_in helt
        have KA := hide (fun k => has_any ((w.alloc (.cells #[.pointer none, .pointer (some ⟨b2, o2, none⟩)] 60)).drewN k) b2 o2 (byteAt T e) (f2 (byteAt T e)) (byteAt_lt T e) (show (w.alloc _).cell? _ = _ from by rw [((Below.refl w.heap.size w).alloc (Nat.le_refl _) _).cell (p := ⟨b2, o2 + byteAt T e, none⟩) hb2]; exact hc2 _ (byteAt_lt T e)))
        cases hf2 : f2 (byteAt T e) with
        | true =>
          rw [hf2, hbe] at KA
          have HF : Hid (Hold T S1 S2 s e) := hide (⟨fun f hf => (by rw [hS1] at hf; cases hf), fun f hf => (by rw [hS2] at hf; injection hf with hf; subst hf; exact ⟨helt, hf2⟩)⟩)
          clear hS1 hS2
          go_enter Try.func31, Try.ntmps31
          go_upto_region 1 with fail
          go_quiet ((go_at_call 41; first | (refine Calls.mono (Hid.out KA _) ?_; rintro e1 w5 ⟨rfl, rfl⟩; exact ⟨rfl, _, rfl⟩)))
          go_wp2
          go_ret
          exact ⟨true, by simp, ⟨fun _ => HF.out, fun _ => rfl⟩, grown_drews (World.grownBy_alloc _ _ _) nq⟩
        | false =>
          rw [hf2, hbe] at KA
          have HF : Hid (¬ Hold T S1 S2 s e) := hide (fun h => by have := (h.2 f2 hS2).2; rw [hf2] at this; cases this)
          clear hS1 hS2
          go_enter Try.func31, Try.ntmps31
          go_upto_region 1 with fail
          go_quiet ((go_at_call 41; first | (refine Calls.mono (Hid.out KA _) ?_; rintro e1 w5 ⟨rfl, rfl⟩; exact ⟨rfl, _, rfl⟩)))
          go_wp2
          go_ret
          exact ⟨false, by simp, ⟨fun h => (by cases h), fun h => absurd h HF.out⟩, grown_drews (World.grownBy_alloc _ _ _) nq⟩
      · have heI : ¬ ((e : Int) < (T.size : Int)) := by omega
        have hdI : decide ((e : Int) < (T.size : Int)) = false := decide_eq_false heI
        have HF : Hid (¬ Hold T S1 S2 s e) := hide (fun h => helt (h.2 f2 hS2).1)
        clear hS1 hS2
        go_enter Try.func31, Try.ntmps31
        go_upto_region 1 with fail
        go_quiet (fail)
        go_wp2
        go_ret
        exact ⟨false, by simp, ⟨fun h => (by cases h), fun h => absurd h HF.out⟩, grown_drews (World.grownBy_alloc _ _ _) nq⟩
  · by_cases hs0 : s = 0
    · have hs0b : ((s : Int) == 0) = true := beq_iff_eq.2 (by omega)
      rcases h2 with ⟨rfl, hS2⟩ | ⟨b2, o2, f2, rfl, hS2, hb2, hc2⟩
      · have HF : Hid (Hold T S1 S2 s e) := hide (⟨fun f hf => .inl hs0, fun f hf => (by rw [hS2] at hf; cases hf)⟩)
        clear hS1 hS2 hs0
        go_enter Try.func31, Try.ntmps31
        go_upto_region 1 with fail
        go_quiet (fail)
        go_wp2
        go_ret
        exact ⟨true, by simp, ⟨fun _ => HF.out, fun _ => rfl⟩, grown_drews (World.grownBy_alloc _ _ _) nq⟩
      · by_cases helt : e < T.size
        · have heI : (e : Int) < (T.size : Int) := by omega
          have hdI : decide ((e : Int) < (T.size : Int)) = true := decide_eq_true heI
          have hbe := byteAt_in helt
          have KA := hide (fun k => has_any ((w.alloc (.cells #[.pointer (some ⟨b1, o1, none⟩), .pointer (some ⟨b2, o2, none⟩)] 60)).drewN k) b2 o2 (byteAt T e) (f2 (byteAt T e)) (byteAt_lt T e) (show (w.alloc _).cell? _ = _ from by rw [((Below.refl w.heap.size w).alloc (Nat.le_refl _) _).cell (p := ⟨b2, o2 + byteAt T e, none⟩) hb2]; exact hc2 _ (byteAt_lt T e)))
          cases hf2 : f2 (byteAt T e) with
          | true =>
            rw [hf2, hbe] at KA
            have HF : Hid (Hold T S1 S2 s e) := hide (⟨fun f hf => .inl hs0, fun f hf => (by rw [hS2] at hf; injection hf with hf; subst hf; exact ⟨helt, hf2⟩)⟩)
            clear hS1 hS2 hs0
            go_enter Try.func31, Try.ntmps31
            go_upto_region 1 with fail
            go_quiet ((go_at_call 41; first | (refine Calls.mono (Hid.out KA _) ?_; rintro e1 w5 ⟨rfl, rfl⟩; exact ⟨rfl, _, rfl⟩)))
            go_wp2
            go_ret
            exact ⟨true, by simp, ⟨fun _ => HF.out, fun _ => rfl⟩, grown_drews (World.grownBy_alloc _ _ _) nq⟩
          | false =>
            rw [hf2, hbe] at KA
            have HF : Hid (¬ Hold T S1 S2 s e) := hide (fun h => by have := (h.2 f2 hS2).2; rw [hf2] at this; cases this)
            clear hS1 hS2 hs0
            go_enter Try.func31, Try.ntmps31
            go_upto_region 1 with fail
            go_quiet ((go_at_call 41; first | (refine Calls.mono (Hid.out KA _) ?_; rintro e1 w5 ⟨rfl, rfl⟩; exact ⟨rfl, _, rfl⟩)))
            go_wp2
            go_ret
            exact ⟨false, by simp, ⟨fun h => (by cases h), fun h => absurd h HF.out⟩, grown_drews (World.grownBy_alloc _ _ _) nq⟩
        · have heI : ¬ ((e : Int) < (T.size : Int)) := by omega
          have hdI : decide ((e : Int) < (T.size : Int)) = false := decide_eq_false heI
          have HF : Hid (¬ Hold T S1 S2 s e) := hide (fun h => helt (h.2 f2 hS2).1)
          clear hS1 hS2 hs0
          go_enter Try.func31, Try.ntmps31
          go_upto_region 1 with fail
          go_quiet (fail)
          go_wp2
          go_ret
          exact ⟨false, by simp, ⟨fun h => (by cases h), fun h => absurd h HF.out⟩, grown_drews (World.grownBy_alloc _ _ _) nq⟩
    · have hs0b : ((s : Int) == 0) = false := beq_eq_false_iff_ne.2 (by omega)
      obtain ⟨m, Hm⟩ : ∃ m, Hid (s - 1 = m) := ⟨_, hide rfl⟩
      have hmT : m < T.size := by have := Hm.out; omega
      have hmi : (m : Int) < (T.size : Int) := by omega
      have hwr : IntKind.i64.wrap ((s : Int) - 1) = (m : Int) := by rw [IntKind.wrap_i64]; have := Hm.out; omega
      have hbm := byteAt_in hmT
      have KB0 := fun (o : Obj) k => has_any ((w.alloc o).drewN k) b1 o1 (byteAt T m) (f1 (byteAt T m)) (byteAt_lt T m) (show (w.alloc o).cell? _ = _ from by rw [((Below.refl w.heap.size w).alloc (Nat.le_refl _) _).cell (p := ⟨b1, o1 + byteAt T m, none⟩) hb1]; exact hc1 _ (byteAt_lt T m))
      have hmm := Hm.out
      cases hf1 : f1 (byteAt T m) with
      | true =>
        rw [hf1, hbm] at KB0
        have KB := hide (KB0 (.cells #[.pointer (some ⟨b1, o1, none⟩), pa] 60))
        rw [← hmm] at hf1
        clear KB0 hmm hbm hb1 hc1
        rcases h2 with ⟨rfl, hS2⟩ | ⟨b2, o2, f2, rfl, hS2, hb2, hc2⟩
        · have HF : Hid (Hold T S1 S2 s e) := hide (⟨fun f hf => .inr (by rw [hS1] at hf; injection hf with hf; subst hf; exact hf1), fun f hf => (by rw [hS2] at hf; cases hf)⟩)
          clear hS1 hS2
          go_enter Try.func31, Try.ntmps31
          go_upto_region 1 with fail
          go_quiet ((go_at_call 41; first | (refine Calls.mono (Hid.out KB _) ?_; rintro e1 w5 ⟨rfl, rfl⟩; exact ⟨rfl, _, rfl⟩)))
          go_wp2
          go_ret
          exact ⟨true, by simp, ⟨fun _ => HF.out, fun _ => rfl⟩, grown_drews (World.grownBy_alloc _ _ _) nq⟩
        · by_cases helt : e < T.size
          · have heI : (e : Int) < (T.size : Int) := by omega
            have hdI : decide ((e : Int) < (T.size : Int)) = true := decide_eq_true heI
            have hbe := byteAt_in helt
            have KA := hide (fun k => has_any ((w.alloc (.cells #[.pointer (some ⟨b1, o1, none⟩), .pointer (some ⟨b2, o2, none⟩)] 60)).drewN k) b2 o2 (byteAt T e) (f2 (byteAt T e)) (byteAt_lt T e) (show (w.alloc _).cell? _ = _ from by rw [((Below.refl w.heap.size w).alloc (Nat.le_refl _) _).cell (p := ⟨b2, o2 + byteAt T e, none⟩) hb2]; exact hc2 _ (byteAt_lt T e)))
            cases hf2 : f2 (byteAt T e) with
            | true =>
              rw [hf2, hbe] at KA
              have HF : Hid (Hold T S1 S2 s e) := hide (⟨fun f hf => .inr (by rw [hS1] at hf; injection hf with hf; subst hf; exact hf1), fun f hf => (by rw [hS2] at hf; injection hf with hf; subst hf; exact ⟨helt, hf2⟩)⟩)
              clear hS1 hS2
              go_enter Try.func31, Try.ntmps31
              go_upto_region 1 with fail
              go_quiet ((go_at_call 41; first | (refine Calls.mono (Hid.out KB _) ?_; rintro e1 w5 ⟨rfl, rfl⟩; exact ⟨rfl, _, rfl⟩) | (refine Calls.mono (Hid.out KA _) ?_; rintro e1 w5 ⟨rfl, rfl⟩; exact ⟨rfl, _, rfl⟩)))
              go_wp2
              go_ret
              exact ⟨true, by simp, ⟨fun _ => HF.out, fun _ => rfl⟩, grown_drews (World.grownBy_alloc _ _ _) nq⟩
            | false =>
              rw [hf2, hbe] at KA
              have HF : Hid (¬ Hold T S1 S2 s e) := hide (fun h => by have := (h.2 f2 hS2).2; rw [hf2] at this; cases this)
              clear hS1 hS2
              go_enter Try.func31, Try.ntmps31
              go_upto_region 1 with fail
              go_quiet ((go_at_call 41; first | (refine Calls.mono (Hid.out KB _) ?_; rintro e1 w5 ⟨rfl, rfl⟩; exact ⟨rfl, _, rfl⟩) | (refine Calls.mono (Hid.out KA _) ?_; rintro e1 w5 ⟨rfl, rfl⟩; exact ⟨rfl, _, rfl⟩)))
              go_wp2
              go_ret
              exact ⟨false, by simp, ⟨fun h => (by cases h), fun h => absurd h HF.out⟩, grown_drews (World.grownBy_alloc _ _ _) nq⟩
          · have heI : ¬ ((e : Int) < (T.size : Int)) := by omega
            have hdI : decide ((e : Int) < (T.size : Int)) = false := decide_eq_false heI
            have HF : Hid (¬ Hold T S1 S2 s e) := hide (fun h => helt (h.2 f2 hS2).1)
            clear hS1 hS2
            go_enter Try.func31, Try.ntmps31
            go_upto_region 1 with fail
            go_quiet ((go_at_call 41; first | (refine Calls.mono (Hid.out KB _) ?_; rintro e1 w5 ⟨rfl, rfl⟩; exact ⟨rfl, _, rfl⟩)))
            go_wp2
            go_ret
            exact ⟨false, by simp, ⟨fun h => (by cases h), fun h => absurd h HF.out⟩, grown_drews (World.grownBy_alloc _ _ _) nq⟩
      | false =>
        rw [hf1, hbm] at KB0
        have KB := hide (KB0 (.cells #[.pointer (some ⟨b1, o1, none⟩), pa] 60))
        rw [← hmm] at hf1
        clear KB0 hmm hbm hb1 hc1
        have HF : Hid (¬ Hold T S1 S2 s e) := hide (fun h => by rcases h.1 f1 hS1 with h | h; exact hs0 h; rw [hf1] at h; cases h)
        clear hS1
        go_enter Try.func31, Try.ntmps31
        go_upto_region 1 with fail
        go_quiet ((go_at_call 41; first | (refine Calls.mono (Hid.out KB _) ?_; rintro e1 w5 ⟨rfl, rfl⟩; exact ⟨rfl, _, rfl⟩)))
        go_wp2
        go_ret
        exact ⟨false, by simp, ⟨fun h => (by cases h), fun h => absurd h HF.out⟩, grown_drews (World.grownBy_alloc _ _ _) nq⟩
end Go.Proofs.Qxb6602558a
