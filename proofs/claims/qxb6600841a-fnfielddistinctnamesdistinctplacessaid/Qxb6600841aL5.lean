import Derived.Test.Qxb6600841aW2
import Derived.Deep.DeepCutAuto
namespace Go.Proofs.Qxb6600841a
open Go.RowKit
set_option linter.unusedVariables false

def Copied (w : World) (l : Nat) (bs : List UInt8) (v : Value) (wx : World) : Prop :=
  ∃ a c, v = .slice a l c ∧ (a = none → l = 0 ∧ c = 0) ∧ Reads 0 wx a (asBytes bs) ∧ Below w.heap.size w wx

set_option maxRecDepth 100000 in
set_option maxHeartbeats 2000000 in
theorem walk (a0 a1 : Option Addr) (l0 l1 c0 c1 : Nat) (z0 z1 : List UInt8) (w : World) (v0 : VBytes w a0 l0 c0 z0) (v1 : VBytes w a1 l1 c1 z1) :
    Calls Try.prog 5 #[.slice a0 l0 c0, .slice a1 l1 c1] w fun e w' => e = .returned (.bool true) ∧ Below w.heap.size w w' := by
  have K := hide (bytes_any a0 a1 l0 l1 c0 c1 w v0.max v1.max)
  have hneq := fun (w : World) (a : Option Addr) (n c : Nat) => run_neq_slice_nil_any (P := Try.prog) w 22 5 a n c 0 0 Try.underlying22
  go_enter Try.func5, Try.ntmps5
  go_wp2_with fail
  refine Calls.mono (Hid.out K) ?_
  rintro e w1 ⟨r1, rfl, hw, hsm⟩
  subst w1
  cases r1 with
  | false =>
    go_wp2
    go_ret
    exact ⟨rfl, Below.refl _ _⟩
  | true =>
    obtain ⟨g0, g1⟩ := hsm rfl
    clear K hsm
    by_cases f0 : 65536 < l0
    · go_wp2
      go_ret
      exact ⟨rfl, Below.refl _ _⟩
    by_cases f1 : 65536 < l1
    · go_wp2
      go_ret
      exact ⟨rfl, Below.refl _ _⟩
    have hm0 := mk_bytes l0 g0
    have hm1 := mk_bytes l1 g1
    go_upto_if 26 with fail
    go_cut [0, 5] (fun v t wx => Copied w l0 z0 v wx)
    case first =>
      cases a0 with
      | none =>
        go_wp2
        go_meet
        exact ⟨none, c0, rfl, v0.nil, v0.reads, Below.refl _ _⟩
      | some x =>
        obtain ⟨W1, hcp, hrow, hb1⟩ := copy_fresh w x l0 c0 z0 v0.len v0.reads
        rw [List.toArray_replicate] at hcp
        have Hrow := hide hrow
        have Hb1 := hide hb1
        clear hrow hb1
        go_wp2
        go_meet
        exact ⟨_, l0, rfl, by simp, Hrow.out.reads.mono (Nat.zero_le _), Hb1.out⟩
    case rest =>
      obtain ⟨b0, d0, rfl, n0, R0, B1⟩ := hcut
      go_upto_if 35 with fail
      go_cut [1, 6] (fun v t wx => Copied wc l1 z1 v wx)
      case first =>
        cases a1 with
        | none =>
          go_wp2
          go_meet
          exact ⟨none, c1, rfl, v1.nil, v1.reads.below B1 (Nat.le_refl _), Below.refl _ _⟩
        | some x =>
          obtain ⟨W1, hcp, hrow, hb1⟩ := copy_fresh wc x l1 c1 z1 v1.len (v1.reads.below B1 (Nat.le_refl _))
          rw [List.toArray_replicate] at hcp
          have Hrow := hide hrow
          have Hb1 := hide hb1
          clear hrow hb1
          go_wp2
          go_meet
          exact ⟨_, l1, rfl, by simp, Hrow.out.reads.mono (Nat.zero_le _), Hb1.out⟩
      case rest =>
        rename World => wd
        obtain ⟨b1, d1, rfl, n1, R1, B2⟩ := hcut
        replace R0 := R0.below B2 (Nat.le_refl _)
        replace B2 := B1.trans (B2.mono B1.size)
        have hl0 := v0.len
        have hl1 := v1.len
        subst hl0 hl1
        obtain ⟨o0, ho0⟩ := exists_idx z0
        obtain ⟨o1, ho1⟩ := exists_idx z1
        clear v0 v1 B1
        have hB := B2.size
        have B3 := B2.alloc hB (.cells (List.replicate 8 (.slice none 0 0)).toArray 27)
        have hb3 := (Below.refl wd.heap.size wd).alloc (Nat.le_refl _) (.cells (List.replicate 8 (.slice none 0 0)).toArray 27)
        replace R0 := R0.below hb3 (Nat.le_refl _)
        replace R1 := R1.below hb3 (Nat.le_refl _)
        go_wp2_with fail
        refine (zzField_any wd.heap.size b0 d0 z0 o0 ho0 _ n0 R0).mono ?_
        rintro e w1 ⟨rfl, hw⟩
        subst w1
        go_wp2_with fail
        refine (zzField_any wd.heap.size b1 d1 z1 o1 ho1 _ n1 R1).mono ?_
        rintro e w1 ⟨rfl, hw⟩
        subst w1
        go_wp2_with fail
        refine (index_any b0 d0 z0 o0 ho0 _ g0 R0).mono ?_
        rintro e w1 ⟨rfl, m1, hw⟩
        subst w1
        go_wp2_with fail
        refine (index_any b1 d1 z1 o1 ho1 ((wd.alloc (.cells #[.slice none 0 0, .slice none 0 0, .slice none 0 0, .slice none 0 0, .slice none 0 0, .slice none 0 0, .slice none 0 0, .slice none 0 0] 27)).drewN m1) g1 (lo := 0) (fun i hi => R1 i hi)).mono ?_
        rintro e w1 ⟨rfl, m2, hw⟩
        subst w1
        have e1 := eq_ptr wd.heap.size
        have e2 := eq_nil
        have e3 := ne_nil
        have e4 := nil_nil
        have hbool : ∀ (x y : Bool) (w : World), (binOp .eql 4 (.bool x) (.bool y)).run Try.prog w = .ok (.bool (x == y)) w := fun x y w => by cases x <;> cases y <;> kernel_rfl
        have hbooln : ∀ (x y : Bool) (w : World), (binOp .neq 4 (.bool x) (.bool y)).run Try.prog w = .ok (.bool (x != y)) w := fun x y w => by cases x <;> cases y <;> kernel_rfl
        have hfin : Below w.heap.size w ((((wd.alloc (.cells #[.slice none 0 0, .slice none 0 0, .slice none 0 0, .slice none 0 0, .slice none 0 0, .slice none 0 0, .slice none 0 0, .slice none 0 0] 27)).drewN (m1 + m2)))) := below_drewN B3 _
        have Hfin := hide hfin
        have Hi0 := hide ho0
        have Hi1 := hide ho1
        clear hfin R0 R1 B2 B3 hb3 n0 n1 hneq hm0 hm1 ho0 ho1
        cases o0 with
        | none =>
          cases o1 with
          | none =>
            simp only [ptrOf, idxOf]
            go_wp2
            go_ret
            exact ⟨rfl, Hfin.out⟩
          | some k =>
            simp only [ptrOf, idxOf]
            go_wp2
            go_ret
            exact ⟨rfl, Hfin.out⟩
        | some j =>
          cases o1 with
          | none =>
            simp only [ptrOf, idxOf]
            go_wp2
            go_ret
            exact ⟨rfl, Hfin.out⟩
          | some k =>
            simp only [ptrOf, idxOf]
            by_cases hjk : j = k
            · subst hjk
              have hd : decide (j = j) = true := by simp
              go_wp2
              go_ret
              exact ⟨rfl, Hfin.out⟩
            · have hd : decide (j = k) = false := decide_eq_false hjk
              have hd2 : ((j : Int) == (k : Int)) = false := beq_eq_false_iff_ne.2 (by omega)
              go_wp2
              go_ret
              exact ⟨rfl, Hfin.out⟩
end Go.Proofs.Qxb6600841a
