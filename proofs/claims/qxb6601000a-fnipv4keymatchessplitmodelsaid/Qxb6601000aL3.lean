import Derived.Test.Qxb6601000aW3
namespace Go.Proofs.Qxb6601000a
open Go.RowKit
set_option linter.unusedVariables false

set_option maxRecDepth 100000 in
set_option maxHeartbeats 2000000 in
theorem law_any (s : ByteArray) (w : World) (hs : s.size ≤ 9223372036854775807) :
    Calls Try.prog 3 #[.string s] w fun e w' => e = .returned (.bool true) ∧ w' = w := by
  have K8 := bytes_any s w hs
  by_cases hb : s.size ≤ 1048576
  · rw [decide_eq_true hb] at K8
    have K9 := zzKey_any s w hb
    have K10 := model_any s w hb
    have heq : keyP mix 3 0 s.data.toList = modelP s.data.toList := by unfold modelP; exact key_eq mix 3 0 _
    rw [heq] at K9
    clear heq
    generalize modelP s.data.toList = o at K9 K10
    have H8 := hide K8
    have H9 := hide K9
    have H10 := hide K10
    have hbi : ¬ (1048576 < (s.size : Int)) := by omega
    clear K8 K9 K10
    cases o with
    | none =>
      go_enter Try.func3, Try.ntmps3
      go_wp2_with fail
      refine Calls.mono (Hid.out H8) ?_
      rintro e1 w1 ⟨rfl, hw⟩
      subst w1
      go_wp2_with fail
      refine Calls.mono (Hid.out H9) ?_
      rintro e1 w1 ⟨a, rfl, hw, ha⟩
      subst w1
      clear ha
      simp only [Option.isSome_none]
      go_wp2_with fail
      refine Calls.mono (Hid.out H10) ?_
      rintro e1 w1 ⟨b, rfl, hw, hb⟩
      subst w1
      clear hb
      simp only [Option.isSome_none]
      go_wp2
      go_ret
      exact ⟨rfl, rfl⟩
    | some v =>
      go_enter Try.func3, Try.ntmps3
      go_wp2_with fail
      refine Calls.mono (Hid.out H8) ?_
      rintro e1 w1 ⟨rfl, hw⟩
      subst w1
      go_wp2_with fail
      refine Calls.mono (Hid.out H9) ?_
      rintro e1 w1 ⟨a, rfl, hw, ha⟩
      subst w1
      have := ha v rfl
      subst this
      clear ha
      simp only [Option.isSome_some]
      go_wp2_with fail
      refine Calls.mono (Hid.out H10) ?_
      rintro e1 w1 ⟨b, rfl, hw, hb⟩
      subst w1
      have := hb _ rfl
      subst this
      clear hb
      simp only [Option.isSome_some]
      go_wp2
      go_ret
      exact ⟨rfl, rfl⟩
  · rw [decide_eq_false hb] at K8
    have H8 := hide K8
    clear K8
    go_enter Try.func3, Try.ntmps3
    go_wp2_with fail
    refine Calls.mono (Hid.out H8) ?_
    rintro e1 w1 ⟨rfl, hw⟩
    subst w1
    go_wp2
    go_ret
    exact ⟨rfl, rfl⟩
end Go.Proofs.Qxb6601000a
