/-
  zzBytes_FnFindMatchesNaiveScan: SOME ANSWER, NOTHING WRITTEN.
-/
import Derived.Test.Qxb6602558aF1
namespace Go.Proofs.Qxb6602558a
open Go.RowKit
set_option linter.unusedVariables false

def AnyB (w : World) (e : Ending) (w' : World) : Prop := w' = w ∧ ∃ b : Bool, e = .returned (.bool b)

/-- each element of a slice is of a kind -/
def Each (w : World) (a : Option Addr) (l : Nat) (Q : Value → Prop) : Prop := ∀ k, k < l → ∃ b off v, a = some ⟨b, off, none⟩ ∧ w.cell? ⟨b, off + k, none⟩ = some v ∧ Q v

set_option maxRecDepth 100000 in
set_option maxHeartbeats 4000000 in
theorem bytes14_any (w : World) (a0 a1 a2 a4 a5 : Option Addr) (l0 l1 l2 l4 l5 c0 c1 c2 c4 c5 : Nat) (L : Int) (T : ByteArray)
    (h0 : Each w a0 l0 (fun v => ∃ s, v = .string s)) (h1 : Each w a1 l1 (fun v => ∃ a l c, v = .slice a l c)) (h2 : Each w a2 l2 (fun v => ∃ a l c, v = .slice a l c))
    (h4 : Each w a4 l4 (fun v => v = .pointer none ∨ ∃ x, v = .pointer (some x))) (h5 : Each w a5 l5 (fun v => v = .pointer none ∨ ∃ x, v = .pointer (some x))) :
    Calls Try.prog 14 #[.slice a0 l0 c0, .slice a1 l1 c1, .slice a2 l2 c2, .int .i64 L, .slice a4 l4 c4, .slice a5 l5 c5, .string T] w (AnyB w) := by
  have H0 := hide h0
  have H1 := hide h1
  have H2 := hide h2
  have H4 := hide h4
  have H5 := hide h5
  clear h0 h1 h2 h4 h5
  by_cases k0 : (1048576 : Int) < (l0 : Int)
  · go_enter Try.func14, Try.ntmps14
    go_wp2
    go_ret
    exact ⟨rfl, _, rfl⟩
  go_enter Try.func14, Try.ntmps14
  go_wp2
  go_loopw [15, 16] (fun z i wr => ∃ n k : Nat, n ≤ 1048576 ∧ k ≤ l0 ∧ z = .int .i64 (n : Int) ∧ i = .int .i64 (k : Int) ∧ wr = w) (fun _ i _ => l0 - (intOf i).toNat)
  case atStart => exact ⟨l0, 0, by omega, Nat.zero_le _, by first | rfl | (congr 1; omega), rfl, rfl⟩
  case round =>
    obtain ⟨n, k, hn, hk, rfl, rfl, hw⟩ := hrel; replace hw := hw.symm; subst hw
    by_cases hlt : k < l0
    · have hki : (k : Int) < (l0 : Int) := by omega
      obtain ⟨b, off, v, rfl, hc, hv⟩ := H0.out k hlt
      obtain ⟨s, rfl⟩ := hv
      by_cases e1 : (1048576 : Int) < (s.size : Int)
      · go_wp2
        go_ret
        exact ⟨rfl, _, rfl⟩
      by_cases e2 : (1048576 : Int) < (n : Int) + (s.size : Int)
      · go_wp2
        go_ret
        exact ⟨rfl, _, rfl⟩
      go_wp2
      go_roundw
      case rel => exact ⟨n + s.size, k + 1, by omega, by omega, by first | rfl | (congr 1; omega) | go_num, by go_num, trivial⟩
      case measure => simp [intOf]; omega
    · have hki : ¬ ((k : Int) < (l0 : Int)) := by omega
      by_cases e1 : (1048576 : Int) < (l1 : Int)
      · go_wp2
        go_ret
        exact ⟨rfl, _, rfl⟩
      by_cases e2 : (1048576 : Int) < (n : Int) + (l1 : Int)
      · go_wp2
        go_ret
        exact ⟨rfl, _, rfl⟩
      go_wp2
      go_loopw [15, 17] (fun z i wr => ∃ n k : Nat, n ≤ 1048576 ∧ k ≤ l1 ∧ z = .int .i64 (n : Int) ∧ i = .int .i64 (k : Int) ∧ wr = w) (fun _ i _ => l1 - (intOf i).toNat)
      case atStart => exact ⟨n + l1, 0, by omega, Nat.zero_le _, by first | rfl | (congr 1; omega), rfl, rfl⟩
      case round =>
        obtain ⟨n, k, hn, hk, rfl, rfl, hw⟩ := hrel; replace hw := hw.symm; subst hw
        by_cases hlt : k < l1
        · have hki : (k : Int) < (l1 : Int) := by omega
          obtain ⟨b, off, v, rfl, hc, hv⟩ := H1.out k hlt
          obtain ⟨a, l, c, rfl⟩ := hv
          by_cases e1 : (1048576 : Int) < (l : Int)
          · go_wp2
            go_ret
            exact ⟨rfl, _, rfl⟩
          by_cases e2 : (1048576 : Int) < (n : Int) + (l : Int)
          · go_wp2
            go_ret
            exact ⟨rfl, _, rfl⟩
          go_wp2
          go_roundw
          case rel => exact ⟨n + l, k + 1, by omega, by omega, by first | rfl | (congr 1; omega) | go_num, by go_num, trivial⟩
          case measure => simp [intOf]; omega
        · have hki : ¬ ((k : Int) < (l1 : Int)) := by omega
          by_cases e1 : (1048576 : Int) < (l2 : Int)
          · go_wp2
            go_ret
            exact ⟨rfl, _, rfl⟩
          by_cases e2 : (1048576 : Int) < (n : Int) + (l2 : Int)
          · go_wp2
            go_ret
            exact ⟨rfl, _, rfl⟩
          go_wp2
          go_loopw [15, 18] (fun z i wr => ∃ n k : Nat, n ≤ 1048576 ∧ k ≤ l2 ∧ z = .int .i64 (n : Int) ∧ i = .int .i64 (k : Int) ∧ wr = w) (fun _ i _ => l2 - (intOf i).toNat)
          case atStart => exact ⟨n + l2, 0, by omega, Nat.zero_le _, by first | rfl | (congr 1; omega), rfl, rfl⟩
          case round =>
            obtain ⟨n, k, hn, hk, rfl, rfl, hw⟩ := hrel; replace hw := hw.symm; subst hw
            by_cases hlt : k < l2
            · have hki : (k : Int) < (l2 : Int) := by omega
              obtain ⟨b, off, v, rfl, hc, hv⟩ := H2.out k hlt
              obtain ⟨a, l, c, rfl⟩ := hv
              by_cases e1 : (1048576 : Int) < (l : Int)
              · go_wp2
                go_ret
                exact ⟨rfl, _, rfl⟩
              by_cases e2 : (1048576 : Int) < (n : Int) + (l : Int)
              · go_wp2
                go_ret
                exact ⟨rfl, _, rfl⟩
              go_wp2
              go_roundw
              case rel => exact ⟨n + l, k + 1, by omega, by omega, by first | rfl | (congr 1; omega) | go_num, by go_num, trivial⟩
              case measure => simp [intOf]; omega
            · have hki : ¬ ((k : Int) < (l2 : Int)) := by omega
              by_cases e1 : (1048576 : Int) < (l4 : Int)
              · go_wp2
                go_ret
                exact ⟨rfl, _, rfl⟩
              by_cases e2 : (1048576 : Int) < (n : Int) + (l4 : Int)
              · go_wp2
                go_ret
                exact ⟨rfl, _, rfl⟩
              go_wp2
              go_loopw [15, 19] (fun z i wr => ∃ n k : Nat, n ≤ 1048576 ∧ k ≤ l4 ∧ z = .int .i64 (n : Int) ∧ i = .int .i64 (k : Int) ∧ wr = w) (fun _ i _ => l4 - (intOf i).toNat)
              case atStart => exact ⟨n + l4, 0, by omega, Nat.zero_le _, by first | rfl | (congr 1; omega), rfl, rfl⟩
              case round =>
                obtain ⟨n, k, hn, hk, rfl, rfl, hw⟩ := hrel; replace hw := hw.symm; subst hw
                by_cases hlt : k < l4
                · have hki : (k : Int) < (l4 : Int) := by omega
                  obtain ⟨b, off, v, rfl, hc, hv⟩ := H4.out k hlt
                  rcases hv with rfl | ⟨x, rfl⟩
                  · go_wp2
                    go_roundw
                    case rel => exact ⟨n, k + 1, by omega, by omega, rfl, by go_num, trivial⟩
                    case measure => simp [intOf]; omega
                  · by_cases e2 : (1048576 : Int) < (n : Int) + 256
                    · go_wp2
                      go_ret
                      exact ⟨rfl, _, rfl⟩
                    go_wp2
                    go_roundw
                    case rel => exact ⟨n + 256, k + 1, by omega, by omega, by first | rfl | (congr 1; omega) | go_num, by go_num, trivial⟩
                    case measure => simp [intOf]; omega
                · have hki : ¬ ((k : Int) < (l4 : Int)) := by omega
                  by_cases e1 : (1048576 : Int) < (l5 : Int)
                  · go_wp2
                    go_ret
                    exact ⟨rfl, _, rfl⟩
                  by_cases e2 : (1048576 : Int) < (n : Int) + (l5 : Int)
                  · go_wp2
                    go_ret
                    exact ⟨rfl, _, rfl⟩
                  go_wp2
                  go_loopw [15, 20] (fun z i wr => ∃ n k : Nat, n ≤ 1048576 ∧ k ≤ l5 ∧ z = .int .i64 (n : Int) ∧ i = .int .i64 (k : Int) ∧ wr = w) (fun _ i _ => l5 - (intOf i).toNat)
                  case atStart => exact ⟨n + l5, 0, by omega, Nat.zero_le _, by first | rfl | (congr 1; omega), rfl, rfl⟩
                  case round =>
                    obtain ⟨n, k, hn, hk, rfl, rfl, hw⟩ := hrel; replace hw := hw.symm; subst hw
                    by_cases hlt : k < l5
                    · have hki : (k : Int) < (l5 : Int) := by omega
                      obtain ⟨b, off, v, rfl, hc, hv⟩ := H5.out k hlt
                      rcases hv with rfl | ⟨x, rfl⟩
                      · go_wp2
                        go_roundw
                        case rel => exact ⟨n, k + 1, by omega, by omega, rfl, by go_num, trivial⟩
                        case measure => simp [intOf]; omega
                      · by_cases e2 : (1048576 : Int) < (n : Int) + 256
                        · go_wp2
                          go_ret
                          exact ⟨rfl, _, rfl⟩
                        go_wp2
                        go_roundw
                        case rel => exact ⟨n + 256, k + 1, by omega, by omega, by first | rfl | (congr 1; omega) | go_num, by go_num, trivial⟩
                        case measure => simp [intOf]; omega
                    · have hki : ¬ ((k : Int) < (l5 : Int)) := by omega
                      by_cases e1 : (1048576 : Int) < (T.size : Int)
                      · go_wp2
                        go_ret
                        exact ⟨rfl, _, rfl⟩
                      by_cases e2 : (1048576 : Int) < (n : Int) + (T.size : Int)
                      · go_wp2
                        go_ret
                        exact ⟨rfl, _, rfl⟩
                      go_wp2
                      go_ret
                      exact ⟨rfl, _, rfl⟩
end Go.Proofs.Qxb6602558a
