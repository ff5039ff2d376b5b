import Derived.Test.Qxb6602044aW2
import Derived.Test.Qxb6602044aPl
namespace Go.Proofs.Qxb6602044a
open Go.RowKit
set_option linter.unusedVariables false

set_option maxRecDepth 100000 in
set_option maxHeartbeats 400000 in
theorem indexesIn_any (a : Option Addr) (len cap n : Nat) (xs : List Int) (w : World) (hl : xs.length = len) (hsz : len ≤ 1048576) {lo : Nat} (hr : Reads lo w a (xs.map (Value.int .i64))) :
    Calls Try.prog 30 #[.slice a len cap, .int .i64 n] w (RetB w (∀ x ∈ xs, idxOk x n)) := by
  have Hl := hide hl
  clear hl
  go_enter Try.func30, Try.ntmps30
  go_wp2
  go_loop [5] (fun i => ∃ k : Nat, k ≤ len ∧ i = .int .i64 k ∧ ∀ j (hj : j < xs.length), j < k → idxOk xs[j] n) (fun i => len - (intOf i).toNat)
  case atStart => exact ⟨0, Nat.zero_le _, rfl, fun j _ h => absurd h (by omega)⟩
  case round =>
    obtain ⟨k, hk, rfl, hall⟩ := hrel
    have Hall := hide hall
    clear hall
    by_cases hlt : k < len
    · have hkz : k < xs.length := by have := Hl.out; omega
      obtain ⟨b, off, rfl, _, _, hcell⟩ := hr k (by simpa using hkz)
      simp only [List.getElem_map] at hcell
      have Hz : ∃ z, Hid (z = xs[k]) := ⟨_, hide rfl⟩
      obtain ⟨z, Hz⟩ := Hz
      rw [← Hz.out] at hcell
      by_cases h1 : z < 0
      · go_wp2
        go_ret
        exact ⟨_, rfl, rfl, fun h => by cases h⟩
      · by_cases h2 : (n : Int) ≤ z
        · go_wp2
          go_ret
          exact ⟨_, rfl, rfl, fun h => by cases h⟩
        · go_wp2
          go_round
          case rel =>
            refine ⟨k + 1, by omega, by go_num, fun j hj hjk => ?_⟩
            rcases Nat.lt_succ_iff_lt_or_eq.1 hjk with h | h
            · exact Hall.out j hj h
            · subst h
              rw [← Hz.out]
              exact ⟨by omega, by omega⟩
          case measure => simp [intOf]; omega
    · go_wp2
      go_ret
      refine ⟨_, rfl, rfl, fun _ => ?_⟩
      intro x hx
      obtain ⟨j, hj, rfl⟩ := List.mem_iff_getElem.1 hx
      exact Hall.out j hj (by have := Hl.out; omega)

theorem listed_take_succ (item : ByteArray) (reads : List Int) (ri : List ByteArray) (k : Nat) (h : k < reads.length) : listed item (reads.take (k + 1)) ri = (listed item (reads.take k) ri || hit item reads[k] ri) := by
  unfold listed
  rw [List.take_succ_eq_append_getElem h, List.any_append]
  simp

set_option maxRecDepth 100000 in
set_option maxHeartbeats 400000 in
theorem listed_any (item : ByteArray) (a : Option Addr) (len cap : Nat) (reads : List Int) (a2 : Option Addr) (len2 cap2 : Nat) (ri : List ByteArray) (w : World)
    (hl : reads.length = len) (hsz : len ≤ 1048576) {lo lo2 : Nat} (hr : Reads lo w a (reads.map (Value.int .i64)))
    (hl2 : ri.length = len2) (hsz2 : len2 ≤ 1048576) (hr2 : Reads lo2 w a2 (ri.map Value.string)) (hok : ∀ x ∈ reads, idxOk x len2) :
    Calls Try.prog 31 #[.string item, .slice a len cap, .slice a2 len2 cap2] w fun e w' => e = .returned (.bool (listed item reads ri)) ∧ w' = w := by
  have Hl := hide hl
  have Hl2 := hide hl2
  have Hok := hide hok
  clear hl hl2 hok
  go_enter Try.func31, Try.ntmps31
  go_wp2
  go_loop [7] (fun i => ∃ k : Nat, k ≤ len ∧ i = .int .i64 k ∧ listed item (reads.take k) ri = false) (fun i => len - (intOf i).toNat)
  case atStart => exact ⟨0, Nat.zero_le _, rfl, rfl⟩
  case round =>
    obtain ⟨k, hk, rfl, hall⟩ := hrel
    have Hall := hide hall
    clear hall
    by_cases hlt : k < len
    · have hkz : k < reads.length := by have := Hl.out; omega
      obtain ⟨b, off, rfl, _, _, hcell⟩ := hr k (by simpa using hkz)
      simp only [List.getElem_map] at hcell
      have hzo := Hok.out _ (List.getElem_mem hkz)
      have Hsucc := hide (listed_take_succ item reads ri k hkz)
      obtain ⟨z, Hz⟩ : ∃ z, Hid (reads[k] = z) := ⟨_, hide rfl⟩
      rw [Hz.out] at hcell hzo
      rw [Hz.out] at Hsucc
      obtain ⟨hz0, hz1⟩ := hzo
      obtain ⟨m, rfl⟩ := Int.eq_ofNat_of_zero_le hz0
      have hmz : m < ri.length := by have := Hl2.out; omega
      obtain ⟨b2, off2, rfl, _, _, hcell2⟩ := hr2 m (by simpa using hmz)
      simp only [List.getElem_map] at hcell2
      obtain ⟨s, Hs⟩ : ∃ s, Hid (ri[m] = s) := ⟨_, hide rfl⟩
      rw [Hs.out] at hcell2
      have Hhit : Hid (hit item (m : Int) ri = (s == item)) := by
        show hit item (m : Int) ri = (s == item)
        unfold hit
        rw [Int.toNat_natCast, List.getD_eq_getElem?_getD, List.getElem?_eq_getElem hmz, Hs.out]
        rfl
      rw [beq_toListBytes] at Hhit
      by_cases h1 : (s.toList == item.toList) = true
      · go_wp2
        go_ret
        refine ⟨?_, rfl⟩
        have e1 : listed item reads ri = true := by
          have h2 : listed item (reads.take (k + 1)) ri = true := by rw [Hsucc.out, Hhit.out, h1]; simp
          unfold listed at h2 ⊢
          rw [List.any_eq_true] at h2 ⊢
          obtain ⟨x, hx, h⟩ := h2
          exact ⟨x, List.mem_of_mem_take hx, h⟩
        rw [e1]
        rfl
      · have h1' : (s.toList == item.toList) = false := by simpa using h1
        clear h1
        go_wp2
        go_round
        case rel => exact ⟨k + 1, by omega, by go_num, by rw [Hsucc.out, Hall.out, Hhit.out, h1']; rfl⟩
        case measure => simp [intOf]; omega
    · go_wp2
      go_ret
      have : reads.take k = reads := List.take_of_length_le (by have := Hl.out; omega)
      have h := Hall.out
      rw [this] at h
      rw [h]
      exact ⟨rfl, rfl⟩

/-- what the documented shape says -/
def Shaped (l0 l1 l2 l3 l4 l5 l6 l7 : Nat) (rows : List (List Int)) : Prop :=
  l1 = l0 ∧ l2 = l0 ∧ l5 = l4 ∧ l6 = l4 ∧ l7 = l4 ∧ ∀ r ∈ rows, ∀ x ∈ r, idxOk x l3

set_option maxRecDepth 100000 in
set_option maxHeartbeats 1000000 in
theorem shaped_any (w : World) (a0 a1 a2 a3 a4 a5 a6 a7 : Option Addr) (l0 l1 l2 l3 l4 l5 l6 l7 c0 c1 c2 c3 c4 c5 c6 c7 : Nat)
    (v6 : List Value) (s6 : List (List Int)) (g3 : l3 ≤ 1048576) (g6 : l6 ≤ 1048576) (hl6 : s6.length = l6) {lo : Nat} (hr6 : Reads lo w a6 v6) (hn6 : NVals lo w v6 s6) (hs6 : ∀ s ∈ s6, s.length ≤ 1048576) :
    Calls Try.prog 26 #[.slice a0 l0 c0, .slice a1 l1 c1, .slice a2 l2 c2, .slice a3 l3 c3, .slice a4 l4 c4, .slice a5 l5 c5, .slice a6 l6 c6, .slice a7 l7 c7] w (RetB w (Shaped l0 l1 l2 l3 l4 l5 l6 l7 s6)) := by
  have Hl := hide hl6
  have Hs := hide hs6
  have Hn := hide hn6
  have Hr := hide hr6
  clear hl6 hs6 hn6 hr6
  by_cases f1 : l0 = l1
  case neg =>
    go_enter Try.func26, Try.ntmps26
    go_wp2
    go_ret
    exact ⟨_, rfl, rfl, fun h => by cases h⟩
  subst f1
  by_cases f2 : l0 = l2
  case neg =>
    go_enter Try.func26, Try.ntmps26
    go_wp2
    go_ret
    exact ⟨_, rfl, rfl, fun h => by cases h⟩
  subst f2
  by_cases f5 : l4 = l5
  case neg =>
    go_enter Try.func26, Try.ntmps26
    go_wp2
    go_ret
    exact ⟨_, rfl, rfl, fun h => by cases h⟩
  subst f5
  by_cases f6 : l4 = l6
  case neg =>
    go_enter Try.func26, Try.ntmps26
    go_wp2
    go_ret
    exact ⟨_, rfl, rfl, fun h => by cases h⟩
  subst f6
  by_cases f7 : l4 = l7
  case neg =>
    go_enter Try.func26, Try.ntmps26
    go_wp2
    go_ret
    exact ⟨_, rfl, rfl, fun h => by cases h⟩
  subst f7
  go_enter Try.func26, Try.ntmps26
  go_wp2
  go_loop [17] (fun i => ∃ k : Nat, k ≤ l4 ∧ i = .int .i64 k ∧ ∀ j (hj : j < s6.length), j < k → ∀ x ∈ s6[j], idxOk x l3) (fun i => l4 - (intOf i).toNat)
  case atStart => exact ⟨0, Nat.zero_le _, rfl, fun j _ h => absurd h (by omega)⟩
  case round =>
    obtain ⟨k, hk, rfl, hall⟩ := hrel
    have Hall := hide hall
    clear hall
    by_cases hlt : k < l4
    · have hkz : k < s6.length := by have := Hl.out; omega
      obtain ⟨b, off, rfl, _, _, hcell⟩ := Hr.out k (by rw [Hn.out.1]; exact hkz)
      obtain ⟨ak, ck, e1, e2, e3⟩ := Hn.out.2 k hkz
      rw [List.getElem?_eq_getElem (by rw [Hn.out.1]; exact hkz)] at e1
      injection e1 with e1
      rw [e1] at hcell
      have hmz := Hs.out _ (List.getElem_mem hkz)
      clear e1 e2
      obtain ⟨r, Hz⟩ : ∃ r, Hid (s6[k] = r) := ⟨_, hide rfl⟩
      rw [Hz.out] at hcell e3 hmz
      have K := hide (indexesIn_any ak r.length ck l3 r w rfl hmz e3)
      clear e3
      go_wp2_with fail
      refine Calls.mono (Hid.out K) ?_
      rintro e w1 ⟨rb, rfl, rfl, hq⟩
      cases rb with
      | false =>
        go_wp2
        go_ret
        exact ⟨_, rfl, rfl, fun h => by cases h⟩
      | true =>
        have Hq := hide (hq rfl)
        clear hq
        go_wp2
        go_round
        case rel =>
          refine ⟨k + 1, by omega, by go_num, fun j hj hjk => ?_⟩
          rcases Nat.lt_succ_iff_lt_or_eq.1 hjk with h | h
          · exact Hall.out j hj h
          · subst h
            rw [Hz.out]
            exact Hq.out
        case measure => simp [intOf]; omega
    · go_wp2
      go_ret
      refine ⟨_, rfl, rfl, fun _ => ⟨rfl, rfl, rfl, rfl, rfl, fun r hr => ?_⟩⟩
      obtain ⟨j, hj, rfl⟩ := List.mem_iff_getElem.1 hr
      exact Hall.out j hj (by have := Hl.out; omega)
end Go.Proofs.Qxb6602044a
