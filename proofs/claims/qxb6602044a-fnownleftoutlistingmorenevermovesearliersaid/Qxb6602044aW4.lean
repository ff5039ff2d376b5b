import Derived.Test.Qxb6602044aW2
namespace Go.Proofs.Qxb6602044a
open Go.RowKit

/-- an int comes back, between 0 and m, the world stands -/
def RetN (w : World) (m : Int) (e : Ending) (w' : World) : Prop := ∃ n : Int, e = .returned (.int .i64 n) ∧ w' = w ∧ 0 ≤ n ∧ n ≤ m

set_option maxRecDepth 100000 in
set_option maxHeartbeats 400000 in
theorem strBytes_any (a : Option Addr) (len cap : Nat) (ss : List ByteArray) (w : World) (hl : ss.length = len) (hsz : len ≤ 1048576) (hr : Reads 0 w a (ss.map Value.string)) (hs : ∀ s ∈ ss, s.size ≤ 9223372036854775807) :
    Calls Try.prog 37 #[.slice a len cap] w (RetN w 100000000) := by
  have Hl : Hid (ss.length = len) := hl
  have Hs : Hid (∀ s ∈ ss, s.size ≤ 9223372036854775807) := hs
  clear hl hs
  go_enter Try.func37, Try.ntmps37
  go_wp2
  go_loop [3, 4] (fun t i => ∃ k : Nat, ∃ n : Int, k ≤ len ∧ i = .int .i64 k ∧ t = .int .i64 n ∧ 0 ≤ n ∧ n ≤ 100000000) (fun _ i => len - (intOf i).toNat)
  case atStart => exact ⟨0, _, Nat.zero_le _, rfl, rfl, by omega, by omega⟩
  case round =>
    obtain ⟨k, n, hk, rfl, rfl, hn0, hn1⟩ := hrel
    by_cases hlt : k < len
    · have hkz : k < ss.length := by have := Hl.out; omega
      obtain ⟨b, off, rfl, _, _, hcell⟩ := hr k (by simpa using hkz)
      simp only [List.getElem_map] at hcell
      have hmz := Hs.out _ (List.getElem_mem hkz)
      generalize ss[k] = z at hcell hmz
      by_cases h1 : 1048576 < z.size
      · go_wp2
        go_ret
        exact ⟨_, rfl, rfl, by omega, by omega⟩
      · by_cases h2 : 1048576 < n
        · go_wp2
          go_ret
          exact ⟨_, rfl, rfl, by omega, by omega⟩
        · go_wp2
          go_round
          case rel => exact ⟨k + 1, _, by omega, by go_num, rfl, by omega, by omega⟩
          case measure => simp [intOf]; omega
    · go_wp2
      go_ret
      exact ⟨_, rfl, rfl, by omega, by omega⟩

set_option maxRecDepth 100000 in
set_option maxHeartbeats 400000 in
theorem nestedBytes_any (a : Option Addr) (len cap : Nat) (vs : List Value) (rows : List (List Int)) (w : World) (hl : rows.length = len) (hsz : len ≤ 1048576) (hr : Reads 0 w a vs) (hn : NVals 0 w vs rows) (hs : ∀ s ∈ rows, s.length ≤ 9223372036854775807) :
    Calls Try.prog 38 #[.slice a len cap] w (RetN w 100000000) := by
  have Hl : Hid (rows.length = len) := hl
  have Hs : Hid (∀ s ∈ rows, s.length ≤ 9223372036854775807) := hs
  clear hl hs
  go_enter Try.func38, Try.ntmps38
  go_wp2
  go_loop [3, 4] (fun t i => ∃ k : Nat, ∃ n : Int, k ≤ len ∧ i = .int .i64 k ∧ t = .int .i64 n ∧ 0 ≤ n ∧ n ≤ 100000000) (fun _ i => len - (intOf i).toNat)
  case atStart => exact ⟨0, _, Nat.zero_le _, rfl, rfl, by omega, by omega⟩
  case round =>
    obtain ⟨k, n, hk, rfl, rfl, hn0, hn1⟩ := hrel
    by_cases hlt : k < len
    · have hkz : k < rows.length := by have := Hl.out; omega
      obtain ⟨b, off, rfl, _, _, hcell⟩ := hr k (by rw [hn.1]; exact hkz)
      obtain ⟨ak, ck, e1, _, _⟩ := hn.2 k hkz
      rw [List.getElem?_eq_getElem (by rw [hn.1]; exact hkz)] at e1
      injection e1 with e1
      rw [e1] at hcell
      have hmz := Hs.out _ (List.getElem_mem hkz)
      clear e1
      generalize (rows[k]).length = z at hcell hmz
      by_cases h1 : 1048576 < z
      · go_wp2
        go_ret
        exact ⟨_, rfl, rfl, by omega, by omega⟩
      · by_cases h2 : 1048576 < n
        · go_wp2
          go_ret
          exact ⟨_, rfl, rfl, by omega, by omega⟩
        · go_wp2
          go_round
          case rel => exact ⟨k + 1, _, by omega, by go_num, rfl, by omega, by omega⟩
          case measure => simp [intOf]; omega
    · go_wp2
      go_ret
      exact ⟨_, rfl, rfl, by omega, by omega⟩

set_option maxRecDepth 100000 in
set_option maxHeartbeats 1000000 in
theorem tooBig_any (w : World) (a0 a1 a2 a3 a4 a5 a6 a7 a8 : Option Addr) (l0 l1 l2 l3 l4 l5 l6 l7 l8 c0 c1 c2 c3 c4 c5 c6 c7 c8 : Nat)
    (s1 s2 s3 s5 : List ByteArray) (v6 : List Value) (s6 : List (List Int))
    (g0 : l0 ≤ 1048576) (g1 : l1 ≤ 1048576) (g2 : l2 ≤ 1048576) (g3 : l3 ≤ 1048576) (g4 : l4 ≤ 1048576) (g5 : l5 ≤ 1048576) (g6 : l6 ≤ 1048576) (g7 : l7 ≤ 1048576) (g8 : l8 ≤ 1048576)
    (hl1 : s1.length = l1) (hr1 : Reads 0 w a1 (s1.map Value.string)) (hs1 : ∀ s ∈ s1, s.size ≤ 9223372036854775807)
    (hl2 : s2.length = l2) (hr2 : Reads 0 w a2 (s2.map Value.string)) (hs2 : ∀ s ∈ s2, s.size ≤ 9223372036854775807)
    (hl3 : s3.length = l3) (hr3 : Reads 0 w a3 (s3.map Value.string)) (hs3 : ∀ s ∈ s3, s.size ≤ 9223372036854775807)
    (hl5 : s5.length = l5) (hr5 : Reads 0 w a5 (s5.map Value.string)) (hs5 : ∀ s ∈ s5, s.size ≤ 9223372036854775807)
    (hl6 : s6.length = l6) (hr6 : Reads 0 w a6 v6) (hn6 : NVals 0 w v6 s6) (hs6 : ∀ s ∈ s6, s.length ≤ 9223372036854775807) :
    Calls Try.prog 23 #[.slice a0 l0 c0, .slice a1 l1 c1, .slice a2 l2 c2, .slice a3 l3 c3, .slice a4 l4 c4, .slice a5 l5 c5, .slice a6 l6 c6, .slice a7 l7 c7, .slice a8 l8 c8] w (RetB w True) := by
  have k1 := strBytes_any a1 l1 c1 s1 w hl1 g1 hr1 hs1
  have k2 := strBytes_any a2 l2 c2 s2 w hl2 g2 hr2 hs2
  have k3 := strBytes_any a3 l3 c3 s3 w hl3 g3 hr3 hs3
  have k5 := strBytes_any a5 l5 c5 s5 w hl5 g5 hr5 hs5
  have k6 := nestedBytes_any a6 l6 c6 v6 s6 w hl6 g6 hr6 hn6 hs6
  have K1 := hide k1
  have K2 := hide k2
  have K3 := hide k3
  have K5 := hide k5
  have K6 := hide k6
  clear k1 k2 k3 k5 k6 hl1 hr1 hs1 hl2 hr2 hs2 hl3 hr3 hs3 hl5 hr5 hs5 hl6 hr6 hn6 hs6
  by_cases f0 : 131072 < l0
  · go_enter Try.func23, Try.ntmps23
    go_wp2
    go_ret
    exact ⟨_, rfl, rfl, fun _ => trivial⟩
  by_cases f1 : 131072 < l1
  · go_enter Try.func23, Try.ntmps23
    go_wp2
    go_ret
    exact ⟨_, rfl, rfl, fun _ => trivial⟩
  by_cases f2 : 131072 < l2
  · go_enter Try.func23, Try.ntmps23
    go_wp2
    go_ret
    exact ⟨_, rfl, rfl, fun _ => trivial⟩
  by_cases f3 : 131072 < l3
  · go_enter Try.func23, Try.ntmps23
    go_wp2
    go_ret
    exact ⟨_, rfl, rfl, fun _ => trivial⟩
  by_cases f4 : 131072 < l4
  · go_enter Try.func23, Try.ntmps23
    go_wp2
    go_ret
    exact ⟨_, rfl, rfl, fun _ => trivial⟩
  by_cases f5 : 131072 < l5
  · go_enter Try.func23, Try.ntmps23
    go_wp2
    go_ret
    exact ⟨_, rfl, rfl, fun _ => trivial⟩
  by_cases f6 : 131072 < l6
  · go_enter Try.func23, Try.ntmps23
    go_wp2
    go_ret
    exact ⟨_, rfl, rfl, fun _ => trivial⟩
  by_cases f7 : 131072 < l7
  · go_enter Try.func23, Try.ntmps23
    go_wp2
    go_ret
    exact ⟨_, rfl, rfl, fun _ => trivial⟩
  by_cases f8 : 131072 < l8
  · go_enter Try.func23, Try.ntmps23
    go_wp2
    go_ret
    exact ⟨_, rfl, rfl, fun _ => trivial⟩
  go_enter Try.func23, Try.ntmps23
  go_wp2_with fail
  refine Calls.mono (Hid.out K1) ?_
  rintro e w1 ⟨n1, rfl, rfl, b1, b1'⟩
  go_wp2_with fail
  refine Calls.mono (Hid.out K2) ?_
  rintro e w1 ⟨n2, rfl, rfl, b2, b2'⟩
  go_wp2_with fail
  refine Calls.mono (Hid.out K3) ?_
  rintro e w1 ⟨n3, rfl, rfl, b3, b3'⟩
  go_wp2_with fail
  refine Calls.mono (Hid.out K5) ?_
  rintro e w1 ⟨n5, rfl, rfl, b5, b5'⟩
  go_wp2_with fail
  refine Calls.mono (Hid.out K6) ?_
  rintro e w1 ⟨n6, rfl, rfl, b6, b6'⟩
  go_wp2
  go_ret
  exact ⟨_, rfl, rfl, fun _ => trivial⟩
end Go.Proofs.Qxb6602044a
