import Derived.Test.Qxb6602044aW2
namespace Go.Proofs.Qxb6602044a
open Go.RowKit

set_option maxRecDepth 100000 in
set_option maxHeartbeats 4000000 in
theorem bytes29 (w : World) (a0 : Option Addr) (l0 c0 : Nat) (a1 : Option Addr) (l1 c1 : Nat) (a2 : Option Addr) (l2 c2 : Nat) (a3 : Option Addr) (l3 c3 : Nat) (a4 : Option Addr) (l4 c4 : Nat) (a5 : Option Addr) (l5 c5 : Nat) (a6 : Option Addr) (l6 c6 : Nat) (a7 : Option Addr) (l7 c7 : Nat) (q8 : Int) (a9 : Option Addr) (l9 c9 : Nat)
    (s1 : List ByteArray) (hl1 : s1.length = l1) (hr1 : Reads 0 w a1 (s1.map Value.string)) (s2 : List ByteArray) (hl2 : s2.length = l2) (hr2 : Reads 0 w a2 (s2.map Value.string)) (s3 : List ByteArray) (hl3 : s3.length = l3) (hr3 : Reads 0 w a3 (s3.map Value.string)) (s5 : List ByteArray) (hl5 : s5.length = l5) (hr5 : Reads 0 w a5 (s5.map Value.string)) (v6 : List Value) (s6 : List (List Int)) (hl6 : s6.length = l6) (hr6 : Reads 0 w a6 v6) (hn6 : NVals 0 w v6 s6) (hm0 : l0 ≤ 9223372036854775807) (hm1 : l1 ≤ 9223372036854775807) (hs1 : ∀ r ∈ s1, r.size ≤ 9223372036854775807) (hm2 : l2 ≤ 9223372036854775807) (hs2 : ∀ r ∈ s2, r.size ≤ 9223372036854775807) (hm3 : l3 ≤ 9223372036854775807) (hs3 : ∀ r ∈ s3, r.size ≤ 9223372036854775807) (hm4 : l4 ≤ 9223372036854775807) (hm5 : l5 ≤ 9223372036854775807) (hs5 : ∀ r ∈ s5, r.size ≤ 9223372036854775807) (hm6 : l6 ≤ 9223372036854775807) (hs6 : ∀ r ∈ s6, r.length ≤ 9223372036854775807) (hm7 : l7 ≤ 9223372036854775807) (hm9 : l9 ≤ 9223372036854775807) :
    Calls Try.prog 29 #[.slice a0 l0 c0, .slice a1 l1 c1, .slice a2 l2 c2, .slice a3 l3 c3, .slice a4 l4 c4, .slice a5 l5 c5, .slice a6 l6 c6, .slice a7 l7 c7, .int .i64 q8, .slice a9 l9 c9] w (RetB w (l0 ≤ 1048576 ∧ l1 ≤ 1048576 ∧ l2 ≤ 1048576 ∧ l3 ≤ 1048576 ∧ l4 ≤ 1048576 ∧ l5 ≤ 1048576 ∧ l6 ≤ 1048576 ∧ l7 ≤ 1048576 ∧ l9 ≤ 1048576 ∧ (∀ r ∈ s6, r.length ≤ 1048576))) := by
  have Hl1 : Hid (s1.length = l1) := hl1
  clear hl1
  have Hs1 : Hid (∀ r ∈ s1, r.size ≤ 9223372036854775807) := hs1
  clear hs1
  have Hl2 : Hid (s2.length = l2) := hl2
  clear hl2
  have Hs2 : Hid (∀ r ∈ s2, r.size ≤ 9223372036854775807) := hs2
  clear hs2
  have Hl3 : Hid (s3.length = l3) := hl3
  clear hl3
  have Hs3 : Hid (∀ r ∈ s3, r.size ≤ 9223372036854775807) := hs3
  clear hs3
  have Hl5 : Hid (s5.length = l5) := hl5
  clear hl5
  have Hs5 : Hid (∀ r ∈ s5, r.size ≤ 9223372036854775807) := hs5
  clear hs5
  have Hl6 : Hid (s6.length = l6) := hl6
  clear hl6
  have Hs6 : Hid (∀ r ∈ s6, r.length ≤ 9223372036854775807) := hs6
  clear hs6
  go_enter Try.func29, Try.ntmps29
  go_wp2
  all_goals try (go_ret; exact ⟨false, rfl, rfl, fun h => by cases h⟩)
  go_loop [21, 22] (fun z i => ∃ k : Nat, ∃ n : Int, k ≤ l1 ∧ i = .int .i64 k ∧ z = .int .i64 n ∧ 0 ≤ n ∧ n ≤ 1048576) (fun _ i => l1 - (intOf i).toNat)
  case atStart => exact ⟨0, _, Nat.zero_le _, rfl, rfl, by omega, by omega⟩
  case round =>
    obtain ⟨k1, n1, hk1, rfl, rfl, hn01, hn11⟩ := hrel
    by_cases hlt1 : k1 < l1
    · have hkz : k1 < s1.length := by have := Hl1.out; omega
      obtain ⟨b, off, rfl, _, _, hcell⟩ := hr1 k1 (by simpa using hkz)
      simp only [List.getElem_map] at hcell
      have hmz := Hs1.out _ (List.getElem_mem hkz)
      generalize s1[k1] = z at hcell hmz
      go_wp2
      all_goals try (go_ret; exact ⟨false, rfl, rfl, fun h => by cases h⟩)
      go_round
      case rel => exact ⟨k1 + 1, _, by omega, by go_num, rfl, by omega, by omega⟩
      case measure => simp [intOf]; omega
    · skip
      go_wp2
      all_goals try (go_ret; exact ⟨false, rfl, rfl, fun h => by cases h⟩)
      go_loop [21, 23] (fun z i => ∃ k : Nat, ∃ n : Int, k ≤ l2 ∧ i = .int .i64 k ∧ z = .int .i64 n ∧ 0 ≤ n ∧ n ≤ 1048576) (fun _ i => l2 - (intOf i).toNat)
      case atStart => exact ⟨0, _, Nat.zero_le _, rfl, rfl, by omega, by omega⟩
      case round =>
        obtain ⟨k2, n2, hk2, rfl, rfl, hn02, hn12⟩ := hrel
        by_cases hlt2 : k2 < l2
        · have hkz : k2 < s2.length := by have := Hl2.out; omega
          obtain ⟨b, off, rfl, _, _, hcell⟩ := hr2 k2 (by simpa using hkz)
          simp only [List.getElem_map] at hcell
          have hmz := Hs2.out _ (List.getElem_mem hkz)
          generalize s2[k2] = z at hcell hmz
          go_wp2
          all_goals try (go_ret; exact ⟨false, rfl, rfl, fun h => by cases h⟩)
          go_round
          case rel => exact ⟨k2 + 1, _, by omega, by go_num, rfl, by omega, by omega⟩
          case measure => simp [intOf]; omega
        · skip
          go_wp2
          all_goals try (go_ret; exact ⟨false, rfl, rfl, fun h => by cases h⟩)
          go_loop [21, 24] (fun z i => ∃ k : Nat, ∃ n : Int, k ≤ l3 ∧ i = .int .i64 k ∧ z = .int .i64 n ∧ 0 ≤ n ∧ n ≤ 1048576) (fun _ i => l3 - (intOf i).toNat)
          case atStart => exact ⟨0, _, Nat.zero_le _, rfl, rfl, by omega, by omega⟩
          case round =>
            obtain ⟨k3, n3, hk3, rfl, rfl, hn03, hn13⟩ := hrel
            by_cases hlt3 : k3 < l3
            · have hkz : k3 < s3.length := by have := Hl3.out; omega
              obtain ⟨b, off, rfl, _, _, hcell⟩ := hr3 k3 (by simpa using hkz)
              simp only [List.getElem_map] at hcell
              have hmz := Hs3.out _ (List.getElem_mem hkz)
              generalize s3[k3] = z at hcell hmz
              go_wp2
              all_goals try (go_ret; exact ⟨false, rfl, rfl, fun h => by cases h⟩)
              go_round
              case rel => exact ⟨k3 + 1, _, by omega, by go_num, rfl, by omega, by omega⟩
              case measure => simp [intOf]; omega
            · skip
              go_wp2
              all_goals try (go_ret; exact ⟨false, rfl, rfl, fun h => by cases h⟩)
              go_loop [21, 25] (fun z i => ∃ k : Nat, ∃ n : Int, k ≤ l5 ∧ i = .int .i64 k ∧ z = .int .i64 n ∧ 0 ≤ n ∧ n ≤ 1048576) (fun _ i => l5 - (intOf i).toNat)
              case atStart => exact ⟨0, _, Nat.zero_le _, rfl, rfl, by omega, by omega⟩
              case round =>
                obtain ⟨k5, n5, hk5, rfl, rfl, hn05, hn15⟩ := hrel
                by_cases hlt5 : k5 < l5
                · have hkz : k5 < s5.length := by have := Hl5.out; omega
                  obtain ⟨b, off, rfl, _, _, hcell⟩ := hr5 k5 (by simpa using hkz)
                  simp only [List.getElem_map] at hcell
                  have hmz := Hs5.out _ (List.getElem_mem hkz)
                  generalize s5[k5] = z at hcell hmz
                  go_wp2
                  all_goals try (go_ret; exact ⟨false, rfl, rfl, fun h => by cases h⟩)
                  go_round
                  case rel => exact ⟨k5 + 1, _, by omega, by go_num, rfl, by omega, by omega⟩
                  case measure => simp [intOf]; omega
                · skip
                  go_wp2
                  all_goals try (go_ret; exact ⟨false, rfl, rfl, fun h => by cases h⟩)
                  go_loop [21, 26] (fun z i => ∃ k : Nat, ∃ n : Int, k ≤ l6 ∧ i = .int .i64 k ∧ z = .int .i64 n ∧ 0 ≤ n ∧ n ≤ 1048576 ∧ (∀ j (hj : j < s6.length), j < k → (s6[j]).length ≤ 1048576)) (fun _ i => l6 - (intOf i).toNat)
                  case atStart => exact ⟨0, _, Nat.zero_le _, rfl, rfl, by omega, by omega, fun j _ h => absurd h (by omega)⟩
                  case round =>
                    obtain ⟨k6, n6, hk6, rfl, rfl, hn06, hn16, hrow⟩ := hrel
                    have Hrow : Hid _ := hrow
                    clear hrow
                    by_cases hlt6 : k6 < l6
                    · have hkz : k6 < s6.length := by have := Hl6.out; omega
                      obtain ⟨b, off, rfl, _, _, hcell⟩ := hr6 k6 (by rw [hn6.1]; exact hkz)
                      obtain ⟨ak, ck, e1, _, _⟩ := hn6.2 k6 hkz
                      rw [List.getElem?_eq_getElem (by rw [hn6.1]; exact hkz)] at e1
                      injection e1 with e1
                      rw [e1] at hcell
                      have hmz := Hs6.out _ (List.getElem_mem hkz)
                      have Hrz : Hid (∃ r, r = s6[k6]) := ⟨_, rfl⟩
                      obtain ⟨z, hz⟩ : ∃ z, z = (s6[k6]).length := ⟨_, rfl⟩
                      rw [← hz] at hcell hmz
                      have Hz : Hid (z = (s6[k6]).length) := hz
                      clear hz e1
                      go_wp2
                      all_goals try (go_ret; exact ⟨false, rfl, rfl, fun h => by cases h⟩)
                      go_round
                      case rel => exact ⟨k6 + 1, _, by omega, by go_num, rfl, by omega, by omega, fun j hj hjk => by rcases Nat.lt_succ_iff_lt_or_eq.1 hjk with h | h; exact Hrow.out j hj h; (subst h; have := Hz.out; omega)⟩
                      case measure => simp [intOf]; omega
                    · have Hall6 : Hid (∀ r ∈ s6, r.length ≤ 1048576) := by
                        intro r hr
                        obtain ⟨j, hj, rfl⟩ := List.mem_iff_getElem.1 hr
                        exact Hrow.out j hj (by have := Hl6.out; omega)
                      go_wp2
                      all_goals try (go_ret; exact ⟨false, rfl, rfl, fun h => by cases h⟩)
                      go_ret
                      exact ⟨true, rfl, rfl, fun _ => ⟨by omega, by omega, by omega, by omega, by omega, by omega, by omega, by omega, by omega, Hall6.out⟩⟩
end Go.Proofs.Qxb6602044a
