import Derived.Test.Qxb6600841aProg
import Derived.Test.Qxb6600841aVoc
import Derived.Test.Qxb6600841aPl
import Derived.Laws.IdiomStrings
import Derived.Deep.QuietTactic
import Derived.BigQuiet
namespace Go.Proofs.Qxb6600841a
open Go.RowKit
set_option linter.unusedVariables false

def asBytes (bs : List UInt8) : List Value := bs.map (fun b => Value.int .u8 (b.toNat : Int))

theorem conv_bytes (w : World) (a : Option Addr) (cap : Nat) (bs : List UInt8) (ha : a = none → bs.length = 0 ∧ cap = 0) {lo : Nat} (hr : Reads lo w a (asBytes bs)) :
    (convert 22 9 (.slice a bs.length cap)).run Try.prog w = .ok (.string ⟨bs.toArray⟩) w := by
  cases a with
  | none =>
    have h0 := (ha rfl).1
    have : bs = [] := List.length_eq_zero_iff.1 h0
    subst this
    rw [run_convert_bytes_string w 22 9 5 none _ _ Try.underlying22 Try.underlying5 Try.underlying9]
    rfl
  | some x =>
    refine run_convert_bytes_back w 22 9 5 x cap bs Try.underlying22 Try.underlying5 Try.underlying9 (fun j hj => ?_)
    obtain ⟨b, off, he, _, _, hc⟩ := hr j (by simpa [asBytes] using hj)
    injection he with he
    subst he
    have : (⟨b, off, none⟩ : Addr).add j = ⟨b, off + j, none⟩ := by unfold Addr.add; split <;> simp_all
    rw [this, hc]
    simp [asBytes]

theorem str_toList (bs : List UInt8) : (ByteArray.mk bs.toArray).toList = bs := by rw [ByteArray.toList_eq]

def ptrOf (bf : Nat) : Option Nat → Value
  | some k => .pointer (some ⟨bf, k, none⟩)
  | none => .pointer none

set_option maxRecDepth 100000 in
set_option maxHeartbeats 1000000 in
theorem field_any (bf : Nat) (a : Option Addr) (cap : Nat) (bs : List UInt8) (o : Option Nat) (ho : IsIdx bs o) (w : World) (ha : a = none → bs.length = 0 ∧ cap = 0) {lo : Nat} (hr : Reads lo w a (asBytes bs)) :
    Calls Try.prog 26 #[.pointer (some ⟨bf, 0, none⟩), .slice a bs.length cap] w fun e w' => e = .returned (ptrOf bf o) ∧ w' = w := by
  have hcv := conv_bytes w a cap bs ha hr
  obtain ⟨S, HS⟩ : ∃ S, Hid (ByteArray.mk bs.toArray = S) := ⟨_, hide rfl⟩
  rw [HS.out] at hcv
  have HSl : Hid (S.toList = bs) := by show S.toList = bs; rw [← HS.out, str_toList]
  have Hoo := hide ho
  clear hr ha ho
  by_cases h0 : (S.toList == [97, 116]) = true
  · obtain rfl : o = some 0 := Hoo.out.unique ⟨by omega, by rw [← HSl.out]; exact eq_of_beq h0⟩
    clear Hoo
    go_enter Try.func26, Try.ntmps26
    go_wp2
    go_ret
    exact ⟨rfl, rfl⟩
  replace h0 : (S.toList == [97, 116]) = false := by simpa using h0
  by_cases h1 : (S.toList == [116, 121, 112, 101]) = true
  · obtain rfl : o = some 1 := Hoo.out.unique ⟨by omega, by rw [← HSl.out]; exact eq_of_beq h1⟩
    clear Hoo
    go_enter Try.func26, Try.ntmps26
    go_wp2
    go_ret
    exact ⟨rfl, rfl⟩
  replace h1 : (S.toList == [116, 121, 112, 101]) = false := by simpa using h1
  by_cases h2 : (S.toList == [98, 111, 114, 114, 111, 119, 101, 114]) = true
  · obtain rfl : o = some 2 := Hoo.out.unique ⟨by omega, by rw [← HSl.out]; exact eq_of_beq h2⟩
    clear Hoo
    go_enter Try.func26, Try.ntmps26
    go_wp2
    go_ret
    exact ⟨rfl, rfl⟩
  replace h2 : (S.toList == [98, 111, 114, 114, 111, 119, 101, 114]) = false := by simpa using h2
  by_cases h3 : (S.toList == [108, 111, 97, 110]) = true
  · obtain rfl : o = some 3 := Hoo.out.unique ⟨by omega, by rw [← HSl.out]; exact eq_of_beq h3⟩
    clear Hoo
    go_enter Try.func26, Try.ntmps26
    go_wp2
    go_ret
    exact ⟨rfl, rfl⟩
  replace h3 : (S.toList == [108, 111, 97, 110]) = false := by simpa using h3
  by_cases h4 : (S.toList == [97, 109, 111, 117, 110, 116]) = true
  · obtain rfl : o = some 4 := Hoo.out.unique ⟨by omega, by rw [← HSl.out]; exact eq_of_beq h4⟩
    clear Hoo
    go_enter Try.func26, Try.ntmps26
    go_wp2
    go_ret
    exact ⟨rfl, rfl⟩
  replace h4 : (S.toList == [97, 109, 111, 117, 110, 116]) = false := by simpa using h4
  by_cases h5 : (S.toList == [100, 117, 101]) = true
  · obtain rfl : o = some 5 := Hoo.out.unique ⟨by omega, by rw [← HSl.out]; exact eq_of_beq h5⟩
    clear Hoo
    go_enter Try.func26, Try.ntmps26
    go_wp2
    go_ret
    exact ⟨rfl, rfl⟩
  replace h5 : (S.toList == [100, 117, 101]) = false := by simpa using h5
  by_cases h6 : (S.toList == [115, 101, 113]) = true
  · obtain rfl : o = some 6 := Hoo.out.unique ⟨by omega, by rw [← HSl.out]; exact eq_of_beq h6⟩
    clear Hoo
    go_enter Try.func26, Try.ntmps26
    go_wp2
    go_ret
    exact ⟨rfl, rfl⟩
  replace h6 : (S.toList == [115, 101, 113]) = false := by simpa using h6
  by_cases h7 : (S.toList == [112, 114, 101, 118]) = true
  · obtain rfl : o = some 7 := Hoo.out.unique ⟨by omega, by rw [← HSl.out]; exact eq_of_beq h7⟩
    clear Hoo
    go_enter Try.func26, Try.ntmps26
    go_wp2
    go_ret
    exact ⟨rfl, rfl⟩
  replace h7 : (S.toList == [112, 114, 101, 118]) = false := by simpa using h7
  obtain rfl : o = none := by
    refine Hoo.out.unique (fun k hk he => ?_)
    rw [← HSl.out] at he
    match k, hk, he with
    | 0, _, he => rw [beq_eq_false_iff_ne] at h0; exact h0 he
    | 1, _, he => rw [beq_eq_false_iff_ne] at h1; exact h1 he
    | 2, _, he => rw [beq_eq_false_iff_ne] at h2; exact h2 he
    | 3, _, he => rw [beq_eq_false_iff_ne] at h3; exact h3 he
    | 4, _, he => rw [beq_eq_false_iff_ne] at h4; exact h4 he
    | 5, _, he => rw [beq_eq_false_iff_ne] at h5; exact h5 he
    | 6, _, he => rw [beq_eq_false_iff_ne] at h6; exact h6 he
    | 7, _, he => rw [beq_eq_false_iff_ne] at h7; exact h7 he
  clear Hoo
  go_enter Try.func26, Try.ntmps26
  go_wp2
  go_ret
  exact ⟨rfl, rfl⟩

set_option maxRecDepth 100000 in
set_option maxHeartbeats 1000000 in
theorem zzField_any (bf : Nat) (a : Option Addr) (cap : Nat) (bs : List UInt8) (o : Option Nat) (ho : IsIdx bs o) (w : World) (ha : a = none → bs.length = 0 ∧ cap = 0) {lo : Nat} (hr : Reads lo w a (asBytes bs)) :
    Calls Try.prog 13 #[.pointer (some ⟨bf, 0, none⟩), .slice a bs.length cap] w fun e w' => e = .returned (ptrOf bf o) ∧ w' = w := by
  have K := hide (field_any bf a cap bs o ho w ha hr)
  clear hr ha ho
  go_enter Try.func13, Try.ntmps13
  go_wp2_with fail
  refine Calls.mono (Hid.out K) ?_
  rintro e w1 ⟨rfl, rfl⟩
  go_wp2
  go_ret
  exact ⟨rfl, rfl⟩

theorem str_size (bs : List UInt8) : (ByteArray.mk bs.toArray).size = bs.length := by show bs.toArray.size = _; simp
theorem len_data (s : ByteArray) : s.data.toList.length = s.size := by show s.data.toList.length = s.data.size; simp

set_option maxRecDepth 100000 in
set_option maxHeartbeats 1000000 in
theorem name_any (k : Nat) (hk : k < 8) (w : World) : Calls Try.prog 28 #[.int .i64 (k : Int)] w fun e w' => e = .returned (.string ⟨(nameAt k).toArray⟩) ∧ w' = w := by
  match k, hk with
  | 0, _ =>
    go_enter Try.func28, Try.ntmps28
    go_wp2
    go_ret
    exact ⟨rfl, rfl⟩
  | 1, _ =>
    go_enter Try.func28, Try.ntmps28
    go_wp2
    go_ret
    exact ⟨rfl, rfl⟩
  | 2, _ =>
    go_enter Try.func28, Try.ntmps28
    go_wp2
    go_ret
    exact ⟨rfl, rfl⟩
  | 3, _ =>
    go_enter Try.func28, Try.ntmps28
    go_wp2
    go_ret
    exact ⟨rfl, rfl⟩
  | 4, _ =>
    go_enter Try.func28, Try.ntmps28
    go_wp2
    go_ret
    exact ⟨rfl, rfl⟩
  | 5, _ =>
    go_enter Try.func28, Try.ntmps28
    go_wp2
    go_ret
    exact ⟨rfl, rfl⟩
  | 6, _ =>
    go_enter Try.func28, Try.ntmps28
    go_wp2
    go_ret
    exact ⟨rfl, rfl⟩
  | 7, _ =>
    go_enter Try.func28, Try.ntmps28
    go_wp2
    go_ret
    exact ⟨rfl, rfl⟩

set_option maxRecDepth 100000 in
set_option maxHeartbeats 1000000 in
theorem eqStr_any (a : Option Addr) (cap : Nat) (bs : List UInt8) (s : ByteArray) (w : World) (hsz : bs.length ≤ 1048576) (hss : s.size ≤ 1048576) {lo : Nat} (hr : Reads lo w a (asBytes bs)) :
    Calls Try.prog 27 #[.slice a bs.length cap, .string s] w fun e w' => e = .returned (.bool (decide (bs = s.data.toList))) ∧ ∃ n, w' = w.drewN n := by
  by_cases hl : bs.length = s.size
  case neg =>
    have hd : decide (bs = s.data.toList) = false := decide_eq_false (fun e => hl (by rw [e, len_data]))
    rw [hd]
    have hl' : ((bs.length : Int) != (s.size : Int)) = true := bne_iff_ne.2 (by omega)
    clear hl hd
    go_enter Try.func27, Try.ntmps27
    go_wp2
    go_ret
    exact ⟨rfl, 0, rfl⟩
  have Hl := hide hl
  have hl' : ((bs.length : Int) != (s.size : Int)) = false := by rw [hl]; simp
  clear hl
  go_enter Try.func27, Try.ntmps27
  go_wp2
  go_loopw [5] (fun i wr => ∃ k n : Nat, k ≤ bs.length ∧ i = .int .i64 k ∧ wr = w.drewN n ∧ ∀ j (h1 : j < bs.length) (h2 : j < s.size), j < k → bs[j] = s[j]) (fun i _ => bs.length - (intOf i).toNat)
  case atStart => exact ⟨0, 0, Nat.zero_le _, rfl, rfl, fun j _ _ h => absurd h (by omega)⟩
  case round =>
    obtain ⟨k, n, hk, rfl, rfl, hall⟩ := hrel
    have Hall := hide hall
    clear hall
    by_cases hlt : k < bs.length
    · have hks : k < s.size := by have := Hl.out; omega
      obtain ⟨b, off, rfl, _, _, hc⟩ := hr k (by simpa [asBytes] using hlt)
      simp only [asBytes, List.getElem_map] at hc
      have hki : (k : Int) < (s.size : Int) := by omega
      have hkb : (k : Int) < (bs.length : Int) := by omega
      obtain ⟨x, Hx⟩ : ∃ r, Hid (bs[k] = r) := ⟨_, hide rfl⟩
      rw [Hx.out] at hc
      go_wp2_with fail
      go_quiet (fail)
      go_wp2
      · go_ret
        have hne : ((x.toNat : Int) != (s[k].toNat : Int)) = true := by assumption
        have hd : decide (bs = s.data.toList) = false := by
          refine decide_eq_false (fun e => ?_)
          rw [bne_iff_ne] at hne
          apply hne
          have : bs[k] = s[k] := by
            have h2 : s.data.toList[k]'(by rw [len_data]; exact hks) = s[k] := rfl
            rw [← h2]
            simp only [e]
          rw [← Hx.out, this]
        rw [hd]
        exact ⟨rfl, n + nq, by simp⟩
      · have hne : ((x.toNat : Int) != (s[k].toNat : Int)) = false := by assumption
        go_roundw
        case rel =>
          refine ⟨k + 1, _, by omega, by go_num, rfl, fun j h1 h2 hjk => ?_⟩
          rcases Nat.lt_succ_iff_lt_or_eq.1 hjk with h | h
          · exact Hall.out j h1 h2 h
          · subst h
            rw [Hx.out]
            have : (x.toNat : Int) = (s[j].toNat : Int) := by simpa using hne
            exact UInt8.toNat_inj.1 (by omega)
        case measure => simp [intOf]; omega
    · go_wp2
      go_ret
      refine ⟨?_, n, rfl⟩
      have : bs = s.data.toList := by
        apply List.ext_getElem
        · rw [Hl.out, len_data]
        · intro i h1 h2
          rw [Hall.out i h1 (by have := Hl.out; omega) (by omega)]
          rfl
      rw [decide_eq_true this]
      rfl

def idxOf : Option Nat → Int
  | some k => k
  | none => -1

theorem name_size (k : Nat) : (nameAt k).length ≤ 8 := by
  match k with
  | 0 | 1 | 2 | 3 | 4 | 5 | 6 | 7 => decide
  | k + 8 => simp [nameAt]

set_option maxRecDepth 100000 in
set_option maxHeartbeats 1000000 in
theorem index_any (a : Option Addr) (cap : Nat) (bs : List UInt8) (o : Option Nat) (ho : IsIdx bs o) (w : World) (hsz : bs.length ≤ 1048576) {lo : Nat} (hr : Reads lo w a (asBytes bs)) :
    Calls Try.prog 14 #[.slice a bs.length cap] w fun e w' => e = .returned (.int .i64 (idxOf o)) ∧ ∃ n, w' = w.drewN n := by
  have Ho := hide ho
  have Hr := hide hr
  clear ho hr
  go_enter Try.func14, Try.ntmps14
  go_wp2
  go_loopw [3] (fun i wr => ∃ k n : Nat, k ≤ 8 ∧ i = .int .i64 k ∧ wr = w.drewN n ∧ ∀ j, j < k → bs ≠ nameAt j) (fun i _ => 8 - (intOf i).toNat)
  case atStart => exact ⟨0, 0, Nat.zero_le _, rfl, rfl, fun j h => absurd h (by omega)⟩
  case round =>
    obtain ⟨k, n, hk, rfl, rfl, hall⟩ := hrel
    have Hall := hide hall
    clear hall
    by_cases hlt : k < 8
    · obtain ⟨S, HS⟩ : ∃ S, Hid (ByteArray.mk (nameAt k).toArray = S) := ⟨_, hide rfl⟩
      have hSd : S.data.toList = nameAt k := by rw [← HS.out]
      have hSs : S.size ≤ 8 := by rw [← HS.out, str_size]; exact name_size k
      have K := name_any k hlt (w.drewN n)
      rw [HS.out] at K
      have K2 := eqStr_any a cap bs S (w.drewN n) hsz (by omega) (lo := lo) (fun i hi => Hr.out i hi)
      rw [hSd] at K2
      have HK := hide K
      clear K hSd hSs
      by_cases heq : bs = nameAt k
      · rw [decide_eq_true heq] at K2
        have HK2 := hide K2
        clear K2
        obtain rfl : o = some k := Ho.out.unique ⟨hlt, heq⟩
        have Heq := hide heq
        clear heq
        go_wp2_with fail
        refine Calls.mono (Hid.out HK) ?_
        rintro e w1 ⟨rfl, hw⟩
        subst w1
        go_wp2_with fail
        refine Calls.mono (Hid.out HK2) ?_
        rintro e w1 ⟨rfl, m, hw⟩
        subst w1
        go_wp2
        go_ret
        exact ⟨rfl, n + m, by simp⟩
      · rw [decide_eq_false heq] at K2
        have HK2 := hide K2
        clear K2
        have Heq := hide heq
        clear heq
        go_wp2_with fail
        refine Calls.mono (Hid.out HK) ?_
        rintro e w1 ⟨rfl, hw⟩
        subst w1
        go_wp2_with fail
        refine Calls.mono (Hid.out HK2) ?_
        rintro e w1 ⟨rfl, m, hw⟩
        subst w1
        go_wp2
        go_roundw
        case rel =>
          refine ⟨k + 1, n + m, by omega, by go_num, by simp, fun j hj => ?_⟩
          rcases Nat.lt_succ_iff_lt_or_eq.1 hj with h | h
          · exact Hall.out j h
          · subst h; exact Heq.out
        case measure => simp [intOf]; omega
    · go_wp2
      go_ret
      have : o = none := Ho.out.unique (fun j hj => Hall.out j (by omega))
      rw [this]
      exact ⟨rfl, n, rfl⟩
end Go.Proofs.Qxb6600841a
