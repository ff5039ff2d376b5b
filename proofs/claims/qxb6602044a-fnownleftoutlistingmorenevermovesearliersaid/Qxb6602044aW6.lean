import Derived.Test.Qxb6602044aW5
namespace Go.Proofs.Qxb6602044a
open Go.RowKit
set_option linter.unusedVariables false

/-- an int comes back that meets R, the world stands -/
def RetI (w : World) (R : Int → Prop) (e : Ending) (w' : World) : Prop := ∃ n : Int, e = .returned (.int .i64 n) ∧ w' = w ∧ R n

theorem getD_of {α : Type} {l : List α} {k : Nat} {x d : α} (h : k < l.length) (e : l[k] = x) : l.getD k d = x := by
  rw [List.getD_eq_getElem?_getD, List.getElem?_eq_getElem h, e]; rfl

theorem noBytes_toList : noBytes.toList = [] := by rw [ByteArray.toList_eq]; rfl
theorem empty_of {pred : ByteArray} (hpe : pred.toList.isEmpty = true) : (pred == noBytes) = true := by
  rw [List.isEmpty_iff] at hpe
  rw [beq_toListBytes, hpe, noBytes_toList]
  rfl

theorem ownTest_of (wt : List Int) (wi wp ri : List ByteArray) (txn : Int) (pred : ByteArray) (reads : List Int) (k : Nat) (t : Int) (p i : ByteArray)
    (ht : wt.getD k 0 = t) (hp : wp.getD k noBytes = p) (hi : wi.getD k noBytes = i) (hpe : pred.toList.isEmpty = false) :
    ownTest wt wi wp ri txn pred reads k = ((t == txn) && (p.toList == pred.toList) && !listed i reads ri) := by
  unfold ownTest
  have h0 : (pred == noBytes) = false := by
    rw [beq_toListBytes]
    simp only [noBytes]
    rw [ByteArray.toList_eq, ByteArray.toList_eq] at *
    cases h : pred.data.toList with
    | nil => rw [h] at hpe; simp at hpe
    | cons a l => rfl
  rw [ht, hp, hi, h0, beq_toListBytes]
  rfl

set_option maxRecDepth 100000 in
set_option maxHeartbeats 1000000 in
theorem firstOwn_any (w : World) (a0 a1 a2 a3 a6 : Option Addr) (l0 l3 l6 c0 c1 c2 c3 c6 : Nat) (wt : List Int) (wi wp ri : List ByteArray) (reads : List Int) (txn before : Int) (pred : ByteArray)
    (g0 : l0 ≤ 1048576) (g3 : l3 ≤ 1048576) (g6 : l6 ≤ 1048576)
    (hl0 : wt.length = l0) (hl1 : wi.length = l0) (hl2 : wp.length = l0) (hl3 : ri.length = l3) (hl6 : reads.length = l6)
    {n0 n1 n2 n3 n6 : Nat} (hr0 : Reads n0 w a0 (wt.map (Value.int .i64))) (hr1 : Reads n1 w a1 (wi.map Value.string)) (hr2 : Reads n2 w a2 (wp.map Value.string)) (hr3 : Reads n3 w a3 (ri.map Value.string)) (hr6 : Reads n6 w a6 (reads.map (Value.int .i64)))
    (hok : ∀ x ∈ reads, idxOk x l3) :
    Calls Try.prog 28 #[.slice a0 l0 c0, .slice a1 l0 c1, .slice a2 l0 c2, .slice a3 l3 c3, .int .i64 txn, .string pred, .slice a6 l6 c6, .int .i64 before] w (RetI w (FirstOwn wt wi wp ri txn pred reads before)) := by
  have Hl0 := hide hl0
  have Hl1 := hide hl1
  have Hl2 := hide hl2
  have Hl3 := hide hl3
  have Hl6 := hide hl6
  have Hr0 := hide hr0
  have Hr1 := hide hr1
  have Hr2 := hide hr2
  have Hr3 := hide hr3
  have Hr6 := hide hr6
  have Hok := hide hok
  clear hl0 hl1 hl2 hl3 hl6 hr0 hr1 hr2 hr3 hr6 hok
  by_cases hpe : pred.toList.isEmpty = true
  · go_enter Try.func28, Try.ntmps28
    go_wp2
    go_ret
    refine ⟨_, rfl, rfl, .inr ⟨rfl, fun j _ => ?_⟩⟩
    have h0 := empty_of hpe
    unfold ownTest
    rw [h0]
    rfl
  replace hpe : pred.toList.isEmpty = false := by simpa using hpe
  by_cases hb : (l0 : Int) < before
  · skip
    go_enter Try.func28, Try.ntmps28
    go_wp2
    go_loop [18] (fun i => ∃ k : Nat, (k : Int) ≤ l0 ∧ i = .int .i64 k ∧ ∀ j, j < k → ownTest wt wi wp ri txn pred reads j = false) (fun i => l0 - (intOf i).toNat)
    case atStart => exact ⟨0, by omega, rfl, fun j h => absurd h (by omega)⟩
    case round =>
      obtain ⟨k, hk, rfl, hall⟩ := hrel
      have Hall := hide hall
      clear hall
      by_cases hlt : (k : Int) < (l0 : Int)
      · have hkt : k < wt.length := by have := Hl0.out; omega
        have hki : k < wi.length := by have := Hl1.out; omega
        have hkp : k < wp.length := by have := Hl2.out; omega
        obtain ⟨b0, o0, rfl, _, _, hc0⟩ := Hr0.out k (by simpa using hkt)
        obtain ⟨b1, o1, rfl, _, _, hc1⟩ := Hr1.out k (by simpa using hki)
        obtain ⟨b2, o2, rfl, _, _, hc2⟩ := Hr2.out k (by simpa using hkp)
        simp only [List.getElem_map] at hc0 hc1 hc2
        obtain ⟨t, Ht⟩ : ∃ r, Hid (wt[k] = r) := ⟨_, hide rfl⟩
        obtain ⟨it, Hi⟩ : ∃ r, Hid (wi[k] = r) := ⟨_, hide rfl⟩
        obtain ⟨p, Hp⟩ : ∃ r, Hid (wp[k] = r) := ⟨_, hide rfl⟩
        rw [Ht.out] at hc0
        rw [Hi.out] at hc1
        rw [Hp.out] at hc2
        have Htest := hide (ownTest_of wt wi wp ri txn pred reads k t p it (getD_of hkt Ht.out) (getD_of hkp Hp.out) (getD_of hki Hi.out) hpe)
        have hkl : (k : Int) < l0 := by omega
        by_cases h1 : (t == txn) = true
        · by_cases h2 : (p.toList == pred.toList) = true
          · have K := hide (listed_any it a6 l6 c6 reads a3 l3 c3 ri w Hl6.out g6 Hr6.out Hl3.out g3 Hr3.out Hok.out)
            go_wp2_with fail
            refine Calls.mono (Hid.out K) ?_
            rintro e w1 ⟨rfl, rfl⟩
            cases hli : listed it reads ri with
            | true =>
              have Hli := hide hli
              clear hli
              go_wp2
              go_round
              case rel =>
                refine ⟨k + 1, by omega, by go_num, fun j hj => ?_⟩
                rcases Nat.lt_succ_iff_lt_or_eq.1 hj with h | h
                · exact Hall.out j h
                · subst h
                  rw [Htest.out, h1, h2, Hli.out]
                  rfl
              case measure => simp [intOf]; omega
            | false =>
              have Hli := hide hli
              clear hli
              go_wp2
              go_ret
              refine ⟨_, rfl, rfl, .inl ⟨k, ?_, rfl, ?_, Hall.out⟩⟩
              · have := Hl0.out
                unfold ownLim
                omega
              · rw [Htest.out, h1, h2, Hli.out]
                rfl
          · have h2' : (p.toList == pred.toList) = false := by simpa using h2
            clear h2
            go_wp2
            go_round
            case rel =>
              refine ⟨k + 1, by omega, by go_num, fun j hj => ?_⟩
              rcases Nat.lt_succ_iff_lt_or_eq.1 hj with h | h
              · exact Hall.out j h
              · subst h
                rw [Htest.out, h2']
                simp
            case measure => simp [intOf]; omega
        · have h1' : (t == txn) = false := by simpa using h1
          clear h1
          go_wp2
          go_round
          case rel =>
            refine ⟨k + 1, by omega, by go_num, fun j hj => ?_⟩
            rcases Nat.lt_succ_iff_lt_or_eq.1 hj with h | h
            · exact Hall.out j h
            · subst h
              rw [Htest.out, h1']
              rfl
          case measure => simp [intOf]; omega
      · go_wp2
        go_ret
        refine ⟨_, rfl, rfl, .inr ⟨rfl, fun j hj => Hall.out j ?_⟩⟩
        have := Hl0.out
        unfold ownLim at hj
        omega
  · have hb' : before ≤ l0 := by omega
    go_enter Try.func28, Try.ntmps28
    go_wp2
    go_loop [18] (fun i => ∃ k : Nat, (k : Int) ≤ l0 ∧ i = .int .i64 k ∧ ∀ j, j < k → ownTest wt wi wp ri txn pred reads j = false) (fun i => l0 - (intOf i).toNat)
    case atStart => exact ⟨0, by omega, rfl, fun j h => absurd h (by omega)⟩
    case round =>
      obtain ⟨k, hk, rfl, hall⟩ := hrel
      have Hall := hide hall
      clear hall
      by_cases hlt : (k : Int) < before
      · have hkt : k < wt.length := by have := Hl0.out; omega
        have hki : k < wi.length := by have := Hl1.out; omega
        have hkp : k < wp.length := by have := Hl2.out; omega
        obtain ⟨b0, o0, rfl, _, _, hc0⟩ := Hr0.out k (by simpa using hkt)
        obtain ⟨b1, o1, rfl, _, _, hc1⟩ := Hr1.out k (by simpa using hki)
        obtain ⟨b2, o2, rfl, _, _, hc2⟩ := Hr2.out k (by simpa using hkp)
        simp only [List.getElem_map] at hc0 hc1 hc2
        obtain ⟨t, Ht⟩ : ∃ r, Hid (wt[k] = r) := ⟨_, hide rfl⟩
        obtain ⟨it, Hi⟩ : ∃ r, Hid (wi[k] = r) := ⟨_, hide rfl⟩
        obtain ⟨p, Hp⟩ : ∃ r, Hid (wp[k] = r) := ⟨_, hide rfl⟩
        rw [Ht.out] at hc0
        rw [Hi.out] at hc1
        rw [Hp.out] at hc2
        have Htest := hide (ownTest_of wt wi wp ri txn pred reads k t p it (getD_of hkt Ht.out) (getD_of hkp Hp.out) (getD_of hki Hi.out) hpe)
        have hkl : (k : Int) < l0 := by omega
        by_cases h1 : (t == txn) = true
        · by_cases h2 : (p.toList == pred.toList) = true
          · have K := hide (listed_any it a6 l6 c6 reads a3 l3 c3 ri w Hl6.out g6 Hr6.out Hl3.out g3 Hr3.out Hok.out)
            go_wp2_with fail
            refine Calls.mono (Hid.out K) ?_
            rintro e w1 ⟨rfl, rfl⟩
            cases hli : listed it reads ri with
            | true =>
              have Hli := hide hli
              clear hli
              go_wp2
              go_round
              case rel =>
                refine ⟨k + 1, by omega, by go_num, fun j hj => ?_⟩
                rcases Nat.lt_succ_iff_lt_or_eq.1 hj with h | h
                · exact Hall.out j h
                · subst h
                  rw [Htest.out, h1, h2, Hli.out]
                  rfl
              case measure => simp [intOf]; omega
            | false =>
              have Hli := hide hli
              clear hli
              go_wp2
              go_ret
              refine ⟨_, rfl, rfl, .inl ⟨k, ?_, rfl, ?_, Hall.out⟩⟩
              · have := Hl0.out
                unfold ownLim
                omega
              · rw [Htest.out, h1, h2, Hli.out]
                rfl
          · have h2' : (p.toList == pred.toList) = false := by simpa using h2
            clear h2
            go_wp2
            go_round
            case rel =>
              refine ⟨k + 1, by omega, by go_num, fun j hj => ?_⟩
              rcases Nat.lt_succ_iff_lt_or_eq.1 hj with h | h
              · exact Hall.out j h
              · subst h
                rw [Htest.out, h2']
                simp
            case measure => simp [intOf]; omega
        · have h1' : (t == txn) = false := by simpa using h1
          clear h1
          go_wp2
          go_round
          case rel =>
            refine ⟨k + 1, by omega, by go_num, fun j hj => ?_⟩
            rcases Nat.lt_succ_iff_lt_or_eq.1 hj with h | h
            · exact Hall.out j h
            · subst h
              rw [Htest.out, h1']
              rfl
          case measure => simp [intOf]; omega
      · go_wp2
        go_ret
        refine ⟨_, rfl, rfl, .inr ⟨rfl, fun j hj => Hall.out j ?_⟩⟩
        have := Hl0.out
        unfold ownLim at hj
        omega
end Go.Proofs.Qxb6602044a
