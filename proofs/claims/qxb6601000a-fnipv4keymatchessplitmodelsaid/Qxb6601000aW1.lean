import Derived.Test.Qxb6601000aProg
import Derived.Test.Qxb6601000aPl
import Derived.WalkKit
import Derived.WalkSpells
import Derived.WalkLawsBesides
import Derived.Deep.DeepCutAuto
namespace Go.Proofs.Qxb6601000a
open Go.RowKit
set_option linter.unusedVariables false
theorem hide {p : Prop} (h : p) : Hid p := h

theorem len_data (s : ByteArray) : s.data.toList.length = s.size := by show s.data.toList.length = s.data.size; simp
theorem get_data (s : ByteArray) (k : Nat) (h : k < s.size) : s.data.toList[k]'(by rw [len_data]; exact h) = s[k] := rfl
theorem take_snoc (s : ByteArray) (k : Nat) (h : k < s.size) : s.data.toList.take (k + 1) = s.data.toList.take k ++ [s[k]] := by
  rw [List.take_succ_eq_append_getElem (by rw [len_data]; exact h)]; rfl

/-- what a field's reader hands back -/
def decOut (s : ByteArray) : Value := .tuple #[.int .u32 (((dec s.data.toList).getD 0 : Nat) : Int), .bool (dec s.data.toList).isSome]

theorem decOut_none {s : ByteArray} (h : dec s.data.toList = none) : decOut s = .tuple #[.int .u32 0, .bool false] := by unfold decOut; rw [h]; rfl
theorem decOut_some {s : ByteArray} {v : Nat} (h : dec s.data.toList = some v) : decOut s = .tuple #[.int .u32 (v : Int), .bool true] := by unfold decOut; rw [h]; rfl

theorem head_data (s : ByteArray) (h : 0 < s.size) : s.data.toList.head? = some s[0] := by
  rw [List.head?_eq_getElem?, List.getElem?_eq_getElem (by rw [len_data]; exact h)]; rfl

set_option maxRecDepth 100000 in
set_option maxHeartbeats 1000000 in
theorem dec_loop (s : ByteArray) (w : World) (h0 : 0 < s.size) (h3 : s.size ≤ 3) (h1 : ¬ (1 < s.size ∧ s[0] = 48)) :
    Calls Try.prog 18 #[.string s] w fun e w' => e = .returned (decOut s) ∧ w' = w := by
  have hne : ((s.size : Int) == 0) = false := beq_eq_false_iff_ne.2 (by omega)
  have hz : (s[0].toNat : Int) = 48 → s[0] = 48 := fun h => UInt8.toNat_inj.1 (by show s[0].toNat = 48; omega)
  have Hh := hide (show ¬ (1 < s.data.toList.length ∧ s.data.toList.head? = some 48) from fun ⟨a, b⟩ => h1 ⟨by rw [len_data] at a; exact a, by rw [head_data s h0] at b; injection b⟩)
  by_cases hl1 : 1 < s.size
  · have hs0 : ((s[0].toNat : Int) == 48) = false := beq_eq_false_iff_ne.2 (fun e => h1 ⟨hl1, hz e⟩)
    have hi0 : (0 : Int) < (s.size : Int) := by omega
    clear hz h1
    go_enter Try.func18, Try.ntmps18
    go_wp2
    go_loop [4, 5] (fun v i => ∃ k : Nat, k ≤ s.size ∧ i = .int .i64 k ∧ v = .int .u32 (dval (s.data.toList.take k) : Nat) ∧ (s.data.toList.take k).all isD = true) (fun _ i => s.size - (intOf i).toNat)
    case atStart => exact ⟨0, Nat.zero_le _, rfl, rfl, rfl⟩
    case round =>
      obtain ⟨k, hk, rfl, rfl, hall⟩ := hrel
      have Hall := hide hall
      have hb := dval_le3 (l := s.data.toList.take k) (by simp; omega) hall
      clear hall
      by_cases hlt : k < s.size
      · have Hsn := hide (dval_snoc (s.data.toList.take k) s[k])
        have Htk := hide (take_snoc s k hlt)
        by_cases hd : 48 ≤ s[k].toNat ∧ s[k].toNat ≤ 57
        · have hdd := hide (isD_true hd)
          obtain ⟨hd1, hd2⟩ := hd
          go_wp2
          go_round
          case rel =>
            refine ⟨k + 1, by omega, by go_num, ?_, ?_⟩
            · rw [Htk.out, Hsn.out]
              exact congrArg (Value.int .u32) (by omega)
            · rw [Htk.out, List.all_append, Hall.out]
              simp only [List.all_cons, List.all_nil, hdd.out, Bool.and_self]
          case measure => simp [intOf]; omega
        · have hbad := hide (dec_bad (all_of_mem (l := s.data.toList) (c := s[k]) (by rw [← get_data s k hlt]; exact List.getElem_mem _) (isD_false (by omega))))
          by_cases hd1 : s[k].toNat < 48
          · go_wp2
            go_ret2
            rw [decOut_none hbad.out]
            exact ⟨rfl, rfl⟩
          · have hd2 : 57 < s[k].toNat := by omega
            clear hd
            go_wp2
            go_ret2
            rw [decOut_none hbad.out]
            exact ⟨rfl, rfl⟩
      · have htk : s.data.toList.take k = s.data.toList := List.take_of_length_le (by rw [len_data]; omega)
        rw [htk] at hb Hall ⊢
        by_cases hbig : 255 < dval s.data.toList
        · go_wp2
          go_ret2
          rw [decOut_none (dec_big hbig)]
          exact ⟨rfl, rfl⟩
        · go_wp2
          go_ret2
          rw [decOut_some (dec_ok (by rw [len_data]; omega) Hh.out Hall.out hbig)]
          exact ⟨rfl, rfl⟩
  · clear hz h1
    go_enter Try.func18, Try.ntmps18
    go_wp2
    go_loop [4, 5] (fun v i => ∃ k : Nat, k ≤ s.size ∧ i = .int .i64 k ∧ v = .int .u32 (dval (s.data.toList.take k) : Nat) ∧ (s.data.toList.take k).all isD = true) (fun _ i => s.size - (intOf i).toNat)
    case atStart => exact ⟨0, Nat.zero_le _, rfl, rfl, rfl⟩
    case round =>
      obtain ⟨k, hk, rfl, rfl, hall⟩ := hrel
      have Hall := hide hall
      have hb := dval_le3 (l := s.data.toList.take k) (by simp; omega) hall
      clear hall
      by_cases hlt : k < s.size
      · have Hsn := hide (dval_snoc (s.data.toList.take k) s[k])
        have Htk := hide (take_snoc s k hlt)
        by_cases hd : 48 ≤ s[k].toNat ∧ s[k].toNat ≤ 57
        · have hdd := hide (isD_true hd)
          obtain ⟨hd1, hd2⟩ := hd
          go_wp2
          go_round
          case rel =>
            refine ⟨k + 1, by omega, by go_num, ?_, ?_⟩
            · rw [Htk.out, Hsn.out]
              exact congrArg (Value.int .u32) (by omega)
            · rw [Htk.out, List.all_append, Hall.out]
              simp only [List.all_cons, List.all_nil, hdd.out, Bool.and_self]
          case measure => simp [intOf]; omega
        · have hbad := hide (dec_bad (all_of_mem (l := s.data.toList) (c := s[k]) (by rw [← get_data s k hlt]; exact List.getElem_mem _) (isD_false (by omega))))
          by_cases hd1 : s[k].toNat < 48
          · go_wp2
            go_ret2
            rw [decOut_none hbad.out]
            exact ⟨rfl, rfl⟩
          · have hd2 : 57 < s[k].toNat := by omega
            clear hd
            go_wp2
            go_ret2
            rw [decOut_none hbad.out]
            exact ⟨rfl, rfl⟩
      · have htk : s.data.toList.take k = s.data.toList := List.take_of_length_le (by rw [len_data]; omega)
        rw [htk] at hb Hall ⊢
        by_cases hbig : 255 < dval s.data.toList
        · go_wp2
          go_ret2
          rw [decOut_none (dec_big hbig)]
          exact ⟨rfl, rfl⟩
        · go_wp2
          go_ret2
          rw [decOut_some (dec_ok (by rw [len_data]; omega) Hh.out Hall.out hbig)]
          exact ⟨rfl, rfl⟩

set_option maxRecDepth 100000 in
set_option maxHeartbeats 1000000 in
theorem dec_any (s : ByteArray) (w : World) (hs : s.size ≤ 1048576) :
    Calls Try.prog 18 #[.string s] w fun e w' => e = .returned (decOut s) ∧ w' = w := by
  by_cases h0 : s.size = 0
  · rw [decOut_none (dec_short (by rw [len_data]; exact .inl h0))]
    go_enter Try.func18, Try.ntmps18
    go_wp2
    go_ret2
    exact ⟨rfl, rfl⟩
  by_cases h3 : 3 < s.size
  · rw [decOut_none (dec_short (by rw [len_data]; exact .inr h3))]
    have hne : ((s.size : Int) == 0) = false := beq_eq_false_iff_ne.2 (by omega)
    go_enter Try.func18, Try.ntmps18
    go_wp2
    go_ret2
    exact ⟨rfl, rfl⟩
  have hp : 0 < s.size := by omega
  by_cases h1 : 1 < s.size ∧ s[0]'hp = 48
  · rw [decOut_none (dec_zero (by rw [len_data]; exact h1.1) (by rw [head_data s (by omega), h1.2]))]
    have hne : ((s.size : Int) == 0) = false := beq_eq_false_iff_ne.2 (by omega)
    have hs0 : (((s[0]'hp).toNat : Int) == 48) = true := by rw [h1.2]; rfl
    have hl1 := h1.1
    have hi0 : (0 : Int) < (s.size : Int) := by omega
    clear h1
    go_enter Try.func18, Try.ntmps18
    go_wp2
    go_ret2
    exact ⟨rfl, rfl⟩
  exact dec_loop s w (by omega) (by omega) h1
end Go.Proofs.Qxb6601000a
