import Derived.Test.Qxb6601000aW1
namespace Go.Proofs.Qxb6601000a
open Go.RowKit
set_option linter.unusedVariables false

/-- 'addr<<8 | v' -/
def mix (a : Int) (v : Nat) : Int := bits .or .u32 (a * 256 % 4294967296) (v : Int)

/-- a pair comes back: the reader's verdict, and its number where it says yes -/
def KeyOut (o : Option Int) (w : World) (e : Ending) (w' : World) : Prop :=
  ∃ a, e = .returned (.tuple #[.int .u32 a, .bool o.isSome]) ∧ w' = w ∧ ∀ b, o = some b → a = b

theorem KeyOut.no {o : Option Int} {w w' : World} (h : o = none) (hw : w' = w) (a : Int) : KeyOut o w (.returned (.tuple #[.int .u32 a, .bool false])) w' := by
  subst h; exact ⟨a, rfl, hw, fun b hb => by cases hb⟩
theorem KeyOut.yes {o : Option Int} {w w' : World} {a : Int} (h : o = some a) (hw : w' = w) : KeyOut o w (.returned (.tuple #[.int .u32 a, .bool true])) w' := by
  subst h; exact ⟨a, rfl, hw, fun b hb => by injection hb⟩

theorem keyP_none {n : Nat} {a : Int} {s : List UInt8} (h : rdField s = none) : keyP mix n a s = none := by
  cases n <;> (unfold keyP; rw [h])

set_option maxRecDepth 100000 in
set_option maxHeartbeats 2000000 in
theorem key_any (s : ByteArray) (w : World) (hs : s.size ≤ 1048576) :
    Calls Try.prog 17 #[.string s] w (KeyOut (keyP mix 3 0 s.data.toList) w) := by
  go_enter Try.func17, Try.ntmps17
  go_wp2
  go_loop [4, 5, 6] (fun ad i d => ∃ (k : Nat) (n : Nat) (a : Int), k ≤ s.size ∧ n ≤ 3 ∧ i = .int .i64 k ∧ d = .int .i64 n ∧ ad = .int .u32 a ∧ keyP mix 3 0 s.data.toList = keyP mix (3 - n) a (s.data.toList.drop k)) (fun _ _ d => 4 - (intOf d).toNat)
  case atStart => exact ⟨0, 0, 0, Nat.zero_le _, Nat.zero_le _, rfl, rfl, rfl, rfl⟩
  case round =>
    obtain ⟨k, n, a, hk, hn, rfl, rfl, rfl, hkey⟩ := hrel
    have Hkey := hide hkey
    clear hkey
    by_cases hke : k = s.size
    · have hkb : ((k : Int) == (s.size : Int)) = true := beq_iff_eq.2 (by omega)
      have Hke := hide hke
      clear hke
      go_wp2
      go_ret2
      exact KeyOut.no (Hkey.out.trans (keyP_none (rd_end (by rw [len_data]; have := Hke.out; omega)))) rfl _
    have hlt : k < s.size := by omega
    have hkl : k < s.data.toList.length := by rw [len_data]; exact hlt
    have hkb : ((k : Int) == (s.size : Int)) = false := beq_eq_false_iff_ne.2 (by omega)
    clear hke
    by_cases hd : 48 ≤ s[k].toNat ∧ s[k].toNat ≤ 57
    case neg =>
      have Hbad := hide (rd_bad hkl (by rw [get_data s k hlt]; exact isD_false (by omega)))
      have h9 : 9 < ((s[k].toNat : Int) - 48) % 256 := by have := s[k].toNat_lt; omega
      clear hd
      go_wp2
      all_goals
        go_ret2
        exact KeyOut.no (Hkey.out.trans (keyP_none Hbad.out)) rfl _
    have Hdig := hide (isD_true hd)
    obtain ⟨hd1, hd2⟩ := hd
    go_upto_if 26 with fail
    go_cut [5, 7, 8, 9] (fun i f _ _ wx => ∃ j v : Nat, i = .int .i64 j ∧ f = .int .u32 v ∧ k < j ∧ j ≤ s.size ∧ rdField (s.data.toList.drop k) = some (v, s.data.toList.drop j) ∧ wx = w)
    case first =>
      by_cases hz : s[k].toNat = 48
      · have hz1 : (s[k].toNat : Int) = 48 := by omega
        have Hr := hide (rd_zero hkl (by rw [get_data s k hlt]; exact UInt8.toNat_inj.1 (by rw [hz]; rfl)))
        clear hz
        go_wp2
        go_meet
        exact ⟨k + 1, 0, by go_num, by go_num, by omega, by omega, Hr.out, rfl⟩
      · have hz1 : (((s[k].toNat : Int) - 48) != 0) = true := bne_iff_ne.2 (by omega)
        have Hnz := hide (show s.data.toList[k] ≠ 48 from fun e => hz (by rw [get_data s k hlt] at e; rw [e]; rfl))
        clear hz
        by_cases hmin : k + 3 ≤ s.size
        · go_wp2
          go_loop [5, 7] (fun i f => ∃ m : Nat, m ≤ 2 ∧ k + 1 + m ≤ s.size ∧ i = .int .i64 (k + 1 + m : Nat) ∧ f = .int .u32 (dval ((s.data.toList.drop k).take (m + 1)) : Nat) ∧ ((s.data.toList.drop (k + 1)).take m).all isD = true) (fun i _ => k + 3 - (intOf i).toNat)
          case atStart =>
            refine ⟨0, by omega, by omega, by go_num, ?_, rfl⟩
            rw [List.drop_eq_getElem_cons hkl, List.take_succ_cons, List.take_zero]
            show Value.int .u32 ((s[k].toNat : Int) - 48) = _
            exact congrArg (Value.int .u32) (by show _ = ((0 * 10 + ((s.data.toList[k]).toNat - 48) : Nat) : Int); rw [get_data s k hlt]; omega)
          case round =>
            obtain ⟨m, hm, hms, rfl, rfl, hall⟩ := hrel
            have Hall := hide hall
            have htl : ((s.data.toList.drop k).take (m + 1)).length ≤ 3 := by simp; omega
            have hta : ((s.data.toList.drop k).take (m + 1)).all isD = true := by
              rw [List.drop_eq_getElem_cons hkl, List.take_succ_cons]
              simp only [List.all_cons, hall, Bool.and_true]
              rw [get_data s k hlt]; exact Hdig.out
            have hb := dval_le3 htl hta
            clear hall htl hta
            have hexit : (m = 2 ∨ k + 1 + m = s.data.toList.length ∨ ∃ h : k + 1 + m < s.data.toList.length, isD s.data.toList[k + 1 + m] = false) → rdField (s.data.toList.drop k) = if 255 < dval ((s.data.toList.drop k).take (m + 1)) then none else some (dval ((s.data.toList.drop k).take (m + 1)), s.data.toList.drop (k + 1 + m)) :=
              fun hx => rd_more hkl (by rw [get_data s k hlt]; exact Hdig.out) Hnz.out hm (by rw [len_data]; exact hms) Hall.out hx
            have Hexit := hide hexit
            clear hexit
            obtain ⟨D, HD⟩ : ∃ D, Hid (dval ((s.data.toList.drop k).take (m + 1)) = D) := ⟨_, hide rfl⟩
            have HE := Hexit.out
            rw [HD.out] at hb HE ⊢
            have Hexit := hide HE
            clear HE
            by_cases hlm : m < 2
            · have hkm : k + 1 + m < s.size := by omega
              have hkm1 : ((k + 1 + m : Nat) : Int) < (s.size : Int) := by omega
              have hkm2 : k + 1 + m < s.data.toList.length := by rw [len_data]; exact hkm
              by_cases he : 48 ≤ s[k + 1 + m].toNat ∧ s[k + 1 + m].toNat ≤ 57
              · have Hde := hide (isD_true he)
                obtain ⟨he1, he2⟩ := he
                have Hsn := hide (dval_snoc ((s.data.toList.drop k).take (m + 1)) s[k + 1 + m])
                have Htk := hide (show (s.data.toList.drop k).take (m + 1 + 1) = (s.data.toList.drop k).take (m + 1) ++ [s[k + 1 + m]] by
                  rw [List.take_succ_eq_append_getElem (by simp; omega), List.getElem_drop]
                  rw [← get_data s (k + 1 + m) hkm]
                  simp only [show k + (m + 1) = k + 1 + m from by omega])
                have Htk2 := hide (show (s.data.toList.drop (k + 1)).take (m + 1) = (s.data.toList.drop (k + 1)).take m ++ [s[k + 1 + m]] by
                  rw [List.take_succ_eq_append_getElem (by simp; omega), List.getElem_drop]
                  rw [← get_data s (k + 1 + m) hkm])
                go_wp2
                go_round
                case rel =>
                  refine ⟨m + 1, by omega, by omega, by go_num, ?_, ?_⟩
                  · rw [Htk.out, Hsn.out, HD.out]
                    exact congrArg (Value.int .u32) (by omega)
                  · rw [Htk2.out, List.all_append, Hall.out]
                    simp only [List.all_cons, List.all_nil, Hde.out, Bool.and_self]
                case measure => simp [intOf]; omega
              · have hx := Hexit.out (.inr (.inr ⟨hkm2, by rw [get_data s _ hkm]; exact isD_false (by omega)⟩))
                have Hx := hide hx
                have h9 : 9 < ((s[k + 1 + m].toNat : Int) - 48) % 256 := by have := s[k + 1 + m].toNat_lt; omega
                clear hx he
                by_cases hbig : 255 < D
                · go_wp2
                  all_goals
                    go_ret2
                    exact KeyOut.no (Hkey.out.trans (keyP_none (by rw [Hx.out, if_pos hbig]))) rfl _
                · go_wp2
                  all_goals
                    go_meet
                    exact ⟨k + 1 + m, D, rfl, rfl, by omega, hms, by rw [Hx.out, if_neg hbig], rfl⟩
            · have hx := Hexit.out (.inl (by omega))
              have Hx := hide hx
              clear hx
              by_cases hbig : 255 < D
              · go_wp2
                go_ret2
                exact KeyOut.no (Hkey.out.trans (keyP_none (by rw [Hx.out, if_pos hbig]))) rfl _
              · go_wp2
                go_meet
                exact ⟨k + 1 + m, D, rfl, rfl, by omega, hms, by rw [Hx.out, if_neg hbig], rfl⟩
        · go_wp2
          go_loop [5, 7] (fun i f => ∃ m : Nat, m ≤ 2 ∧ k + 1 + m ≤ s.size ∧ i = .int .i64 (k + 1 + m : Nat) ∧ f = .int .u32 (dval ((s.data.toList.drop k).take (m + 1)) : Nat) ∧ ((s.data.toList.drop (k + 1)).take m).all isD = true) (fun i _ => k + 3 - (intOf i).toNat)
          case atStart =>
            refine ⟨0, by omega, by omega, by go_num, ?_, rfl⟩
            rw [List.drop_eq_getElem_cons hkl, List.take_succ_cons, List.take_zero]
            show Value.int .u32 ((s[k].toNat : Int) - 48) = _
            exact congrArg (Value.int .u32) (by show _ = ((0 * 10 + ((s.data.toList[k]).toNat - 48) : Nat) : Int); rw [get_data s k hlt]; omega)
          case round =>
            obtain ⟨m, hm, hms, rfl, rfl, hall⟩ := hrel
            have Hall := hide hall
            have htl : ((s.data.toList.drop k).take (m + 1)).length ≤ 3 := by simp; omega
            have hta : ((s.data.toList.drop k).take (m + 1)).all isD = true := by
              rw [List.drop_eq_getElem_cons hkl, List.take_succ_cons]
              simp only [List.all_cons, hall, Bool.and_true]
              rw [get_data s k hlt]; exact Hdig.out
            have hb := dval_le3 htl hta
            clear hall htl hta
            have hexit : (m = 2 ∨ k + 1 + m = s.data.toList.length ∨ ∃ h : k + 1 + m < s.data.toList.length, isD s.data.toList[k + 1 + m] = false) → rdField (s.data.toList.drop k) = if 255 < dval ((s.data.toList.drop k).take (m + 1)) then none else some (dval ((s.data.toList.drop k).take (m + 1)), s.data.toList.drop (k + 1 + m)) :=
              fun hx => rd_more hkl (by rw [get_data s k hlt]; exact Hdig.out) Hnz.out hm (by rw [len_data]; exact hms) Hall.out hx
            have Hexit := hide hexit
            clear hexit
            obtain ⟨D, HD⟩ : ∃ D, Hid (dval ((s.data.toList.drop k).take (m + 1)) = D) := ⟨_, hide rfl⟩
            have HE := Hexit.out
            rw [HD.out] at hb HE ⊢
            have Hexit := hide HE
            clear HE
            by_cases hlm : k + 1 + m < s.size
            · have hkm : k + 1 + m < s.size := by omega
              have hkm1 : ((k + 1 + m : Nat) : Int) < (s.size : Int) := by omega
              have hkm2 : k + 1 + m < s.data.toList.length := by rw [len_data]; exact hkm
              by_cases he : 48 ≤ s[k + 1 + m].toNat ∧ s[k + 1 + m].toNat ≤ 57
              · have Hde := hide (isD_true he)
                obtain ⟨he1, he2⟩ := he
                have Hsn := hide (dval_snoc ((s.data.toList.drop k).take (m + 1)) s[k + 1 + m])
                have Htk := hide (show (s.data.toList.drop k).take (m + 1 + 1) = (s.data.toList.drop k).take (m + 1) ++ [s[k + 1 + m]] by
                  rw [List.take_succ_eq_append_getElem (by simp; omega), List.getElem_drop]
                  rw [← get_data s (k + 1 + m) hkm]
                  simp only [show k + (m + 1) = k + 1 + m from by omega])
                have Htk2 := hide (show (s.data.toList.drop (k + 1)).take (m + 1) = (s.data.toList.drop (k + 1)).take m ++ [s[k + 1 + m]] by
                  rw [List.take_succ_eq_append_getElem (by simp; omega), List.getElem_drop]
                  rw [← get_data s (k + 1 + m) hkm])
                go_wp2
                go_round
                case rel =>
                  refine ⟨m + 1, by omega, by omega, by go_num, ?_, ?_⟩
                  · rw [Htk.out, Hsn.out, HD.out]
                    exact congrArg (Value.int .u32) (by omega)
                  · rw [Htk2.out, List.all_append, Hall.out]
                    simp only [List.all_cons, List.all_nil, Hde.out, Bool.and_self]
                case measure => simp [intOf]; omega
              · have hx := Hexit.out (.inr (.inr ⟨hkm2, by rw [get_data s _ hkm]; exact isD_false (by omega)⟩))
                have Hx := hide hx
                have h9 : 9 < ((s[k + 1 + m].toNat : Int) - 48) % 256 := by have := s[k + 1 + m].toNat_lt; omega
                clear hx he
                by_cases hbig : 255 < D
                · go_wp2
                  all_goals
                    go_ret2
                    exact KeyOut.no (Hkey.out.trans (keyP_none (by rw [Hx.out, if_pos hbig]))) rfl _
                · go_wp2
                  all_goals
                    go_meet
                    exact ⟨k + 1 + m, D, rfl, rfl, by omega, hms, by rw [Hx.out, if_neg hbig], rfl⟩
            · have hx := Hexit.out (.inr (.inl (by rw [len_data]; omega)))
              have Hx := hide hx
              clear hx
              by_cases hbig : 255 < D
              · go_wp2
                go_ret2
                exact KeyOut.no (Hkey.out.trans (keyP_none (by rw [Hx.out, if_pos hbig]))) rfl _
              · go_wp2
                go_meet
                exact ⟨k + 1 + m, D, rfl, rfl, by omega, hms, by rw [Hx.out, if_neg hbig], rfl⟩
    case rest =>
      obtain ⟨j, v, rfl, rfl, hkj, hjs, hrd, hw⟩ := hcut
      subst hw
      have Hrd := hide hrd
      clear hrd
      by_cases hn3 : n = 3
      · subst hn3
        by_cases hje : j = s.size
        · have hjb : ((j : Int) == (s.size : Int)) = true := beq_iff_eq.2 (by omega)
          have Hje := hide hje
          clear hje
          go_wp2
          go_ret2
          refine KeyOut.yes (a := mix a v) (Hkey.out.trans ?_) rfl
          show (match rdField (s.data.toList.drop k) with | some (v, []) => some (mix a v) | _ => none) = _
          rw [Hrd.out, List.drop_of_length_le (by rw [len_data]; have := Hje.out; omega)]
        · have hjb : ((j : Int) == (s.size : Int)) = false := beq_eq_false_iff_ne.2 (by omega)
          have hjl : j < s.data.toList.length := by rw [len_data]; omega
          have Hjl := hide hjl
          clear hje hjl
          go_wp2
          go_ret2
          refine KeyOut.no (Hkey.out.trans ?_) rfl _
          show (match rdField (s.data.toList.drop k) with | some (v, []) => some (mix a v) | _ => none) = _
          rw [Hrd.out, List.drop_eq_getElem_cons Hjl.out]
      · have hnb : ((n : Int) == 3) = false := beq_eq_false_iff_ne.2 (by omega)
        obtain ⟨n', hn'⟩ : ∃ n', 3 - n = n' + 1 := ⟨2 - n, by omega⟩
        have Hn' := hide hn'
        clear hn' hn3
        by_cases hje : j = s.size
        · have hjb : ((j : Int) == (s.size : Int)) = true := beq_iff_eq.2 (by omega)
          have Hje := hide hje
          clear hje
          go_wp2
          all_goals
            go_ret2
            refine KeyOut.no (Hkey.out.trans ?_) rfl _
            rw [Hn'.out]
            show (match rdField (s.data.toList.drop k) with | some (v, 46 :: r) => keyP mix n' (mix a v) r | _ => none) = _
            rw [Hrd.out, List.drop_of_length_le (by rw [len_data]; have := Hje.out; omega)]
        · have hjb : ((j : Int) == (s.size : Int)) = false := beq_eq_false_iff_ne.2 (by omega)
          have hjs' : j < s.size := by omega
          have hji : (j : Int) < (s.size : Int) := by omega
          have Hjl := hide (show j < s.data.toList.length by rw [len_data]; exact hjs')
          clear hje
          by_cases hdot : s[j].toNat = 46
          · have hdb : ((s[j].toNat : Int) != 46) = false := by simp [hdot]
            have Hdot := hide (show s.data.toList[j]'Hjl.out = 46 from UInt8.toNat_inj.1 (by show s[j].toNat = 46; exact hdot))
            clear hdot
            go_wp2
            go_round
            case rel =>
              refine ⟨j + 1, n + 1, mix a v, by omega, by have := Hn'.out; omega, by go_num, by go_num, rfl, Hkey.out.trans ?_⟩
              rw [Hn'.out, show 3 - (n + 1) = n' from by have := Hn'.out; omega]
              show (match rdField (s.data.toList.drop k) with | some (v, 46 :: r) => keyP mix n' (mix a v) r | _ => none) = _
              rw [Hrd.out, List.drop_eq_getElem_cons Hjl.out, Hdot.out]
              rfl
            case measure => have := Hn'.out; simp [intOf]; omega
          · have hdb : ((s[j].toNat : Int) != 46) = true := bne_iff_ne.2 (by omega)
            have Hdot := hide (show s.data.toList[j]'Hjl.out ≠ 46 from fun e => hdot (congrArg UInt8.toNat e))
            clear hdot
            go_wp2
            go_ret2
            refine KeyOut.no (Hkey.out.trans ?_) rfl _
            rw [Hn'.out]
            show (match rdField (s.data.toList.drop k) with | some (v, 46 :: r) => keyP mix n' (mix a v) r | _ => none) = _
            rw [Hrd.out, List.drop_eq_getElem_cons Hjl.out]
            split
            · rename_i heq
              simp only [Option.some.injEq, Prod.mk.injEq, List.cons.injEq] at heq
              exact absurd heq.2.1 Hdot.out
            · rfl

set_option maxRecDepth 100000 in
set_option maxHeartbeats 1000000 in
theorem zzKey_any (s : ByteArray) (w : World) (hs : s.size ≤ 1048576) :
    Calls Try.prog 9 #[.string s] w (KeyOut (keyP mix 3 0 s.data.toList) w) := by
  have K := hide (key_any s w hs)
  generalize (keyP mix 3 0 s.data.toList) = o at K ⊢
  go_enter Try.func9, Try.ntmps9
  go_wp2_with fail
  refine Calls.mono (Hid.out K) ?_
  rintro e w1 ⟨a, rfl, hw, ha⟩
  subst w1
  have Ha := hide ha
  clear ha K
  go_wp2
  go_ret2
  exact ⟨a, rfl, rfl, Ha.out⟩

set_option maxRecDepth 100000 in
set_option maxHeartbeats 1000000 in
theorem bytes_any (s : ByteArray) (w : World) (hs : s.size ≤ 9223372036854775807) :
    Calls Try.prog 8 #[.string s] w fun e w' => (e = .returned (.bool (decide (s.size ≤ 1048576)))) ∧ w' = w := by
  by_cases h : s.size ≤ 1048576
  · rw [decide_eq_true h]
    go_enter Try.func8, Try.ntmps8
    go_wp2
    go_ret
    exact ⟨rfl, rfl⟩
  · rw [decide_eq_false h]
    go_enter Try.func8, Try.ntmps8
    go_wp2
    go_ret
    exact ⟨rfl, rfl⟩
end Go.Proofs.Qxb6601000a
