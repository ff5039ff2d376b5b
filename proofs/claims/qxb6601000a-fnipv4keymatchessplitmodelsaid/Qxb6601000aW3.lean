import Derived.Test.Qxb6601000aW2
namespace Go.Proofs.Qxb6601000a
open Go.RowKit
set_option linter.unusedVariables false

/-- the model as a whole -/
def modelP (l : List UInt8) : Option Int := if l.count 46 = 3 then modP mix 3 0 l else none

theorem count_snoc (s : ByteArray) (k : Nat) (h : k < s.size) : (s.data.toList.take (k + 1)).count 46 = (s.data.toList.take k).count 46 + if s[k].toNat = 46 then 1 else 0 := by
  rw [take_snoc s k h, List.count_append]
  congr 1
  by_cases hd : s[k].toNat = 46
  · rw [if_pos hd]
    have : s[k] = 46 := UInt8.toNat_inj.1 (by show s[k].toNat = 46; exact hd)
    rw [this]; rfl
  · rw [if_neg hd, List.count_eq_zero.2]
    intro hm
    simp at hm
    exact hd (by rw [← hm]; rfl)

theorem field_at (l : List UInt8) (i e : Nat) (he : i ≤ e) (hel : e ≤ l.length) (hno : ∀ j (hj : j < l.length), i ≤ j → j < e → l[j] ≠ 46) (hend : e = l.length ∨ ∃ h : e < l.length, l[e] = 46) :
    fieldOf (l.drop i) = (l.drop i).take (e - i) ∧ tailOf (l.drop i) = l.drop e := by
  have hsp : l.drop i = (l.drop i).take (e - i) ++ l.drop e := by
    have := (List.take_append_drop (e - i) (l.drop i)).symm
    rw [List.drop_drop, show i + (e - i) = e from by omega] at this
    exact this
  have hall : ((l.drop i).take (e - i)).all noDot = true := by
    rw [List.all_eq_true]
    intro c hc
    obtain ⟨j, hj, rfl⟩ := List.mem_iff_getElem.1 hc
    simp at hj
    rw [List.getElem_take, List.getElem_drop]
    have := hno (i + j) (by omega) (by omega) (by omega)
    simpa [noDot] using this
  have ht : (l.drop e).takeWhile noDot = [] ∧ (l.drop e).dropWhile noDot = l.drop e := by
    rcases hend with h | ⟨h, hd⟩
    · rw [List.drop_of_length_le (by omega)]; exact ⟨rfl, rfl⟩
    · rw [List.drop_eq_getElem_cons h, hd]
      exact ⟨by rw [List.takeWhile_cons_of_neg (by decide)], by rw [List.dropWhile_cons_of_neg (by decide)]⟩
  unfold fieldOf tailOf
  constructor
  · conv => lhs; rw [hsp]
    rw [List.takeWhile_append, takeWhile_all hall, if_pos rfl, ht.1, List.append_nil]
  · conv => lhs; rw [hsp]
    rw [List.dropWhile_append_of_pos (by intro c hc; exact List.all_eq_true.1 hall c hc), ht.2]

/-- the dots among the first k bytes -/
def dotsTo (s : ByteArray) (k : Nat) : Nat := (s.data.toList.take k).count 46

theorem dotsTo_le (s : ByteArray) (k : Nat) : dotsTo s k ≤ k := Nat.le_trans List.count_le_length (by simp; omega)
theorem dotsTo_all (s : ByteArray) (k : Nat) (h : s.size ≤ k) : dotsTo s k = s.data.toList.count 46 := by
  unfold dotsTo; rw [List.take_of_length_le (by rw [len_data]; exact h)]

theorem extract_list (s : ByteArray) (i e : Nat) (hi : i ≤ e) (he : e ≤ s.size) : (s.extract i e).data.toList = (s.data.toList.drop i).take (e - i) := by
  simp [ByteArray.data_extract, Array.toList_extract, List.extract]

/-- what holds ahead of field f -/
def ModRel (s : ByteArray) (f st : Nat) (a : Int) : Prop :=
  (f ≤ 3 ∧ st ≤ s.size ∧ (s.data.toList.drop st).count 46 = 3 - f ∧ modelP s.data.toList = modP mix (3 - f) a (s.data.toList.drop st)) ∨ (f = 4 ∧ st ≤ s.size + 1 ∧ modelP s.data.toList = some a)

theorem ModRel.no {s : ByteArray} {f st e : Nat} {a : Int} (h : ModRel s f st a) (hf : f < 4) (hfe : fieldOf (s.data.toList.drop st) = (s.data.toList.drop st).take (e - st)) (hd : dec ((s.data.toList.drop st).take (e - st)) = none) : modelP s.data.toList = none := by
  rcases h with ⟨h1, h2, h3, h4⟩ | ⟨h1, _⟩
  · rw [h4]
    cases 3 - f with
    | zero => unfold modP; rw [hfe, hd]; rfl
    | succ n => unfold modP; rw [hfe, hd]
  · omega

theorem ModRel.next {s : ByteArray} {f st e : Nat} {a : Int} {v : Nat} (h : ModRel s f st a) (hf : f < 4) (hes : e ≤ s.size) (hfe : fieldOf (s.data.toList.drop st) = (s.data.toList.drop st).take (e - st)) (hte : tailOf (s.data.toList.drop st) = s.data.toList.drop e)
    (hd : dec ((s.data.toList.drop st).take (e - st)) = some v) : ModRel s (f + 1) (e + 1) (mix a v) := by
  rcases h with ⟨h1, h2, h3, h4⟩ | ⟨h1, _⟩
  · by_cases hf3 : f = 3
    · subst hf3
      refine .inr ⟨rfl, by omega, ?_⟩
      rw [h4]
      show (dec (fieldOf (s.data.toList.drop st))).map (mix a) = _
      rw [hfe, hd]; rfl
    · left
      have hn : 3 - f = (3 - (f + 1)) + 1 := by omega
      have hcnt := count_split (s.data.toList.drop st)
      rw [hte, h3] at hcnt
      have helt : e < s.data.toList.length := by
        rcases Nat.lt_or_ge e s.data.toList.length with h | h
        · exact h
        · rw [List.drop_of_length_le h] at hcnt; simp at hcnt; omega
      have hdot : s.data.toList[e] = 46 := by
        have ht := tail_tail (s.data.toList.drop st)
        rw [hte, List.drop_eq_getElem_cons helt] at ht
        rcases ht with ht | ⟨t', ht⟩
        · cases ht
        · injection ht
      have helt2 : e < s.size := by rw [len_data] at helt; exact helt
      refine ⟨by omega, by omega, ?_, ?_⟩
      · rw [List.drop_eq_getElem_cons helt, hdot] at hcnt
        simp at hcnt
        omega
      · rw [h4, hn]
        show (match dec (fieldOf (s.data.toList.drop st)) with | some v => modP mix (3 - (f + 1)) (mix a v) ((tailOf (s.data.toList.drop st)).drop 1) | none => none) = _
        rw [hfe, hd, hte, List.drop_drop]
  · omega

set_option maxRecDepth 100000 in
set_option maxHeartbeats 2000000 in
theorem model_any (s : ByteArray) (w : World) (hs : s.size ≤ 1048576) :
    Calls Try.prog 10 #[.string s] w (KeyOut (modelP s.data.toList) w) := by
  go_enter Try.func10, Try.ntmps10
  go_wp2
  go_loop [4, 5] (fun d i => ∃ k : Nat, k ≤ s.size ∧ i = .int .i64 k ∧ d = .int .i64 (dotsTo s k : Nat)) (fun _ i => s.size - (intOf i).toNat)
  case atStart => exact ⟨0, Nat.zero_le _, rfl, rfl⟩
  case round =>
    obtain ⟨k, hk, rfl, rfl⟩ := hrel
    have hcl := dotsTo_le s k
    by_cases hlt : k < s.size
    · have Hsn := hide (show dotsTo s (k + 1) = dotsTo s k + if s[k].toNat = 46 then 1 else 0 from count_snoc s k hlt)
      have hki : (k : Int) < (s.size : Int) := by omega
      by_cases hd : s[k].toNat = 46
      · have hdb : ((s[k].toNat : Int) == 46) = true := beq_iff_eq.2 (by omega)
        have Hd := hide hd
        clear hd
        go_wp2
        go_round
        case rel => exact ⟨k + 1, by omega, by go_num, by rw [Hsn.out, if_pos Hd.out]; go_num⟩
        case measure => simp [intOf]; omega
      · have hdb : ((s[k].toNat : Int) == 46) = false := beq_eq_false_iff_ne.2 (by omega)
        have Hd := hide hd
        clear hd
        go_wp2
        go_round
        case rel => exact ⟨k + 1, by omega, by go_num, by rw [Hsn.out, if_neg Hd.out]; rfl⟩
        case measure => simp [intOf]; omega
    · have hda := dotsTo_all s k (by omega)
      by_cases h3 : dotsTo s k = 3
      · have h3b : ((dotsTo s k : Int) != 3) = false := by rw [h3]; rfl
        have Hm := hide (show ModRel s 0 0 0 from .inl ⟨by omega, by omega, by rw [List.drop_zero, ← hda, h3], by unfold modelP; rw [if_pos (by rw [← hda, h3]), List.drop_zero]⟩)
        clear h3 hda hcl
        go_wp2
        go_loop [6, 7, 8] (fun ad st f => ∃ (n q : Nat) (a : Int), n ≤ 4 ∧ q ≤ s.size + 1 ∧ f = .int .i64 n ∧ st = .int .i64 q ∧ ad = .int .u32 a ∧ ModRel s n q a) (fun _ _ f => 4 - (intOf f).toNat)
        case atStart => exact ⟨0, 0, 0, by omega, by omega, rfl, rfl, rfl, Hm.out⟩
        case round =>
          obtain ⟨n, q, a, hn, hq, rfl, rfl, rfl, hrel⟩ := hrel
          have Hrel := hide hrel
          clear hrel Hm
          by_cases hn4 : n < 4
          · have hqs : q ≤ s.size := by
              rcases Hrel.out with ⟨_, h, _⟩ | ⟨h, _⟩
              · exact h
              · omega
            go_wp2
            go_loop [9] (fun x => ∃ e : Nat, q ≤ e ∧ e ≤ s.size ∧ x = .int .i64 e ∧ ∀ j (hj : j < s.data.toList.length), q ≤ j → j < e → s.data.toList[j] ≠ 46) (fun x => s.size - (intOf x).toNat)
            case atStart => exact ⟨q, Nat.le_refl _, hqs, rfl, fun j _ h1 h2 => absurd h1 (by omega)⟩
            case round =>
              obtain ⟨e, hqe, hes, rfl, hno⟩ := hrel
              have Hno := hide hno
              clear hno
              by_cases hmore : ∃ h : e < s.size, s[e].toNat ≠ 46
              · obtain ⟨hel, hne⟩ := hmore
                have hei : (e : Int) < (s.size : Int) := by omega
                have hnb : ((s[e].toNat : Int) != 46) = true := bne_iff_ne.2 (by omega)
                have Hne := hide hne
                clear hne
                go_wp2
                go_round
                case rel =>
                  refine ⟨e + 1, by omega, by omega, by go_num, fun j hj h1 h2 => ?_⟩
                  rcases Nat.lt_succ_iff_lt_or_eq.1 h2 with h | h
                  · exact Hno.out j hj h1 h
                  · subst h
                    exact fun e => Hne.out (congrArg UInt8.toNat e)
                case measure => simp [intOf]; omega
              · have hend : e = s.data.toList.length ∨ ∃ h : e < s.data.toList.length, s.data.toList[e] = 46 := by
                  rcases Nat.lt_or_ge e s.size with h | h
                  · right
                    refine ⟨by rw [len_data]; exact h, UInt8.toNat_inj.1 ?_⟩
                    show s[e].toNat = 46
                    rcases Nat.decEq s[e].toNat 46 with h' | h'
                    · exact absurd ⟨h, h'⟩ hmore
                    · exact h'
                  · left; rw [len_data]; omega
                obtain ⟨hf1, hf2⟩ := field_at s.data.toList q e hqe (by rw [len_data]; exact hes) Hno.out hend
                have Hf1 := hide hf1
                have Hf2 := hide hf2
                have K := dec_any (s.extract q e) w (by simp; omega)
                have Hx := hide (extract_list s q e hqe hes)
                have hqi : (q : Int) ≤ (e : Int) := by omega
                have hei : (e : Int) ≤ (s.size : Int) := by omega
                clear hf1 hf2 hend
                have hcont : ∀ (P : Prop), (e < s.size → (h : e < s.size) → ((s[e].toNat : Int) != 46) = false → P) → (s.size ≤ e → P) → P := by
                  intro P h1 h2
                  rcases Nat.lt_or_ge e s.size with h | h
                  · refine h1 h h ?_
                    have : s[e].toNat = 46 := by
                      rcases Nat.decEq s[e].toNat 46 with h' | h'
                      · exact absurd ⟨h, h'⟩ hmore
                      · exact h'
                    simp [this]
                  · exact h2 h
                cases hdec : dec ((s.data.toList.drop q).take (e - q)) with
                | none =>
                  rw [decOut_none (by rw [Hx.out]; exact hdec)] at K
                  have HK := hide K
                  have Hno2 := hide (Hrel.out.no hn4 Hf1.out hdec)
                  clear hdec K
                  rcases Nat.lt_or_ge e s.size with hel | hel
                  · have hnb : ((s[e].toNat : Int) != 46) = false := by
                      have : s[e].toNat = 46 := by
                        rcases Nat.decEq s[e].toNat 46 with h' | h'
                        · exact absurd ⟨hel, h'⟩ hmore
                        · exact h'
                      simp [this]
                    clear hmore hcont
                    go_wp2_with fail
                    refine Calls.mono (Hid.out HK) ?_
                    rintro e1 w1 ⟨rfl, hw⟩
                    subst w1
                    go_wp2
                    go_ret2
                    exact KeyOut.no Hno2.out rfl _
                  · clear hmore hcont
                    go_wp2_with fail
                    refine Calls.mono (Hid.out HK) ?_
                    rintro e1 w1 ⟨rfl, hw⟩
                    subst w1
                    go_wp2
                    go_ret2
                    exact KeyOut.no Hno2.out rfl _
                | some v =>
                  rw [decOut_some (by rw [Hx.out]; exact hdec)] at K
                  have HK := hide K
                  have Hnx := hide (Hrel.out.next hn4 hes Hf1.out Hf2.out hdec)
                  clear hdec K
                  rcases Nat.lt_or_ge e s.size with hel | hel
                  · have hnb : ((s[e].toNat : Int) != 46) = false := by
                      have : s[e].toNat = 46 := by
                        rcases Nat.decEq s[e].toNat 46 with h' | h'
                        · exact absurd ⟨hel, h'⟩ hmore
                        · exact h'
                      simp [this]
                    clear hmore hcont
                    go_wp2_with fail
                    refine Calls.mono (Hid.out HK) ?_
                    rintro e1 w1 ⟨rfl, hw⟩
                    subst w1
                    go_wp2
                    go_round
                    case rel => exact ⟨n + 1, e + 1, mix a v, by omega, by omega, by go_num, by go_num, rfl, Hnx.out⟩
                    case measure => simp [intOf]; omega
                  · clear hmore hcont
                    go_wp2_with fail
                    refine Calls.mono (Hid.out HK) ?_
                    rintro e1 w1 ⟨rfl, hw⟩
                    subst w1
                    go_wp2
                    go_round
                    case rel => exact ⟨n + 1, e + 1, mix a v, by omega, by omega, by go_num, by go_num, rfl, Hnx.out⟩
                    case measure => simp [intOf]; omega
          · go_wp2
            go_ret2
            refine KeyOut.yes ?_ rfl
            rcases Hrel.out with ⟨h, _⟩ | ⟨_, _, h⟩
            · omega
            · exact h
      · have h3b : ((dotsTo s k : Int) != 3) = true := bne_iff_ne.2 (by omega)
        have Hmod := hide (show modelP s.data.toList = none by unfold modelP; rw [if_neg (by rw [← hda]; exact h3)])
        clear h3 hda
        go_wp2
        go_ret2
        exact KeyOut.no Hmod.out rfl _
end Go.Proofs.Qxb6601000a
