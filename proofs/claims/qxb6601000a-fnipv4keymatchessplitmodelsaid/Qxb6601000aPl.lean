/-
  PLAIN: two readers of a dotted address over a list of bytes, and why they agree. No Go in sight.
-/
namespace Go.Proofs.Qxb6601000a

def isD (c : UInt8) : Bool := decide (48 ≤ c.toNat) && decide (c.toNat ≤ 57)
def noDot (c : UInt8) : Bool := !(c == 46)

theorem isD_noDot {c : UInt8} (h : isD c = true) : c ≠ 46 := by
  intro e; subst e; revert h; decide

/-- the number that digits write -/
def dval (l : List UInt8) : Nat := l.foldl (fun v c => v * 10 + (c.toNat - 48)) 0

/-- a field as a whole -/
def dec (f : List UInt8) : Option Nat :=
  if f.length = 0 ∨ 3 < f.length then none
  else if 1 < f.length ∧ f.head? = some 48 then none
  else if f.all isD then (if 255 < dval f then none else some (dval f)) else none

/-- the greedy reader of a field: its number, and what is left -/
def rdField : List UInt8 → Option (Nat × List UInt8)
  | [] => none
  | c :: r =>
    if isD c then
      if c = 48 then some (0, r)
      else if 255 < dval (c :: (r.take 2).takeWhile isD) then none
      else some (dval (c :: (r.take 2).takeWhile isD), r.drop ((r.take 2).takeWhile isD).length)
    else none

theorem rdField_cons (c : UInt8) (r : List UInt8) : rdField (c :: r) = if isD c then
      if c = 48 then some (0, r)
      else if 255 < dval (c :: (r.take 2).takeWhile isD) then none
      else some (dval (c :: (r.take 2).takeWhile isD), r.drop ((r.take 2).takeWhile isD).length)
    else none := rfl

/-- a tail that can stand behind a field -/
def Tail (t : List UInt8) : Prop := t = [] ∨ ∃ t', t = 46 :: t'

theorem takeWhile_all {p : UInt8 → Bool} {l : List UInt8} (h : l.all p = true) : l.takeWhile p = l := by
  induction l with
  | nil => rfl
  | cons c l ih =>
    simp only [List.all_cons, Bool.and_eq_true] at h
    rw [List.takeWhile_cons_of_pos h.1, ih h.2]

theorem takeWhile_mem {p : UInt8 → Bool} {l : List UInt8} {c : UInt8} (h : c ∈ l.takeWhile p) : p c = true := by
  induction l with
  | nil => simp at h
  | cons d l ih =>
    by_cases hd : p d = true
    · rw [List.takeWhile_cons_of_pos hd] at h
      rcases List.mem_cons.1 h with rfl | h
      · exact hd
      · exact ih h
    · rw [List.takeWhile_cons_of_neg hd] at h; simp at h

/-- what the greedy reader has read: k bytes, all digits -/
theorem rdField_some {s : List UInt8} {v : Nat} {r : List UInt8} (h : rdField s = some (v, r)) :
    ∃ k, 0 < k ∧ k ≤ s.length ∧ r = s.drop k ∧ (s.take k).all isD = true ∧ dec (s.take k) = some v := by
  match s, h with
  | c :: l, h =>
    rw [rdField_cons] at h
    by_cases hc : isD c = true
    · rw [if_pos hc] at h
      by_cases h0 : c = 48
      · rw [if_pos h0] at h
        simp only [Option.some.injEq, Prod.mk.injEq] at h
        obtain ⟨rfl, rfl⟩ := h
        subst h0
        exact ⟨1, by omega, by simp, by simp, by simp [isD], by show dec [48] = some 0; decide⟩
      · rw [if_neg h0] at h
        have hpre : (l.take 2).takeWhile isD = l.take ((l.take 2).takeWhile isD).length := by
          have h1 : (l.take 2).takeWhile isD <+: l := (List.takeWhile_prefix _).trans (List.take_prefix _ _)
          exact List.prefix_iff_eq_take.1 h1
        have hlen : ((l.take 2).takeWhile isD).length ≤ 2 ∧ ((l.take 2).takeWhile isD).length ≤ l.length := by
          have h1 := (List.takeWhile_prefix (p := isD) (l := l.take 2)).length_le
          simp at h1
          omega
        generalize hds : (l.take 2).takeWhile isD = ds at h hpre hlen
        have hall : ds.all isD = true := by
          rw [List.all_eq_true]
          intro x hx
          rw [← hds] at hx
          exact takeWhile_mem hx
        by_cases hv : 255 < dval (c :: ds)
        · rw [if_pos hv] at h; cases h
        · rw [if_neg hv] at h
          simp only [Option.some.injEq, Prod.mk.injEq] at h
          obtain ⟨rfl, rfl⟩ := h
          have ht : (c :: l).take (ds.length + 1) = c :: ds := by simp [← hpre]
          refine ⟨ds.length + 1, by omega, by simp; omega, by simp, ?_, ?_⟩
          · rw [ht]; simp only [List.all_cons, hc, hall, Bool.and_self]
          · rw [ht]
            unfold dec
            rw [if_neg (by simp; omega), if_neg (by simp; intro _; exact h0), if_pos (by simp only [List.all_cons, hc, hall, Bool.and_self]), if_neg hv]
    · rw [if_neg hc] at h; cases h

/-- a whole field that stands ahead of a tail is what the greedy reader reads -/
theorem rdField_of {f t : List UInt8} {v : Nat} (ht : Tail t) (h : dec f = some v) : rdField (f ++ t) = some (v, t) := by
  unfold dec at h
  by_cases h1 : f.length = 0 ∨ 3 < f.length
  · rw [if_pos h1] at h; cases h
  rw [if_neg h1] at h
  by_cases h2 : 1 < f.length ∧ f.head? = some 48
  · rw [if_pos h2] at h; cases h
  rw [if_neg h2] at h
  by_cases h3 : f.all isD = true
  · rw [if_pos h3] at h
    by_cases h4 : 255 < dval f
    · rw [if_pos h4] at h; cases h
    · rw [if_neg h4] at h
      injection h with h
      subst h
      match f, h1, h2, h3, h4 with
      | c :: l, h1, h2, h3, h4 =>
        simp only [List.all_cons, Bool.and_eq_true] at h3
        show rdField (c :: (l ++ t)) = _
        rw [rdField_cons, if_pos h3.1]
        by_cases h0 : c = 48
        · subst h0
          have : l = [] := by
            rcases l with _ | ⟨d, l⟩
            · rfl
            · exact absurd ⟨by simp, rfl⟩ h2
          subst this
          rw [if_pos rfl]
          simp [dval]
        · rw [if_neg h0]
          have hl2 : l.length ≤ 2 := by simp at h1; omega
          have hds : ((l ++ t).take 2).takeWhile isD = l := by
            have htk : (l ++ t).take 2 = l ++ t.take (2 - l.length) := by rw [List.take_append, List.take_of_length_le hl2]
            rw [htk, List.takeWhile_append]
            rw [takeWhile_all h3.2, if_pos rfl]
            rcases ht with rfl | ⟨t', rfl⟩
            · simp
            · cases h : 2 - l.length with
              | zero => simp
              | succ n =>
                rw [List.take_succ_cons, List.takeWhile_cons_of_neg (by decide)]
                simp
          rw [hds, if_neg h4]
          simp
  · rw [if_neg h3] at h; cases h

theorem step {f t : List UInt8} (ht : Tail t) (hf : ∀ c ∈ f, c ≠ 46) (v : Nat) (r : List UInt8) (hr : Tail r) : rdField (f ++ t) = some (v, r) ↔ (dec f = some v ∧ r = t) := by
  constructor
  · intro h
    obtain ⟨k, h0, h1, h2, h3, h4⟩ := rdField_some h
    have hk : k = f.length := by
      rcases Nat.lt_trichotomy k f.length with hlt | he | hgt
      · exfalso
        have hd : r = f[k] :: (f ++ t).drop (k + 1) := by
          rw [h2, List.drop_eq_getElem_cons (by simp; omega), List.getElem_append_left hlt]
        rcases hr with rfl | ⟨r', rfl⟩
        · cases hd
        · injection hd with hd _
          exact hf _ (List.getElem_mem hlt) hd.symm
      · exact he
      · exfalso
        rcases ht with rfl | ⟨t', rfl⟩
        · simp at h1; omega
        · have hm : (46 : UInt8) ∈ (f ++ 46 :: t').take k := by
            rw [List.take_append]
            refine List.mem_append_right _ ?_
            rw [show k - f.length = (k - f.length - 1) + 1 from by omega, List.take_succ_cons]
            exact List.mem_cons_self
          have := List.all_eq_true.1 h3 _ hm
          exact isD_noDot this rfl
    subst hk
    refine ⟨by simpa using h4, by rw [h2]; simp⟩
  · rintro ⟨h, rfl⟩
    exact rdField_of ht h

/-- the reader's way: n fields more behind this one -/
def keyP (mix : Int → Nat → Int) : Nat → Int → List UInt8 → Option Int
  | 0, a, s => match rdField s with
    | some (v, []) => some (mix a v)
    | _ => none
  | n + 1, a, s => match rdField s with
    | some (v, 46 :: r) => keyP mix n (mix a v) r
    | _ => none

def fieldOf (s : List UInt8) : List UInt8 := s.takeWhile noDot
def tailOf (s : List UInt8) : List UInt8 := s.dropWhile noDot

/-- the model's way -/
def modP (mix : Int → Nat → Int) : Nat → Int → List UInt8 → Option Int
  | 0, a, s => (dec (fieldOf s)).map (mix a)
  | n + 1, a, s => match dec (fieldOf s) with
    | some v => modP mix n (mix a v) ((tailOf s).drop 1)
    | none => none

theorem tail_tail (s : List UInt8) : Tail (tailOf s) := by
  unfold tailOf
  induction s with
  | nil => exact .inl rfl
  | cons c s ih =>
    by_cases hc : noDot c = true
    · rw [List.dropWhile_cons_of_pos hc]; exact ih
    · rw [List.dropWhile_cons_of_neg hc]
      right
      have : c = 46 := by simpa [noDot] using hc
      exact ⟨s, by rw [this]⟩

theorem split_eq (s : List UInt8) : fieldOf s ++ tailOf s = s := List.takeWhile_append_dropWhile

theorem field_no (s : List UInt8) : ∀ c ∈ fieldOf s, c ≠ 46 := by
  intro c hc
  have := takeWhile_mem hc
  simpa [noDot] using this

theorem count_split (s : List UInt8) : s.count 46 = (tailOf s).count 46 := by
  have h : (fieldOf s).count 46 = 0 := List.count_eq_zero.2 (fun hm => field_no s 46 hm rfl)
  calc s.count 46 = (fieldOf s ++ tailOf s).count 46 := by rw [split_eq]
    _ = _ := by rw [List.count_append, h, Nat.zero_add]

theorem rd_split (s : List UInt8) (v : Nat) (r : List UInt8) (hr : Tail r) : rdField s = some (v, r) ↔ (dec (fieldOf s) = some v ∧ r = tailOf s) := by
  have := step (tail_tail s) (field_no s) v r hr
  rwa [split_eq] at this

theorem key_eq (mix : Int → Nat → Int) : ∀ (n : Nat) (a : Int) (s : List UInt8), keyP mix n a s = if s.count 46 = n then modP mix n a s else none := by
  intro n
  induction n with
  | zero =>
    intro a s
    unfold keyP modP
    rcases tail_tail s with ht | ⟨t', ht⟩
    · rw [if_pos (by rw [count_split, ht]; rfl)]
      cases hd : dec (fieldOf s) with
      | none =>
        cases hr : rdField s with
        | none => rfl
        | some x =>
          obtain ⟨v, r⟩ := x
          cases r with
          | nil =>
            have := ((rd_split s v [] (.inl rfl)).1 hr).1
            rw [hd] at this; cases this
          | cons c r => rfl
      | some v =>
        have hr := (rd_split s v [] (.inl rfl)).2 ⟨hd, ht.symm⟩
        rw [hr]
        rfl
    · rw [if_neg (by rw [count_split, ht]; simp)]
      cases hr : rdField s with
      | none => rfl
      | some x =>
        obtain ⟨v, r⟩ := x
        cases r with
        | nil =>
          have := ((rd_split s v [] (.inl rfl)).1 hr).2
          rw [ht] at this; cases this
        | cons c r => rfl
  | succ n ih =>
    intro a s
    unfold keyP modP
    rcases tail_tail s with ht | ⟨t', ht⟩
    · rw [if_neg (by rw [count_split, ht]; simp)]
      cases hr : rdField s with
      | none => rfl
      | some x =>
        obtain ⟨v, r⟩ := x
        cases r with
        | nil => rfl
        | cons c r =>
          by_cases hc : c = 46
          · subst hc
            have := ((rd_split s v (46 :: r) (.inr ⟨r, rfl⟩)).1 hr).2
            rw [ht] at this; cases this
          · split
            · rename_i heq
              simp only [Option.some.injEq, Prod.mk.injEq, List.cons.injEq] at heq
              exact absurd heq.2.1 hc
            · rfl
    · have hcnt : s.count 46 = t'.count 46 + 1 := by rw [count_split, ht]; simp
      cases hd : dec (fieldOf s) with
      | none =>
        have : keyP mix (n + 1) a s = none := by
          unfold keyP
          split
          · rename_i v r heq
            have := ((rd_split s v (46 :: r) (.inr ⟨r, rfl⟩)).1 heq).1
            rw [hd] at this; cases this
          · rfl
        unfold keyP at this
        rw [this]
        simp
      | some v =>
        have hr := (rd_split s v (46 :: t') (.inr ⟨t', rfl⟩)).2 ⟨hd, ht.symm⟩
        rw [hr]
        show keyP mix n (mix a v) t' = _
        rw [ih, ht, hcnt]
        simp

theorem dval_snoc (l : List UInt8) (c : UInt8) : dval (l ++ [c]) = dval l * 10 + (c.toNat - 48) := by
  unfold dval; rw [List.foldl_append]; rfl

theorem dval_lt : ∀ (n : Nat) (l : List UInt8), l.length = n → l.all isD = true → dval l + 1 ≤ 10 ^ n := by
  intro n
  induction n with
  | zero => intro l h _; rw [List.length_eq_zero_iff.1 h]; decide
  | succ n ih =>
    intro l h ha
    have hne : l ≠ [] := by intro e; rw [e] at h; simp at h
    obtain ⟨l', c, rfl⟩ : ∃ l' c, l = l' ++ [c] := ⟨l.dropLast, l.getLast hne, (List.dropLast_concat_getLast hne).symm⟩
    rw [List.all_append, Bool.and_eq_true] at ha
    have h1 := ih l' (by simp at h; omega) ha.1
    have h2 : isD c = true := by simpa using ha.2
    rw [dval_snoc]
    simp only [isD, Bool.and_eq_true, decide_eq_true_eq] at h2
    rw [Nat.pow_succ]
    omega

theorem dval_le3 {l : List UInt8} (h : l.length ≤ 3) (ha : l.all isD = true) : dval l ≤ 999 := by
  have := dval_lt l.length l rfl ha
  have h2 : l.length = 0 ∨ l.length = 1 ∨ l.length = 2 ∨ l.length = 3 := by omega
  rcases h2 with h | h | h | h <;> rw [h] at this <;> omega

theorem dec_short {l : List UInt8} (h : l.length = 0 ∨ 3 < l.length) : dec l = none := by unfold dec; rw [if_pos h]
theorem dec_zero {l : List UInt8} (h : 1 < l.length) (h0 : l.head? = some 48) : dec l = none := by
  unfold dec
  by_cases h1 : l.length = 0 ∨ 3 < l.length
  · rw [if_pos h1]
  · rw [if_neg h1, if_pos ⟨h, h0⟩]
theorem dec_bad {l : List UInt8} (h : l.all isD = false) : dec l = none := by
  unfold dec
  rw [h]
  split
  · rfl
  · split <;> rfl
theorem dec_big {l : List UInt8} (h : 255 < dval l) : dec l = none := by
  unfold dec
  split
  · rfl
  · split
    · rfl
    · split
      · rfl
      · rfl
theorem dec_ok {l : List UInt8} (h1 : ¬ (l.length = 0 ∨ 3 < l.length)) (h2 : ¬ (1 < l.length ∧ l.head? = some 48)) (h3 : l.all isD = true) (h4 : ¬ 255 < dval l) : dec l = some (dval l) := by
  unfold dec; rw [if_neg h1, if_neg h2, if_pos h3, if_neg h4]

theorem all_of_mem {l : List UInt8} {c : UInt8} (h : c ∈ l) (hc : isD c = false) : l.all isD = false := by
  rw [List.all_eq_false]
  exact ⟨c, h, by rw [hc]; simp⟩

theorem isD_false {c : UInt8} (h : c.toNat < 48 ∨ 57 < c.toNat) : isD c = false := by
  unfold isD
  rcases h with h | h
  · rw [decide_eq_false (by omega)]; rfl
  · rw [decide_eq_false (p := c.toNat ≤ 57) (by omega)]; simp
theorem isD_true {c : UInt8} (h : 48 ≤ c.toNat ∧ c.toNat ≤ 57) : isD c = true := by
  unfold isD
  rw [decide_eq_true h.1, decide_eq_true h.2]; rfl

/-- where the greedy reader stops -/
theorem greedy {r : List UInt8} {m : Nat} (hm : m ≤ 2) (_hl : m ≤ r.length) (ha : (r.take m).all isD = true) (hx : m = 2 ∨ m = r.length ∨ ∃ h : m < r.length, isD r[m] = false) :
    (r.take 2).takeWhile isD = r.take m := by
  have hsplit : r.take 2 = r.take m ++ (r.drop m).take (2 - m) := by
    have : r.take 2 = r.take (m + (2 - m)) := by rw [show m + (2 - m) = 2 from by omega]
    rw [this, List.take_add]
  rw [hsplit, List.takeWhile_append, takeWhile_all ha, if_pos rfl]
  have : ((r.drop m).take (2 - m)).takeWhile isD = [] := by
    rcases hx with h | h | ⟨h, hd⟩
    · rw [h]; simp
    · rw [h]; simp
    · rw [List.drop_eq_getElem_cons h]
      cases 2 - m with
      | zero => simp
      | succ n => rw [List.take_succ_cons, List.takeWhile_cons_of_neg (by rw [hd]; simp)]
  rw [this, List.append_nil]

theorem rd_bad {s : List UInt8} {k : Nat} (hk : k < s.length) (h : isD s[k] = false) : rdField (s.drop k) = none := by
  rw [List.drop_eq_getElem_cons hk, rdField_cons, h]; rfl
theorem rd_end {s : List UInt8} {k : Nat} (hk : s.length ≤ k) : rdField (s.drop k) = none := by
  rw [List.drop_of_length_le hk]; rfl
theorem rd_zero {s : List UInt8} {k : Nat} (hk : k < s.length) (h : s[k] = 48) : rdField (s.drop k) = some (0, s.drop (k + 1)) := by
  rw [List.drop_eq_getElem_cons hk, rdField_cons, h]; rfl
theorem rd_more {s : List UInt8} {k m : Nat} (hk : k < s.length) (hd : isD s[k] = true) (h0 : s[k] ≠ 48) (hm : m ≤ 2) (hl : k + 1 + m ≤ s.length) (ha : ((s.drop (k + 1)).take m).all isD = true)
    (hx : m = 2 ∨ k + 1 + m = s.length ∨ ∃ h : k + 1 + m < s.length, isD s[k + 1 + m] = false) :
    rdField (s.drop k) = if 255 < dval ((s.drop k).take (m + 1)) then none else some (dval ((s.drop k).take (m + 1)), s.drop (k + 1 + m)) := by
  have hg := greedy (r := s.drop (k + 1)) hm (by simp; omega) ha (by
    rcases hx with h | h | ⟨h, h2⟩
    · exact .inl h
    · exact .inr (.inl (by simp; omega))
    · refine .inr (.inr ⟨by simp; omega, ?_⟩)
      rw [List.getElem_drop]; exact h2)
  have ht : (s.drop k).take (m + 1) = s[k] :: (s.drop (k + 1)).take m := by rw [List.drop_eq_getElem_cons hk, List.take_succ_cons]
  have hlen : ((s.drop (k + 1)).take m).length = m := by simp; omega
  rw [ht]
  rw [List.drop_eq_getElem_cons hk, rdField_cons, if_pos hd, if_neg h0, hg, hlen, List.drop_drop]
end Go.Proofs.Qxb6601000a
