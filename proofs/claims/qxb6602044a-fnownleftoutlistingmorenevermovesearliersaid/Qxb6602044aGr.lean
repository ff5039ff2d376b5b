/-
  THE TWO MAPS OF ownLeftOut IN MEMORY.
-/
import Derived.Test.Qxb6602044aMk
import Derived.Test.Qxb6602044aPl2
import Derived.Laws.AppendOwn
namespace Go.Proofs.Qxb6602044a
open Go.RowKit
set_option linter.unusedVariables false

theorem Only.grown {b : Nat} {w w' : World} (h : Only b w w') : w.grownBy w' (some b) :=
  ⟨h.os, h.tape, h.output, by rw [h.size]; exact Nat.le_refl _, fun k _ hk => h.block k (fun e => hk (by rw [e]))⟩

theorem MapIs.grown {κ : Type} {enc : κ → Value} {w w' : World} {b : Nat} {L : List (κ × Value)} {row : Option Nat} (h : MapIs enc w b L) (hg : w.grownBy w' row) (hne : some b ≠ row) : MapIs enc w' b L := by
  have := h.lt
  unfold MapIs at h ⊢
  rw [hg.block b this hne, h]

theorem heap_drewN (w : World) (n : Nat) : (w.drewN n).heap = w.heap := by
  cases n <;> rfl
theorem Row.drewN {w : World} {b : Nat} {e : TypeId} {l : List Value} (h : Row w b e l) (n : Nat) : Row (w.drewN n) b e l := by
  unfold Row at h ⊢; rw [heap_drewN]; exact h
theorem MapIs.drewN {κ : Type} {enc : κ → Value} {w : World} {b : Nat} {L : List (κ × Value)} (h : MapIs enc w b L) (n : Nat) : MapIs enc (w.drewN n) b L := by
  unfold MapIs at h ⊢; rw [heap_drewN]; exact h

def asInts (l : List Nat) : List Value := l.map (fun n : Nat => Value.int .i64 (n : Int))

def SeenOk (wt : List Int) (wi wp : List ByteArray) (k : Nat) (S : List ((Int × ByteArray × ByteArray) × Value)) : Prop :=
  ∀ x, assocGet x S = if seenB wt wi wp k x then some (.bool true) else none

def Groups (w : World) (base : Nat) (L : List ((Int × ByteArray) × Value)) (G : Int × ByteArray → List Nat) : Prop :=
  (∀ x, (assocGet x L = none ∧ G x = []) ∨ ∃ v, assocGet x L = some v ∧ G x ≠ [] ∧ w.ownsRow base 3 1 v (G x).length (asInts (G x))) ∧
  (∀ x y v v', x ≠ y → assocGet x L = some v → assocGet y L = some v' → v.ownBlock ≠ v'.ownBlock)

theorem Groups.kept {w w' : World} {base : Nat} {L : List ((Int × ByteArray) × Value)} {G : Int × ByteArray → List Nat} (h : Groups w base L G) {row : Option Nat} (hg : w.grownBy w' row) (hr : ∀ g, row = some g → g < base) : Groups w' base L G := by
  refine ⟨fun x => ?_, h.2⟩
  rcases h.1 x with h1 | ⟨v, h1, h2, h3⟩
  · exact .inl h1
  · refine .inr ⟨v, h1, h2, h3.kept hg ?_⟩
    cases hv : v.ownBlock with
    | none => exact .inl rfl
    | some b =>
      right
      intro e
      have := hr b e.symm
      have := (h3.lt b hv).1
      omega

theorem ownsRow_below {w w' : World} {base : Nat} {e : TypeId} {size : Nat} {v : Value} {n : Nat} {xs : List Value} (h : w.ownsRow base e size v n xs) (hb : Below w.heap.size w w') : w'.ownsRow base e size v n xs := by
  refine ⟨h.1, ?_⟩
  rcases h.2 with h0 | ⟨g, cap, cur, rfl, hg, hh, rest⟩
  · exact .inl h0
  · exact .inr ⟨g, cap, cur, rfl, hg, by rw [hb.block g (Array.getElem?_eq_some_iff.1 hh).1]; exact hh, rest⟩

theorem Groups.below {w w' : World} {base : Nat} {L : List ((Int × ByteArray) × Value)} {G : Int × ByteArray → List Nat} (h : Groups w base L G) (hb : Below w.heap.size w w') : Groups w' base L G := by
  refine ⟨fun x => ?_, h.2⟩
  rcases h.1 x with h1 | ⟨v, h1, h2, h3⟩
  · exact .inl h1
  · exact .inr ⟨v, h1, h2, ownsRow_below h3 hb⟩

/-- what the look-up of x's slice gives: nothing gathered, or a row that holds just the numbers -/
theorem Groups.look {w : World} {base : Nat} {L : List ((Int × ByteArray) × Value)} {G : Int × ByteArray → List Nat} (h : Groups w base L G) (x : Int × ByteArray) :
    ((assocGet x L).getD (.slice none 0 0) = .slice none 0 0 ∧ G x = []) ∨
    ∃ g cap, (assocGet x L).getD (.slice none 0 0) = .slice (some ⟨g, 0, none⟩) (G x).length cap ∧ G x ≠ [] ∧ g < w.heap.size ∧ ∀ i (hi : i < (G x).length), w.cell? ⟨g, i, none⟩ = some (.int .i64 (((G x)[i] : Nat) : Int)) := by
  rcases h.1 x with ⟨h1, h2⟩ | ⟨v, h1, h2, h3⟩
  · exact .inl ⟨by rw [h1]; rfl, h2⟩
  · right
    rcases h3.2 with ⟨_, h0⟩ | ⟨g, cap, cur, rfl, hg, hh, hn, hc, hs, ht⟩
    · exact absurd (List.length_eq_zero_iff.1 h0) h2
    · refine ⟨g, cap, by rw [h1]; rfl, h2, (Array.getElem?_eq_some_iff.1 hh).1, fun i hi => ?_⟩
      rw [cell_of_row w g i cur 3 (0, 0) hh]
      have : cur.toList[i]? = (asInts (G x))[i]? := by rw [← ht, List.getElem?_take]; simp [hi]
      rw [← Array.getElem?_toList, this]
      simp [asInts, List.getElem?_eq_getElem hi]

theorem Groups.congr {w : World} {base : Nat} {L : List ((Int × ByteArray) × Value)} {G G' : Int × ByteArray → List Nat} (h : Groups w base L G) (he : ∀ x, G x = G' x) : Groups w base L G' := by
  have : G = G' := funext he
  rw [← this]; exact h

/-- what x's slice is before the append -/
theorem Groups.at {w : World} {base : Nat} {L : List ((Int × ByteArray) × Value)} {G : Int × ByteArray → List Nat} (h : Groups w base L G) (x : Int × ByteArray) :
    w.ownsRow base 3 1 ((assocGet x L).getD (.slice none 0 0)) (G x).length (asInts (G x)) := by
  rcases h.1 x with ⟨h1, h2⟩ | ⟨v, h1, h2, h3⟩
  · rw [h1, h2]; exact World.ownsRow_nil w base 3 1
  · rw [h1]; exact h3

theorem Groups.append {w w1 : World} {base : Nat} {L L' : List ((Int × ByteArray) × Value)} {G : Int × ByteArray → List Nat} (h : Groups w base L G) (x : Int × ByteArray) (k : Nat) {g cap n : Nat}
    (hg : w.grownBy w1 ((assocGet x L).getD (.slice none 0 0)).ownBlock) (hown : w1.ownsRow base 3 1 (.slice (some ⟨g, 0, none⟩) n cap) n (asInts (G x) ++ [.int .i64 (k : Int)])) (hn : n = (G x).length + 1)
    (hloc : ((assocGet x L).getD (.slice none 0 0)).ownBlock = some g ∨ g = w.heap.size)
    (hL : ∀ y, assocGet y L' = if y = x then some (.slice (some ⟨g, 0, none⟩) n cap) else assocGet y L) :
    Groups w1 base L' (fun y => if y = x then G x ++ [k] else G y) := by
  subst hn
  have hlt : ∀ y u, assocGet y L = some u → ∀ b, u.ownBlock = some b → b < w.heap.size := by
    intro y u hu b hb
    rcases h.1 y with ⟨h1, _⟩ | ⟨v, h1, _, h3⟩
    · rw [h1] at hu; cases hu
    · rw [h1] at hu; injection hu with hu; subst hu; exact (h3.lt b hb).2
  have hfar : ∀ y u, y ≠ x → assocGet y L = some u → u.ownBlock ≠ some g := by
    intro y u hy hu he
    rcases hloc with h1 | h1
    · cases hx : assocGet x L with
      | none => rw [hx] at h1; simp [Value.ownBlock] at h1
      | some v =>
        rw [hx] at h1
        exact h.2 y x u v hy hu hx (by rw [he]; exact h1.symm)
    · have := hlt y u hu g he
      omega
  refine ⟨fun y => ?_, ?_⟩
  · rw [hL y]
    show (_ ∧ (if y = x then G x ++ [k] else G y) = []) ∨ ∃ v, _ ∧ (if y = x then G x ++ [k] else G y) ≠ [] ∧ w1.ownsRow base 3 1 v (if y = x then G x ++ [k] else G y).length (asInts (if y = x then G x ++ [k] else G y))
    by_cases hy : y = x
    · subst hy
      rw [if_pos rfl, if_pos rfl]
      refine .inr ⟨_, rfl, by simp, ?_⟩
      simpa [asInts] using hown
    · rw [if_neg hy, if_neg hy]
      rcases h.1 y with h1 | ⟨u, h1, h2, h3⟩
      · exact .inl h1
      · refine .inr ⟨u, h1, h2, h3.kept hg ?_⟩
        cases hx : assocGet x L with
        | none =>
          cases hu : u.ownBlock with
          | none => exact .inl rfl
          | some b => right; simp [Value.ownBlock]
        | some v => exact .inr (h.2 y x u v hy h1 hx)
  · intro y z u u' hyz hu hu'
    rw [hL] at hu hu'
    by_cases hy : y = x
    · subst hy
      rw [if_pos rfl] at hu
      rw [if_neg (Ne.symm hyz)] at hu'
      injection hu with hu
      subst hu
      exact fun e => hfar z u' (Ne.symm hyz) hu' (by rw [← e]; rfl)
    · rw [if_neg hy] at hu
      by_cases hz : z = x
      · subst hz
        rw [if_pos rfl] at hu'
        injection hu' with hu'
        subst hu'
        exact fun e => hfar y u hy hu (by rw [e]; rfl)
      · rw [if_neg hz] at hu'
        exact h.2 y z u u' hyz hu hu'

theorem assocGet_append {κ : Type} [DecidableEq κ] (x y : κ) (v : Value) (L : List (κ × Value)) (hx : assocGet x L = none) : assocGet y (L ++ [(x, v)]) = if y = x then some v else assocGet y L := by
  induction L with
  | nil => simp [assocGet]
  | cons p l ih =>
    unfold assocGet at hx
    by_cases h : x = p.1
    · rw [if_pos h] at hx; cases hx
    · rw [if_neg h] at hx
      have := ih hx
      show assocGet y (p :: (l ++ [(x, v)])) = _
      unfold assocGet
      by_cases hy : y = p.1
      · rw [if_pos hy, if_neg (fun e => h (by rw [← e, hy])), if_pos hy]
      · rw [if_neg hy, this, if_neg hy]

theorem assocGet_set {κ : Type} [DecidableEq κ] (x y : κ) (v u : Value) (L : List (κ × Value)) (hx : assocGet x L = some u) : assocGet y (assocSet x v L) = if y = x then some v else assocGet y L := by
  induction L with
  | nil => cases hx
  | cons p l ih =>
    unfold assocGet at hx
    unfold assocSet
    by_cases h : x = p.1
    · rw [if_pos h]
      unfold assocGet
      by_cases hy : y = p.1
      · rw [if_pos hy, if_pos (by rw [hy, h])]
      · rw [if_neg hy, if_neg (fun e => hy (by rw [e, h])), if_neg hy]
    · rw [if_neg h] at hx ⊢
      have := ih hx
      unfold assocGet
      by_cases hy : y = p.1
      · rw [if_pos hy, if_neg (fun e => h (by rw [← e, hy])), if_pos hy]
      · rw [if_neg hy, this, if_neg hy]

theorem assocSet_length {κ : Type} [DecidableEq κ] (x : κ) (v : Value) (L : List (κ × Value)) : (assocSet x v L).length = L.length := by
  induction L with
  | nil => rfl
  | cons p l ih =>
    unfold assocSet
    split
    · rfl
    · simp [ih]

theorem ents_last {κ : Type} (enc : κ → Value) (L : List (κ × Value)) (x : κ) (z v : Value) : ents enc 0 (L ++ [(x, v)]) = (ents enc 0 (L ++ [(x, z)])).modify L.length (fun e => { e with val := v }) := by
  apply List.ext_getElem?
  intro i
  rw [List.getElem?_modify, ents_get, ents_get]
  by_cases h : L.length = i
  · subst h
    simp
  · by_cases hlt : i < L.length
    · rw [List.getElem?_append_left hlt, List.getElem?_append_left hlt]
      simp [h]
    · rw [List.getElem?_eq_none (by simp; omega), List.getElem?_eq_none (by simp; omega)]
      rfl

theorem SeenOk.skip {wt : List Int} {wi wp : List ByteArray} {k : Nat} {S : List ((Int × ByteArray × ByteArray) × Value)} (h : SeenOk wt wi wp k S) (hp : wp.getD k noBytes = noBytes) : SeenOk wt wi wp (k + 1) S := by
  intro x
  rw [h x, seenB_succ, hp]
  simp

theorem SeenOk.had {wt : List Int} {wi wp : List ByteArray} {k : Nat} {S : List ((Int × ByteArray × ByteArray) × Value)} (h : SeenOk wt wi wp k S) (hs : seenB wt wi wp k (keyAt wt wi wp k) = true) : SeenOk wt wi wp (k + 1) S := by
  intro x
  rw [h x, seenB_succ]
  by_cases hx : keyAt wt wi wp k = x
  · rw [← hx, hs]; simp
  · simp [hx]

theorem SeenOk.put {wt : List Int} {wi wp : List ByteArray} {k : Nat} {S : List ((Int × ByteArray × ByteArray) × Value)} (h : SeenOk wt wi wp k S) (hp : wp.getD k noBytes ≠ noBytes) (hs : seenB wt wi wp k (keyAt wt wi wp k) = false) :
    assocGet (keyAt wt wi wp k) S = none ∧ SeenOk wt wi wp (k + 1) (S ++ [(keyAt wt wi wp k, .bool true)]) := by
  have h0 : assocGet (keyAt wt wi wp k) S = none := by rw [h, hs]; simp
  refine ⟨h0, fun x => ?_⟩
  rw [assocGet_append _ _ _ _ h0, h x, seenB_succ, decide_eq_true hp]
  by_cases hx : x = keyAt wt wi wp k
  · subst hx; simp
  · have : ¬ keyAt wt wi wp k = x := fun e => hx e.symm
    simp [hx, this]

theorem ownL_skip {wt : List Int} {wi wp : List ByteArray} {k : Nat} (h : newAt wt wi wp k = false) (x : Int × ByteArray) : ownL wt wi wp (k + 1) x = ownL wt wi wp k x := by
  rw [ownL_succ, h]; simp

theorem ownL_put {wt : List Int} {wi wp : List ByteArray} {k : Nat} (h : newAt wt wi wp k = true) (x : Int × ByteArray) :
    ownL wt wi wp (k + 1) x = if x = (wt.getD k 0, wp.getD k noBytes) then ownL wt wi wp k (wt.getD k 0, wp.getD k noBytes) ++ [k] else ownL wt wi wp k x := by
  rw [ownL_succ, h]
  by_cases hx : x = (wt.getD k 0, wp.getD k noBytes)
  · subst hx; simp
  · have : ¬ (wt.getD k 0, wp.getD k noBytes) = x := fun e => hx e.symm
    rw [if_neg hx, decide_eq_false this]
    simp

/-- the items listed so far -/
def ListedOk (ri : List ByteArray) (rs : List Int) (M : List (ByteArray × Value)) : Prop := ∀ x, assocGet x M = if listed x rs ri then some (.bool true) else none

theorem baOk : BaOk := ba_eq

theorem Try.zero4 (w : World) : (zeroValue 4).run Try.prog w = .ok (.bool false) w := by kernel_rfl
theorem Try.zero22 (w : World) : (zeroValue 22).run Try.prog w = .ok (.slice none 0 0) w := by kernel_rfl

theorem entry_any {w : World} {b : Nat} {L : List ((Int × ByteArray) × Value)} (h : MapIs encTP w b L) (x : Int × ByteArray) :
    ∃ (j : Nat) (L1 : List ((Int × ByteArray) × Value)) (W3 : World), (Instr.mapEntry 96 (.map (some b)) (encTP x)).run Try.prog w = .ok (.tuple #[(assocGet x L).getD (.slice none 0 0), .int .i64 (j : Int)]) W3 ∧
      MapIs encTP W3 b L1 ∧ j < L1.length ∧ Only b w W3 ∧
      ∀ v', ∃ M, ents encTP 0 M = (ents encTP 0 L1).modify j (fun e => { e with val := v' }) ∧ M.length = L1.length ∧ ∀ y, assocGet y M = if y = x then some v' else assocGet y L := by
  cases hg : assocGet x L with
  | none =>
    refine ⟨L.length, L ++ [(x, .slice none 0 0)], _, run_entry_new key_TP Try.underlying96 h x hg (Try.zero22 w), h.to _, by simp, mapTo_only _ _ _ _, fun v' => ?_⟩
    exact ⟨L ++ [(x, v')], ents_last encTP L x _ v', by simp, fun y => assocGet_append x y v' L hg⟩
  | some v =>
    obtain ⟨j, h1, h2, h3⟩ := run_entry_found key_TP Try.underlying96 h x v hg
    refine ⟨j, L, w, h3, h, (List.getElem?_eq_some_iff.1 h1).1, Only.refl _ _, fun v' => ?_⟩
    exact ⟨assocSet x v' L, h2 v', assocSet_length x v' L, fun y => assocGet_set x y v' v L hg⟩

theorem hit_eq (x : ByteArray) (r : Int) (ri : List ByteArray) : hit x r ri = decide (ri.getD r.toNat noBytes = x) := by unfold hit; rw [ba_eq]

theorem listed_snoc (x : ByteArray) (rs : List Int) (r : Int) (ri : List ByteArray) : listed x (rs ++ [r]) ri = (listed x rs ri || hit x r ri) := by
  unfold listed; rw [List.any_append]; simp

/-- the next listed item goes into the map, whether it was there or not -/
theorem listed_put {w : World} {b : Nat} {ri : List ByteArray} {rs : List Int} {M : List (ByteArray × Value)} (h : MapIs encS w b M) (hok : ListedOk ri rs M) (r : Int) {s : ByteArray} (hs : ri.getD r.toNat noBytes = s) :
    ∃ (M' : List (ByteArray × Value)) (W : World), (Instr.mapUpdate 102 (.map (some b)) (.string s) (.bool true)).run Try.prog w = .ok () W ∧ MapIs encS W b M' ∧ ListedOk ri (rs ++ [r]) M' ∧ Only b w W := by
  cases hl : listed s rs ri with
  | true =>
    have hg : assocGet s M = some (.bool true) := by rw [hok s, hl]; rfl
    refine ⟨M, w, run_update_same key_S Try.underlying102 h s _ hg, h, fun x => ?_, Only.refl _ _⟩
    rw [hok x, listed_snoc, hit_eq, hs]
    by_cases hx : s = x
    · subst hx; rw [hl]; simp
    · simp [hx]
  | false =>
    have hg : assocGet s M = none := by rw [hok s, hl]; rfl
    refine ⟨M ++ [(s, .bool true)], _, run_update_new key_S Try.underlying102 h s _ hg, h.to _, fun x => ?_, mapTo_only _ _ _ _⟩
    rw [assocGet_append _ _ _ _ hg, hok x, listed_snoc, hit_eq, hs]
    by_cases hx : x = s
    · subst hx; simp
    · have : ¬ s = x := fun e => hx e.symm
      simp [hx, this]

theorem listed_look {w : World} {b : Nat} {ri : List ByteArray} {rs : List Int} {M : List (ByteArray × Value)} (h : MapIs encS w b M) (hok : ListedOk ri rs M) (s : ByteArray) :
    (Instr.lookup 102 (.map (some b)) (.string s) false).run Try.prog w = .ok (.bool (listed s rs ri)) w := by
  have := run_lookup_is key_S Try.underlying102 h s (Try.zero4 w)
  rw [hok s] at this
  refine (this.trans ?_)
  cases listed s rs ri <;> rfl

theorem make_hint (n : Int) (w : World) : (Instr.makeMap 102 (some (.int .i64 n))).run Try.prog w = .ok (.map (some w.heap.size)) (w.alloc (.map #[] 0)) := by
  simp [Instr.makeMap, run_underlying Try.underlying102, asInt, asIntOf, Result.andThen]
end Go.Proofs.Qxb6602044a
