/-
  MAPS THAT THE CALL ITSELF MAKES, SEEN AS A LIST OF PAIRS IN THE ORDER OF THEIR COMING.
-/
import Derived.Test.Qxb6602044aVoc
import Derived.MapKept
import Derived.WideKeyRuns
namespace Go.Proofs.Qxb6602044a
open Go.RowKit
set_option linter.unusedVariables false

set_option linter.unusedSimpArgs false
def ents {κ : Type} (enc : κ → Value) : Nat → List (κ × Value) → List MapEntry
  | _, [] => []
  | n, p :: l => { key := enc p.1, val := p.2, born := n } :: ents enc (n + 1) l

def assocFind {κ : Type} [DecidableEq κ] (x : κ) : List (κ × Value) → Nat → Option (Nat × Value)
  | [], _ => none
  | p :: l, i => if x = p.1 then some (i, p.2) else assocFind x l (i + 1)

def assocGet {κ : Type} [DecidableEq κ] (x : κ) : List (κ × Value) → Option Value
  | [] => none
  | p :: l => if x = p.1 then some p.2 else assocGet x l

/-- the value at key x set (the key is there) -/
def assocSet {κ : Type} [DecidableEq κ] (x : κ) (v : Value) : List (κ × Value) → List (κ × Value)
  | [] => []
  | p :: l => if x = p.1 then (p.1, v) :: l else p :: assocSet x v l

theorem assocFind_snd {κ : Type} [DecidableEq κ] (x : κ) (L : List (κ × Value)) : ∀ i, (assocFind x L i).map Prod.snd = assocGet x L := by
  induction L with
  | nil => intro i; rfl
  | cons p l ih =>
    intro i
    unfold assocFind assocGet
    split
    · rfl
    · exact ih (i + 1)

theorem assocFind_none {κ : Type} [DecidableEq κ] (x : κ) (L : List (κ × Value)) (i : Nat) (h : assocGet x L = none) : assocFind x L i = none := by
  have := assocFind_snd x L i
  rw [h] at this
  simpa using this

theorem assocFind_some {κ : Type} [DecidableEq κ] (enc : κ → Value) (x : κ) (L : List (κ × Value)) (v : Value) (h : assocGet x L = some v) : ∀ i, ∃ j, assocFind x L i = some (i + j, v) ∧ L[j]? = some (x, v) ∧ ∀ n v', (ents enc n (assocSet x v' L)) = (ents enc n L).modify j (fun e => { e with val := v' }) := by
  induction L with
  | nil => simp [assocGet] at h
  | cons p l ih =>
    intro i
    unfold assocGet at h
    by_cases hx : x = p.1
    · rw [if_pos hx] at h
      injection h with h
      refine ⟨0, ?_, ?_, ?_⟩
      · unfold assocFind; rw [if_pos hx, h]; rfl
      · simp [hx, ← h]
      · intro n v'
        unfold assocSet
        rw [if_pos hx]
        simp [ents]
    · rw [if_neg hx] at h
      obtain ⟨j, h1, h2, h3⟩ := ih h (i + 1)
      refine ⟨j + 1, ?_, ?_, ?_⟩
      · unfold assocFind; rw [if_neg hx, h1, show i + 1 + j = i + (j + 1) from by omega]
      · simpa using h2
      · intro n v'
        unfold assocSet
        rw [if_neg hx]
        simp [ents, h3]

theorem ents_length {κ : Type} (enc : κ → Value) (L : List (κ × Value)) : ∀ n, (ents enc n L).length = L.length := by
  induction L with
  | nil => intro n; rfl
  | cons p l ih => intro n; simp [ents, ih]

theorem ents_append {κ : Type} (enc : κ → Value) (L M : List (κ × Value)) : ∀ n, ents enc n (L ++ M) = ents enc n L ++ ents enc (n + L.length) M := by
  induction L with
  | nil => intro n; simp [ents]
  | cons p l ih => intro n; simp [ents, ih, Nat.add_comm, Nat.add_left_comm]

theorem ents_get {κ : Type} (enc : κ → Value) (L : List (κ × Value)) : ∀ (n j : Nat), (ents enc n L)[j]? = (L[j]?).map (fun p => ({ key := enc p.1, val := p.2, born := n + j } : MapEntry)) := by
  induction L with
  | nil => intro n j; simp [ents]
  | cons p l ih =>
    intro n j
    cases j with
    | zero => simp [ents]
    | succ j => simp [ents, ih, Nat.add_comm, Nat.add_left_comm]

/-- block b is the map with the pairs L -/
def MapIs {κ : Type} (enc : κ → Value) (w : World) (b : Nat) (L : List (κ × Value)) : Prop := w.heap[b]? = some (.map (ents enc 0 L).toArray L.length)

/-- the world behind a write to the map b -/
def mapTo {κ : Type} (enc : κ → Value) (w : World) (b : Nat) (L : List (κ × Value)) : World := { w with heap := w.heap.setIfInBounds b (.map (ents enc 0 L).toArray L.length) }

theorem MapIs.lt {κ : Type} {enc : κ → Value} {w : World} {b : Nat} {L : List (κ × Value)} (h : MapIs enc w b L) : b < w.heap.size := (Array.getElem?_eq_some_iff.1 h).1

theorem MapIs.to {κ : Type} {enc : κ → Value} {w : World} {b : Nat} {L : List (κ × Value)} (h : MapIs enc w b L) (M : List (κ × Value)) : MapIs enc (mapTo enc w b M) b M := by
  unfold MapIs mapTo
  simp [h.lt]

theorem mapTo_only {κ : Type} (enc : κ → Value) (w : World) (b : Nat) (L : List (κ × Value)) : Only b w (mapTo enc w b L) :=
  ⟨rfl, rfl, rfl, by simp [mapTo], fun k hk => by simp [mapTo, Ne.symm hk]⟩

theorem mapTo_self {κ : Type} {enc : κ → Value} {w : World} {b : Nat} {L : List (κ × Value)} (h : MapIs enc w b L) : mapTo enc w b L = w := by
  unfold mapTo
  have hlt := h.lt
  have : w.heap.setIfInBounds b (.map (ents enc 0 L).toArray L.length) = w.heap := by
    apply Array.ext
    · simp
    · intro i h1 h2
      rw [Array.getElem_setIfInBounds]
      split
      · rename_i hi
        subst hi
        unfold MapIs at h
        rw [Array.getElem?_eq_getElem h2] at h
        injection h with h
        exact h.symm
      · rfl
  rw [this]

theorem Only.map {κ : Type} {enc : κ → Value} {b c : Nat} {w w' : World} (h : Only b w w') {L : List (κ × Value)} (hm : MapIs enc w c L) (hne : c ≠ b) : MapIs enc w' c L := by
  unfold MapIs at hm ⊢
  rw [h.block c hne, hm]

theorem MapIs.alloc {κ : Type} {enc : κ → Value} {w : World} {b : Nat} {L : List (κ × Value)} (h : MapIs enc w b L) (o : Obj) : MapIs enc (w.alloc o) b L := by
  have := h.lt
  unfold MapIs at h ⊢
  rw [Below.heap_alloc _ _ _ this, h]

theorem MapIs.below {κ : Type} {enc : κ → Value} {w w' : World} {B b : Nat} {L : List (κ × Value)} (h : MapIs enc w b L) (hb : Below B w w') (hlt : b < B) : MapIs enc w' b L := by
  unfold MapIs at h ⊢
  rw [hb.block b hlt, h]

theorem MapIs.drew {κ : Type} {enc : κ → Value} {w : World} {b : Nat} {L : List (κ × Value)} (h : MapIs enc w b L) : MapIs enc w.drew b L := h

theorem MapIs.new {κ : Type} (enc : κ → Value) (w : World) : MapIs enc (w.alloc (.map #[] 0)) w.heap.size [] := heap_alloc_new w _

/-- what is asked of a key's type -/
structure KeyOk {κ : Type} [DecidableEq κ] (enc : κ → Value) (P : Program) (kt : TypeId) : Prop where
  find : ∀ x (L : List (κ × Value)) (n : Nat) (w : World), (Instr.findKey kt (enc x) (ents enc n L)).run P w = .ok (assocFind x L 0) w
  check : ∀ e x (w : World), (Instr.checkKey e 10000 kt (enc x)).run P w = .ok () w
  stays : ∀ x (w : World), (Instr.keyThatStays (enc x) (enc x)).run P w = .ok (enc x) w

theorem run_lookup_is {κ : Type} [DecidableEq κ] {enc : κ → Value} {P : Program} {kt et t : TypeId} (K : KeyOk enc P kt) (ht : P.underlying t = some (.map kt et)) {w : World} {b : Nat} {L : List (κ × Value)} (h : MapIs enc w b L) (x : κ) {z : Value} (hz : (zeroValue et).run P w = .ok z w) :
    (Instr.lookup t (.map (some b)) (enc x) false).run P w = .ok ((assocGet x L).getD z) w := by
  have hf := K.find x L 0 w
  cases hg : assocGet x L with
  | none =>
    rw [assocFind_none x L 0 hg] at hf
    simp [Instr.lookup, run_underlying ht, MapKept.run_getObj_map h, K.check, hf, hz, Result.andThen]
  | some v =>
    obtain ⟨j, h1, _⟩ := assocFind_some enc x L v hg 0
    rw [h1] at hf
    simp [Instr.lookup, run_underlying ht, MapKept.run_getObj_map h, K.check, hf, hz, Result.andThen]

theorem run_update_new {κ : Type} [DecidableEq κ] {enc : κ → Value} {P : Program} {kt et t : TypeId} (K : KeyOk enc P kt) (ht : P.underlying t = some (.map kt et)) {w : World} {b : Nat} {L : List (κ × Value)} (h : MapIs enc w b L) (x : κ) (v : Value) (hg : assocGet x L = none) :
    (Instr.mapUpdate t (.map (some b)) (enc x) v).run P w = .ok () (mapTo enc w b (L ++ [(x, v)])) := by
  have hf := K.find x L 0 w
  rw [assocFind_none x L 0 hg] at hf
  simp [Instr.mapUpdate, run_underlying ht, MapKept.run_getObj_map h, K.check, hf, Result.andThen, MapKept.run_setObj_map _ h, mapTo, ents_append, ents]

theorem modify_same {κ : Type} {enc : κ → Value} (L : List (κ × Value)) (x : κ) (v : Value) (j : Nat) (hj : L[j]? = some (x, v)) (f : MapEntry → MapEntry) (hf : ∀ n, f { key := enc x, val := v, born := n } = { key := enc x, val := v, born := n }) :
    (ents enc 0 L).modify j f = ents enc 0 L := by
  apply List.ext_getElem?
  intro i
  rw [List.getElem?_modify]
  split
  · rename_i hi
    subst hi
    rw [ents_get, hj]
    simp [hf]
  · simp

theorem run_update_same {κ : Type} [DecidableEq κ] {enc : κ → Value} {P : Program} {kt et t : TypeId} (K : KeyOk enc P kt) (ht : P.underlying t = some (.map kt et)) {w : World} {b : Nat} {L : List (κ × Value)} (h : MapIs enc w b L) (x : κ) (v : Value) (hg : assocGet x L = some v) :
    (Instr.mapUpdate t (.map (some b)) (enc x) v).run P w = .ok () w := by
  have hf := K.find x L 0 w
  obtain ⟨j, h1, h2, h3⟩ := assocFind_some enc x L v hg 0
  rw [h1] at hf
  rw [Nat.zero_add] at hf
  have hj : (ents enc 0 L)[j]? = some { key := enc x, val := v, born := 0 + j } := by rw [ents_get, h2]; rfl
  have hm := modify_same L x v j h2 (fun e => { e with key := enc x, val := v }) (fun n => rfl)
  have hself := mapTo_self h
  unfold mapTo at hself
  simp [Instr.mapUpdate, run_underlying ht, MapKept.run_getObj_map h, K.check, hf, Result.andThen, MapKept.run_setObj_map _ h, hj, K.stays, hm, hself]

theorem run_entry_found {κ : Type} [DecidableEq κ] {enc : κ → Value} {P : Program} {kt et t : TypeId} (K : KeyOk enc P kt) (ht : P.underlying t = some (.map kt et)) {w : World} {b : Nat} {L : List (κ × Value)} (h : MapIs enc w b L) (x : κ) (v : Value) (hg : assocGet x L = some v) :
    ∃ j : Nat, L[j]? = some (x, v) ∧ (∀ v', ents enc 0 (assocSet x v' L) = (ents enc 0 L).modify j (fun e => { e with val := v' })) ∧
      (Instr.mapEntry t (.map (some b)) (enc x)).run P w = .ok (.tuple #[v, .int .i64 (j : Int)]) w := by
  have hf := K.find x L 0 w
  obtain ⟨j, h1, h2, h3⟩ := assocFind_some enc x L v hg 0
  rw [h1] at hf
  rw [Nat.zero_add] at hf
  have hj : (ents enc 0 L)[j]? = some { key := enc x, val := v, born := 0 + j } := by rw [ents_get, h2]; rfl
  have hm := modify_same L x v j h2 (fun e => { e with key := enc x }) (fun n => rfl)
  have hself := mapTo_self h
  unfold mapTo at hself
  refine ⟨j, h2, h3 0, ?_⟩
  simp [Instr.mapEntry, run_underlying ht, MapKept.run_getObj_map h, K.check, hf, Result.andThen, MapKept.run_setObj_map _ h, hj, K.stays, hm, hself, goInt]

theorem run_entry_new {κ : Type} [DecidableEq κ] {enc : κ → Value} {P : Program} {kt et t : TypeId} (K : KeyOk enc P kt) (ht : P.underlying t = some (.map kt et)) {w : World} {b : Nat} {L : List (κ × Value)} (h : MapIs enc w b L) (x : κ) {z : Value} (hg : assocGet x L = none) (hz : (zeroValue et).run P w = .ok z w) :
    (Instr.mapEntry t (.map (some b)) (enc x)).run P w = .ok (.tuple #[z, .int .i64 (L.length : Int)]) (mapTo enc w b (L ++ [(x, z)])) := by
  have hf := K.find x L 0 w
  rw [assocFind_none x L 0 hg] at hf
  simp [Instr.mapEntry, run_underlying ht, MapKept.run_getObj_map h, K.check, hf, hz, Result.andThen, MapKept.run_setObj_map _ h, mapTo, ents_append, ents, goInt]

theorem findIdx_ents {κ : Type} {enc : κ → Value} (L : List (κ × Value)) : ∀ (n j : Nat), j < L.length → (ents enc n L).findIdx? (fun e => (e.born : Int) == ((n + j : Nat) : Int)) = some j := by
  induction L with
  | nil => intro n j h; simp at h
  | cons p l ih =>
    intro n j h
    cases j with
    | zero => simp [ents, List.findIdx?_cons]
    | succ j =>
      have := ih (n + 1) j (by simpa using h)
      rw [show n + 1 + j = n + (j + 1) from by omega] at this
      have hne : ((n : Int) == ((n + (j + 1) : Nat) : Int)) = false := by simp; omega
      simp only [ents, List.findIdx?_cons, hne, this]
      simp

theorem run_entryStore {κ : Type} {enc : κ → Value} {P : Program} {t : TypeId} {w : World} {b : Nat} {L : List (κ × Value)} (h : MapIs enc w b L) (j : Nat) (v : Value) (hj : j < L.length) (M : List (κ × Value)) (hM : ents enc 0 M = (ents enc 0 L).modify j (fun e => { e with val := v })) (hl : M.length = L.length) :
    (Instr.entryStore t (.map (some b)) (.int .i64 (j : Int)) v).run P w = .ok () (mapTo enc w b M) := by
  have hi := findIdx_ents (enc := enc) L 0 j hj
  rw [Nat.zero_add] at hi
  simp [Instr.entryStore, MapKept.run_getObj_map h, Result.andThen, asInt, asIntOf, hi, MapKept.run_setObj_map _ h, mapTo, hM, hl]
end Go.Proofs.Qxb6602044a
