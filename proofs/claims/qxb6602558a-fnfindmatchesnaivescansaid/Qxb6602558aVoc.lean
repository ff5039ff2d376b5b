/-
  THE VOCABULARY: rows of cells at known blocks; what a slice value reads as.
-/
import Derived.WalkKit
import Derived.WalkSpells
import Derived.WalkLawsBesides
import Derived.Deep.AppendLies
import Derived.OneCell
namespace Go.Proofs.Qxb6602558a
open Go.RowKit
set_option linter.unusedVariables false

theorem hide {p : Prop} (h : p) : Hid p := h

/-- block b is a row of cells l, of element type e, nothing frozen -/
def Row (w : World) (b : Nat) (e : TypeId) (l : List Value) : Prop := w.heap[b]? = some (.cells l.toArray e (0, 0))

theorem Row.lt {w : World} {b : Nat} {e : TypeId} {l : List Value} (h : Row w b e l) : b < w.heap.size := (Array.getElem?_eq_some_iff.1 h).1

theorem Row.cell {w : World} {b : Nat} {e : TypeId} {l : List Value} (h : Row w b e l) (i : Nat) : w.cell? ⟨b, i, none⟩ = l[i]? := by
  unfold Row at h
  simp [World.cell?, h]

theorem Row.frozen {w : World} {b : Nat} {e : TypeId} {l : List Value} (h : Row w b e l) (i : Nat) : w.frozen? ⟨b, i, none⟩ = false := by
  unfold Row at h
  simp [World.frozen?, h]

theorem Row.set {w : World} {b : Nat} {e : TypeId} {l : List Value} (h : Row w b e l) (i : Nat) (v : Value) : Row (w.setCell ⟨b, i, none⟩ v) b e (l.set i v) := by
  unfold Row at h ⊢
  simp only [World.setCell, Array.getElem?_modify, h]
  simp

theorem Row.other {w : World} {b : Nat} {e : TypeId} {l : List Value} (h : Row w b e l) (a : Addr) (v : Value) (hne : b ≠ a.block) : Row (w.setCell a v) b e l := by
  unfold Row at h ⊢
  rw [Below.heap_setCell _ _ _ _ hne, h]

theorem Row.alloc {w : World} {b : Nat} {e : TypeId} {l : List Value} (h : Row w b e l) (o : Obj) : Row (w.alloc o) b e l := by
  have := h.lt
  unfold Row at h ⊢
  rw [Below.heap_alloc _ _ _ this, h]

theorem Row.new (w : World) (e : TypeId) (l : List Value) : Row (w.alloc (.cells l.toArray e)) w.heap.size e l := heap_alloc_new w _

theorem Row.drew {w : World} {b : Nat} {e : TypeId} {l : List Value} (h : Row w b e l) : Row w.drew b e l := h

theorem Row.below {w w' : World} {B b : Nat} {e : TypeId} {l : List Value} (h : Row w b e l) (hb : Below B w w') (hlt : b < B) : Row w' b e l := by
  unfold Row at h ⊢
  rw [hb.block b hlt, h]

/-- what a slice's address leads to: the cells vs, in a block from lo on -/
def Reads (lo : Nat) (w : World) (a : Option Addr) (vs : List Value) : Prop :=
  ∀ i (h : i < vs.length), ∃ b off, a = some ⟨b, off, none⟩ ∧ lo ≤ b ∧ b < w.heap.size ∧ w.cell? ⟨b, off + i, none⟩ = some vs[i]

theorem Reads.mono {lo lo' : Nat} {w : World} {a : Option Addr} {vs : List Value} (h : Reads lo w a vs) (hl : lo' ≤ lo) : Reads lo' w a vs := by
  intro i hi
  obtain ⟨b, off, h1, h0, h2, h3⟩ := h i hi
  exact ⟨b, off, h1, by omega, h2, h3⟩

theorem Reads.below {lo : Nat} {w w' : World} {a : Option Addr} {vs : List Value} {B : Nat} (h : Reads lo w a vs) (hb : Below B w w') (hB : w.heap.size ≤ B) : Reads lo w' a vs := by
  intro i hi
  obtain ⟨b, off, h1, h0, h2, h3⟩ := h i hi
  exact ⟨b, off, h1, h0, Nat.lt_of_lt_of_le h2 hb.size, by rw [hb.cell (p := ⟨b, off + i, none⟩) (Nat.lt_of_lt_of_le h2 hB)]; exact h3⟩

theorem cell_setCell_other (w : World) (p q : Addr) (v : Value) (h : q.block ≠ p.block) : (w.setCell p v).cell? q = w.cell? q :=
  World.cell?_of_block (w := w) (Below.heap_setCell _ _ _ _ h)

theorem Reads.setCell {lo : Nat} {w : World} {a : Option Addr} {vs : List Value} (h : Reads lo w a vs) (p : Addr) (v : Value) (hp : p.block < lo) : Reads lo (w.setCell p v) a vs := by
  intro i hi
  obtain ⟨b, off, h1, h0, h2, h3⟩ := h i hi
  exact ⟨b, off, h1, h0, by simpa [World.setCell] using h2, by rw [cell_setCell_other _ _ _ _ (by show b ≠ _; omega)]; exact h3⟩

theorem Row.reads {w : World} {b : Nat} {e : TypeId} {l : List Value} (h : Row w b e l) : Reads b w (some ⟨b, 0, none⟩) l := by
  intro i hi
  exact ⟨b, 0, rfl, Nat.le_refl _, h.lt, by rw [Nat.zero_add, h.cell i, List.getElem?_eq_getElem hi]⟩

theorem madeCells_replicate (z : Value) (n : Nat) (hz : z.cells = #[z]) : madeCells z.cells n = (List.replicate n z).toArray := by
  rw [hz]
  apply Array.ext
  · simp [madeCells]
  · intro i h1 h2
    simp [madeCells, Nat.mod_one]


/-- a list by its cells -/
def Tab (n : Nat) (F : Nat → Value) : List Value := (List.range n).map F

theorem Tab.length (n : Nat) (F : Nat → Value) : (Tab n F).length = n := by simp [Tab]

theorem Tab.get (n : Nat) (F : Nat → Value) (i : Nat) (h : i < n) : (Tab n F)[i]? = some (F i) := by
  simp [Tab, List.getElem?_map, List.getElem?_range h]

theorem Tab.set (n : Nat) (F : Nat → Value) (i : Nat) (v : Value) : (Tab n F).set i v = Tab n (fun m => if m = i then v else F m) := by
  apply List.ext_getElem?
  intro j
  by_cases hj : j < n
  · rw [Tab.get n _ j hj, List.getElem?_set, Tab.length]
    by_cases h : i = j
    · subst h; simp [hj]
    · rw [if_neg h, Tab.get n F j hj, if_neg (Ne.symm h)]
  · rw [List.getElem?_eq_none (by simp [Tab.length]; omega), List.getElem?_eq_none (by simp [Tab.length]; omega)]

theorem Tab.congr {n : Nat} {F G : Nat → Value} (h : ∀ m, m < n → F m = G m) : Tab n F = Tab n G := by
  unfold Tab
  apply List.map_congr_left
  intro a ha
  exact h a (by simpa using ha)

theorem madeCells_tab (z : Array Value) (n : Nat) : madeCells z n = (Tab n (fun m => z[m % z.size]!)).toArray := by
  apply Array.ext
  · simp [madeCells, Tab]
  · intro i h1 h2
    simp [madeCells, Tab]

theorem Row.cellTab {w : World} {b : Nat} {e : TypeId} {n : Nat} {F : Nat → Value} (h : Row w b e (Tab n F)) {i : Nat} (hi : i < n) : w.cell? ⟨b, i, none⟩ = some (F i) := by
  rw [h.cell i, Tab.get n F i hi]

theorem Row.setTab {w : World} {b : Nat} {e : TypeId} {n : Nat} {F : Nat → Value} (h : Row w b e (Tab n F)) (i : Nat) (v : Value) : Row (w.setCell ⟨b, i, none⟩ v) b e (Tab n (fun m => if m = i then v else F m)) := by
  have := h.set i v
  rwa [Tab.set] at this

theorem Row.tabEq {w : World} {b : Nat} {e : TypeId} {n : Nat} {F G : Nat → Value} (h : Row w b e (Tab n F)) (hc : ∀ m, m < n → F m = G m) : Row w b e (Tab n G) := by
  rw [← Tab.congr hc]; exact h

/-- w' is w but for the cells of block b -/
structure Only (b : Nat) (w w' : World) : Prop where
  os : w'.os = w.os
  tape : w'.tape = w.tape
  output : w'.output = w.output
  size : w'.heap.size = w.heap.size
  block : ∀ k, k ≠ b → w'.heap[k]? = w.heap[k]?

theorem Only.refl (b : Nat) (w : World) : Only b w w := ⟨rfl, rfl, rfl, rfl, fun _ _ => rfl⟩
theorem Only.drew {b : Nat} {w w' : World} (h : Only b w w') : Only b w w'.drew := ⟨h.os, h.tape, h.output, h.size, h.block⟩
theorem Only.setCell {b : Nat} {w w' : World} (h : Only b w w') (i : Nat) (v : Value) : Only b w (w'.setCell ⟨b, i, none⟩ v) :=
  ⟨h.os, h.tape, h.output, by simp [World.setCell, h.size], fun k hk => by rw [Below.heap_setCell _ _ _ _ hk]; exact h.block k hk⟩
theorem Only.row {b c : Nat} {w w' : World} (h : Only b w w') {e : TypeId} {l : List Value} (hr : Row w c e l) (hne : c ≠ b) : Row w' c e l := by
  unfold Row at hr ⊢
  rw [h.block c hne, hr]
theorem Only.below {b B : Nat} {w0 w w' : World} (h : Only b w w') (hb : Below B w0 w) (hB : B ≤ b) : Below B w0 w' :=
  hb.trans ⟨h.os, h.tape, h.output, by rw [h.size]; exact Nat.le_refl _, fun k hk => h.block k (by omega)⟩

/-- the first k elements (of s cells each) are laid, the rest is as made -/
def upTo (s k : Nat) (F Z : Nat → Value) (m : Nat) : Value := if m < k * s then F m else Z m

theorem Row.put4 {w : World} {b : Nat} {e : TypeId} {n k : Nat} {F Z : Nat → Value} (h : Row w b e (Tab n (upTo 4 k F Z))) {v0 v1 v2 v3 : Value}
    (h0 : F (k * 4) = v0) (h1 : F (k * 4 + 1) = v1) (h2 : F (k * 4 + 2) = v2) (h3 : F (k * 4 + 3) = v3) :
    Row ((((w.setCell ⟨b, k * 4, none⟩ v0).setCell ⟨b, k * 4 + 1, none⟩ v1).setCell ⟨b, k * 4 + 2, none⟩ v2).setCell ⟨b, k * 4 + 3, none⟩ v3) b e (Tab n (upTo 4 (k + 1) F Z)) := by
  refine ((((h.setTab _ v0).setTab _ v1).setTab _ v2).setTab _ v3).tabEq ?_
  intro m _
  subst h0 h1 h2 h3
  unfold upTo
  by_cases e3 : m = k * 4 + 3
  · subst e3; rw [if_pos rfl, if_pos (by omega)]
  rw [if_neg e3]
  by_cases e2 : m = k * 4 + 2
  · subst e2; rw [if_pos rfl, if_pos (by omega)]
  rw [if_neg e2]
  by_cases e1 : m = k * 4 + 1
  · subst e1; rw [if_pos rfl, if_pos (by omega)]
  rw [if_neg e1]
  by_cases e0 : m = k * 4
  · subst e0; rw [if_pos rfl, if_pos (by omega)]
  rw [if_neg e0]
  by_cases hlt : m < k * 4
  · rw [if_pos hlt, if_pos (by omega)]
  · rw [if_neg hlt, if_neg (by omega)]

theorem Row.put6 {w : World} {b : Nat} {e : TypeId} {n k : Nat} {F Z : Nat → Value} (h : Row w b e (Tab n (upTo 6 k F Z))) {v0 v1 v2 v3 v4 v5 : Value}
    (h0 : F (k * 6) = v0) (h1 : F (k * 6 + 1) = v1) (h2 : F (k * 6 + 2) = v2) (h3 : F (k * 6 + 3) = v3) (h4 : F (k * 6 + 4) = v4) (h5 : F (k * 6 + 5) = v5) :
    Row ((((((w.setCell ⟨b, k * 6, none⟩ v0).setCell ⟨b, k * 6 + 1, none⟩ v1).setCell ⟨b, k * 6 + 2, none⟩ v2).setCell ⟨b, k * 6 + 3, none⟩ v3).setCell ⟨b, k * 6 + 4, none⟩ v4).setCell ⟨b, k * 6 + 5, none⟩ v5) b e (Tab n (upTo 6 (k + 1) F Z)) := by
  refine ((((((h.setTab _ v0).setTab _ v1).setTab _ v2).setTab _ v3).setTab _ v4).setTab _ v5).tabEq ?_
  intro m _
  subst h0 h1 h2 h3 h4 h5
  unfold upTo
  by_cases e5 : m = k * 6 + 5
  · subst e5; rw [if_pos rfl, if_pos (by omega)]
  rw [if_neg e5]
  by_cases e4 : m = k * 6 + 4
  · subst e4; rw [if_pos rfl, if_pos (by omega)]
  rw [if_neg e4]
  by_cases e3 : m = k * 6 + 3
  · subst e3; rw [if_pos rfl, if_pos (by omega)]
  rw [if_neg e3]
  by_cases e2 : m = k * 6 + 2
  · subst e2; rw [if_pos rfl, if_pos (by omega)]
  rw [if_neg e2]
  by_cases e1 : m = k * 6 + 1
  · subst e1; rw [if_pos rfl, if_pos (by omega)]
  rw [if_neg e1]
  by_cases e0 : m = k * 6
  · subst e0; rw [if_pos rfl, if_pos (by omega)]
  rw [if_neg e0]
  by_cases hlt : m < k * 6
  · rw [if_pos hlt, if_pos (by omega)]
  · rw [if_neg hlt, if_neg (by omega)]

def nv (n : Nat) : Value := .int .i64 (n : Int)

theorem grownBy_setCell (w : World) (a : Addr) (v : Value) : w.grownBy (w.setCell a v) (some a.block) :=
  ⟨rfl, rfl, rfl, by simp [World.setCell], fun k _ hk => Below.heap_setCell _ _ _ _ (fun e => hk (by rw [e]))⟩
theorem grownBy_drew (w : World) (row : Option Nat) : w.grownBy w.drew row := ⟨rfl, rfl, rfl, Nat.le_refl _, fun _ _ _ => rfl⟩
theorem Row.kept {w w' : World} {row : Option Nat} {b : Nat} {e : TypeId} {l : List Value} (h : Row w b e l) (hg : w.grownBy w' row) (hne : some b ≠ row) : Row w' b e l := by
  have := h.lt
  unfold Row at h ⊢
  rw [hg.block b this hne, h]

/-- two slices that own rows of their own -/
def Far (v u : Value) : Prop := ∀ g, v.ownBlock = some g → u.ownBlock ≠ some g
theorem Far.symm {v u : Value} (h : Far v u) : Far u v := fun g h1 h2 => h g h2 h1

theorem owns_low {w w' : World} {base : Nat} {e : TypeId} {size : Nat} {v : Value} {n : Nat} {xs : List Value} {k : Nat} (h : w.ownsRow base e size v n xs) (hg : w.grownBy w' (some k)) (hk : k < base) : w'.ownsRow base e size v n xs :=
  h.kept hg (.inr (fun e => by have := (h.lt k e).1; omega))

theorem nsome {a b : Nat} (h : a ≠ b) : some a ≠ some b := fun e => h (by injection e)

theorem far_of {wr wr' : World} {v u : Value} {g base e size m : Nat} {ys : List Value} (hf : Far v u) (ho : wr.ownsRow base e size u m ys) (hat : v.ownBlock = some g ∨ g = wr.heap.size) (k cap : Nat) : Far (.slice (some ⟨g, 0, none⟩) k cap) u := by
  intro g' h1 h2
  have hg : g = g' := by simpa [Value.ownBlock] using h1
  subst hg
  rcases hat with hat | hat
  · exact hf g hat h2
  · have := (ho.lt g h2).2; omega

theorem keepF {v u : Value} {wr : World} {base e size m : Nat} {ys : List Value} {w1 : World} (ho : wr.ownsRow base e size u m ys) (hg : wr.grownBy w1 v.ownBlock) (hf : Far v u) : w1.ownsRow base e size u m ys := by
  refine ho.kept hg ?_
  cases hu : u.ownBlock with
  | none => exact .inl rfl
  | some k =>
    right
    intro e
    exact hf k e.symm hu

theorem owns_form {w : World} {base : Nat} {e : TypeId} {size : Nat} {v : Value} {n : Nat} {xs : List Value} (h : w.ownsRow base e size v n xs) : ∃ a cap, v = .slice a n cap := by
  rcases h.2 with ⟨rfl, rfl⟩ | ⟨g, cap, cur, rfl, _⟩
  · exact ⟨_, _, rfl⟩
  · exact ⟨_, _, rfl⟩

theorem owns_open {w : World} {base : Nat} {e : TypeId} {size : Nat} {v : Value} {n : Nat} {xs : List Value} (h : w.ownsRow base e size v n xs) (hn : 0 < n) :
    ∃ g cap, v = .slice (some ⟨g, 0, none⟩) n cap ∧ base ≤ g ∧ g < w.heap.size ∧ n ≤ cap ∧ cap ≤ maxLen ∧ (∀ j x, xs[j]? = some x → w.cell? ⟨g, j, none⟩ = some x) ∧ ∀ j, w.frozen? ⟨g, j, none⟩ = false := by
  rcases h.2 with ⟨_, h0⟩ | ⟨g, cap, cur, rfl, hb, hg, hc, hm, hs, htake⟩
  · omega
  · refine ⟨g, cap, rfl, hb, (Array.getElem?_eq_some_iff.1 hg).1, hc, hm, ?_, ?_⟩
    · intro j x hx
      rw [← htake, List.getElem?_take] at hx
      split at hx
      · simp [World.cell?, hg]; simpa using hx
      · cases hx
    · intro j
      simp [World.frozen?, hg]

theorem owns_shrink {w : World} {base : Nat} {e : TypeId} {size : Nat} {g n cap : Nat} {xs : List Value} (h : w.ownsRow base e size (.slice (some ⟨g, 0, none⟩) n cap) n xs) {k : Nat} (hk : k ≤ n) :
    w.ownsRow base e size (.slice (some ⟨g, 0, none⟩) k cap) k (xs.take (k * size)) := by
  rcases h.2 with ⟨h0, _⟩ | ⟨g', cap', cur, he, hb, hg, hc, hm, hs, htake⟩
  · cases h0
  · injection he with h1 h2 h3
    injection h1 with h1
    injection h1 with h1
    subst h1 h3
    have hkn : k * size ≤ n * size := Nat.mul_le_mul_right _ hk
    refine ⟨?_, .inr ⟨g, cap, cur, rfl, hb, hg, by omega, hm, hs, ?_⟩⟩
    · rw [List.length_take, h.1]; omega
    · rw [← htake, List.take_take, Nat.min_eq_left hkn]

theorem owns_set {w : World} {base : Nat} {e : TypeId} {size : Nat} {g n cap : Nat} {xs : List Value} (h : w.ownsRow base e size (.slice (some ⟨g, 0, none⟩) n cap) n xs) (j : Nat) (u : Value) :
    (w.setCell ⟨g, j, none⟩ u).ownsRow base e size (.slice (some ⟨g, 0, none⟩) n cap) n (xs.set j u) := by
  rcases h.2 with ⟨h0, _⟩ | ⟨g', cap', cur, he, hb, hg, hc, hm, hs, htake⟩
  · cases h0
  · injection he with h1 h2 h3
    injection h1 with h1
    injection h1 with h1
    subst h1 h3
    have hrow : Row w g e cur.toList := by unfold Row; simpa using hg
    have h2 := hrow.set j u
    refine ⟨by rw [List.length_set]; exact h.1, .inr ⟨g, cap, (cur.toList.set j u).toArray, rfl, hb, h2, hc, hm, by simpa using hs, ?_⟩⟩
    rw [← htake]
    simp [List.take_set]

theorem Far.same {u : Value} {a : Option Addr} {n n' cap : Nat} (h : Far (.slice a n cap) u) : Far (.slice a n' cap) u := by
  intro g hg
  cases a with
  | none => simp [Value.ownBlock] at hg
  | some x => exact h g hg

/-- the loop of a clone: what the k-th round has -/
def partly (l : List Value) (k : Nat) (z : Value) : List Value := l.take k ++ List.replicate (l.length - k) z
theorem partly_zero (l : List Value) (z : Value) : partly l 0 z = List.replicate l.length z := by simp [partly]
theorem partly_all (l : List Value) (z : Value) (k : Nat) (h : l.length ≤ k) : partly l k z = l := by
  simp [partly, List.take_of_length_le h, Nat.sub_eq_zero_of_le h]
theorem partly_len (l : List Value) (z : Value) (k : Nat) (h : k ≤ l.length) : (partly l k z).length = l.length := by simp [partly]; omega
theorem partly_set (l : List Value) (z : Value) (k : Nat) (h : k < l.length) : (partly l k z).set k l[k] = partly l (k + 1) z := by
  unfold partly
  have hl : (l.take k).length = k := by simp; omega
  rw [List.set_append_right _ _ (by omega), hl, Nat.sub_self, List.take_succ_eq_append_getElem h, List.append_assoc]
  congr 1
  rw [show l.length - k = (l.length - (k + 1)) + 1 from by omega, List.replicate_succ]
  rfl

theorem below_drew {B : Nat} {w w' : World} (h : Below B w w') (n : Nat) : Below B w (w'.drewN n) := by
  induction n with
  | zero => exact h
  | succ n ih => exact ih.drew

theorem row_at {w : World} {e : TypeId} {l : List Value} {b : Nat} {cs : Array Value} (hb : w.heap.size = b) (hc : cs = l.toArray) : Row (w.alloc (.cells cs e)) b e l := by
  subst hb hc; exact Row.new w e l

theorem tab_replicate (n : Nat) (v : Value) : List.replicate n v = Tab n (fun _ => v) := by
  unfold Tab
  rw [List.map_const', List.length_range]

theorem drews (w : World) (a b : Nat) : ∃ k, (w.drewN a).drewN b = w.drewN k := by
  induction b with
  | zero => exact ⟨a, rfl⟩
  | succ b ih =>
    obtain ⟨k, hk⟩ := ih
    exact ⟨k + 1, by show ((w.drewN a).drewN b).drew = (w.drewN k).drew; rw [hk]⟩

theorem Row.drews {w : World} {b : Nat} {e : TypeId} {l : List Value} (h : Row w b e l) (n : Nat) : Row (w.drewN n) b e l := by
  induction n with
  | zero => exact h
  | succ n ih => exact ih.drew

def upd {α : Type} (f : Nat → α) (k : Nat) (v : α) : Nat → α := fun n => if n = k then v else f n
theorem upd_same {α : Type} (f : Nat → α) (k : Nat) (v : α) : upd f k v k = v := by simp [upd]
theorem upd_other {α : Type} (f : Nat → α) {k n : Nat} (v : α) (h : n ≠ k) : upd f k v n = f n := by simp [upd, h]
end Go.Proofs.Qxb6602558a
