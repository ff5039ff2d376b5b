/-
  FROM THE READING OF AN ARGUMENT TO WHAT THE LAW IS TOLD OF IT.
-/
import Derived.Test.Qxb6602558aF15
import Derived.ProofKit
import Derived.SliceStrings
import Derived.Deep.Matrix
import Derived.Deep.Slices
import Derived.OpenShut
namespace Go.Proofs.Qxb6602558a
open Go.RowKit Go.ChangeShapes Go.WideShapes Go.ChangeAt
set_option linter.unusedVariables false

theorem Try.cells3 : Try.prog.cellsOf 3 = 1 := by kernel_rfl
theorem Try.cells4 : Try.prog.cellsOf 4 = 1 := by kernel_rfl
theorem Try.cells9 : Try.prog.cellsOf 9 = 1 := by kernel_rfl
theorem Try.cells37 : Try.prog.cellsOf 37 = 1 := by kernel_rfl
theorem Try.cells51 : Try.prog.cellsOf 51 = 1 := by kernel_rfl
theorem Try.cells52 : Try.prog.cellsOf 52 = 256 := by kernel_rfl

theorem addr_of {W : World} {x : Addr} {v : Value} {i : Nat} (h : W.cell? (x.add i) = some v) (h0 : ∃ u, W.cell? (x.add 0) = some u) : ∃ b off, x = ⟨b, off, none⟩ ∧ b < W.heap.size ∧ W.cell? ⟨b, off + i, none⟩ = some v := by
  obtain ⟨b, off, spot⟩ := x
  obtain ⟨u, h0⟩ := h0
  have hs : spot = none := by simpa [Addr.add] using World.cell?_spot h0
  subst hs
  have hb : b < W.heap.size := by simpa [Addr.add] using World.block_lt_of_cell? W _ h0
  refine ⟨b, off, rfl, hb, ?_⟩
  have : (⟨b, off, none⟩ : Addr).add i = ⟨b, off + i, none⟩ := by unfold Addr.add; split <;> simp_all
  rw [← this]; exact h

theorem reads_of {W : World} {x : Addr} {n m : Nat} {vs : List Value} (hn : vs.length = n) (hc : ∀ i (h : i < vs.length), W.cell? (x.add i) = some vs[i]) : Reads 0 W (some x) vs := by
  intro i hi
  obtain ⟨b, off, rfl, h1, h2⟩ := addr_of (hc i hi) ⟨_, hc 0 (by omega)⟩
  exact ⟨b, off, rfl, Nat.zero_le _, h1, h2⟩

theorem view_strs {H : Type} {enc : TypeId × Value → H} {W : World} {a : Option Addr} {len cap : Nat} {d : DataW H} {p : List MemPlace}
    (h : DataW.Trod enc Try.prog W 0 (fun _ => true) true 28 (.slice a len cap) d p) : ∃ ss : List ByteArray, (a = none → len = 0 ∧ cap = 0) ∧ ss.length = len ∧ Reads 0 W a (ss.map Value.string) := by
  obtain ⟨fuel, hf⟩ := h
  rcases open_strings Try.underlying28 Try.underlying9 Try.cells9 hf with ⟨hcs, _⟩ | ⟨x, l, c, zs, hcs, _, hl, hm, hz, _, hcell, hwz⟩
  · simp [Value.cells] at hcs
    obtain ⟨rfl, rfl, rfl⟩ := hcs
    exact ⟨[], fun _ => ⟨rfl, rfl⟩, rfl, fun i hi => by simp at hi⟩
  · simp [Value.cells] at hcs
    obtain ⟨rfl, rfl, rfl⟩ := hcs
    simp only [if_true] at hz
    have hlz : (zs.take len).length = len := by simp; omega
    refine ⟨zs.take len, fun e => (by cases e), hlz, reads_of (n := len) (m := 0) (by simp; omega) (fun i hi => ?_)⟩
    have hi' : i < len := by simp at hi; omega
    rw [hcell i (by omega)]
    simp [List.getElem?_eq_getElem (show i < zs.length by omega)]

theorem view_rows {H : Type} {enc : TypeId × Value → H} {W : World} {a : Option Addr} {len cap : Nat} {d : DataW H} {p : List MemPlace}
    (h : DataW.Trod enc Try.prog W 0 (fun _ => true) true 29 (.slice a len cap) d p) : ∃ (vs : List Value) (rows : List (List Int)), (a = none → len = 0 ∧ cap = 0) ∧ rows.length = len ∧ Reads 0 W a vs ∧ NVals 0 W vs rows := by
  obtain ⟨fuel, hf⟩ := h
  rcases Go.Deep.open_int_rows Try.underlying29 Try.underlying37 Try.underlying3 Try.cells37 Try.cells3 hf with ⟨hcs, _⟩ | ⟨x, l, c, A, L, C, Z, hcs, _, hl, hm, _, hcell⟩
  · simp [Value.cells] at hcs
    obtain ⟨rfl, rfl, rfl⟩ := hcs
    exact ⟨[], [], fun _ => ⟨rfl, rfl⟩, rfl, fun i hi => by simp at hi, NVals.nil _ _⟩
  · simp [Value.cells] at hcs
    obtain ⟨rfl, rfl, rfl⟩ := hcs
    refine ⟨(List.range len).map (fun r => .slice (A r) (L r) (C r)), (List.range len).map (fun r => (Z r).take (L r)), fun e => (by cases e), by simp, reads_of (n := len) (m := 0) (by simp) (fun i hi => ?_), ⟨by simp, fun i hi => ?_⟩⟩
    · have hi' : i < len := by simpa using hi
      obtain ⟨h1, _⟩ := hcell i (by omega)
      rw [h1]
      simp
    · have hi' : i < len := by simpa using hi
      obtain ⟨h1, h2, h3, h4, h5, h6, h7⟩ := hcell i (by omega)
      have hll : ((Z i).take (L i)).length = L i := by simp; omega
      refine ⟨A i, C i, ?_, fun hn => ?_, fun j hj => ?_⟩
      · simp [hi']; omega
      · have := h6 hn
        simp; omega
      · simp only [List.getElem_map, List.getElem_range] at hj ⊢
        have hj' : j < L i := by simp at hj; omega
        cases hA : A i with
        | none => have := h6 hA; omega
        | some a' =>
          obtain ⟨_, hc⟩ := h7 a' hA
          obtain ⟨b, off, rfl, k1, k2⟩ := addr_of (hc j (by omega)) ⟨_, hc 0 (by omega)⟩
          refine ⟨b, off, rfl, Nat.zero_le _, k1, ?_⟩
          rw [k2]
          simp [List.getElem?_eq_getElem (show j < (Z i).length by omega)]

theorem set_of {H : Type} {enc : TypeId × Value → H} {W : World} {n : Nat} {v : Value} {x : DataW H × List MemPlace} (h : DataW.trod enc Try.prog W 0 (fun _ => true) true n 51 [v] = some x) : ∃ S, SetAt W v S := by
  rcases DataW.trod_pointer Try.underlying51 h with ⟨h1, _⟩ | ⟨a, cs, y, m, _, h1, _, hcells, hd⟩
  · simp at h1
    exact ⟨none, .inl ⟨h1, rfl⟩⟩
  · simp at h1
    obtain ⟨xs, m', _, _, _, hxl, hx⟩ := DataW.trod_array Try.underlying52 hd
    obtain ⟨_, hlen, hcell⟩ := World.cells?_some hcells
    rw [Try.cells52] at hlen hcell
    rw [Try.cells4] at hx
    have hb : ∀ i, i < 256 → ∃ b : Bool, cs[i]? = some (.bool b) := fun i hi => by
      have h2 := hx i hi
      rw [List.getElem?_eq_getElem (show i < xs.length by omega)] at h2
      obtain ⟨b, h3, _⟩ := DataW.trod_bool Try.underlying4 h2
      refine ⟨b, ?_⟩
      have h4 : ((cs.drop (i * 1)).take 1)[0]? = some (.bool b) := by rw [h3]; rfl
      simpa using h4
    obtain ⟨f, hf⟩ := Go.Deep.choose_lt hb
    have h0 : W.cell? (a.add 0) = some (.bool (f 0)) := (hcell 0 (by omega)).trans (hf 0 (by omega))
    obtain ⟨b, off, rfl, hbl, _⟩ := addr_of h0 ⟨_, h0⟩
    refine ⟨some f, .inr ⟨b, off, f, h1, rfl, hbl, fun c hc => ?_⟩⟩
    have he : (⟨b, off, none⟩ : Addr).add c = ⟨b, off + c, none⟩ := by unfold Addr.add; split <;> simp_all
    rw [← he, hcell c hc, hf c hc]

theorem view_sets {H : Type} {enc : TypeId × Value → H} {W : World} {a : Option Addr} {len cap : Nat} {d : DataW H} {p : List MemPlace}
    (h : DataW.Trod enc Try.prog W 0 (fun _ => true) true 30 (.slice a len cap) d p) : ∃ (vs : List Value) (S : Nat → Option (Nat → Bool)), (a = none → len = 0 ∧ cap = 0) ∧ vs.length = len ∧ Reads 0 W a vs ∧ ∀ i (h : i < vs.length), SetAt W vs[i] (S i) := by
  obtain ⟨fuel, hf⟩ := h
  rcases Go.Deep.open_slice1 Try.underlying30 Try.cells51 hf with ⟨hcs, _⟩ | ⟨x, l, c, m, n, V, D, Pl, hcs, _, hl, hm, hmm, _, hcell⟩
  · simp [Value.cells] at hcs
    obtain ⟨rfl, rfl, rfl⟩ := hcs
    exact ⟨[], fun _ => none, fun _ => ⟨rfl, rfl⟩, rfl, fun i hi => by simp at hi, fun i hi => by simp at hi⟩
  · simp [Value.cells] at hcs
    obtain ⟨rfl, rfl, rfl⟩ := hcs
    simp only [if_true] at hmm
    obtain ⟨S, hS⟩ := Go.Deep.choose_lt (fun i (hi : i < len) => set_of (hcell i (by omega)).2)
    refine ⟨Tab len V, S, fun e => (by cases e), Tab.length _ _, reads_of (n := len) (m := 0) (Tab.length _ _) (fun i hi => ?_), fun i hi => ?_⟩
    · rw [Tab.length] at hi
      rw [(hcell i (by omega)).1]
      simp [Tab]
    · rw [Tab.length] at hi
      have := hS i hi
      simpa [Tab] using this
end Go.Proofs.Qxb6602558a
