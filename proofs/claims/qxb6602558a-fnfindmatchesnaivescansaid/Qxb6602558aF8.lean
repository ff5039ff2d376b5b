/-
  THE COPIES.
-/
import Derived.Test.Qxb6602558aF6
namespace Go.Proofs.Qxb6602558a
open Go.RowKit
set_option linter.unusedVariables false

theorem Try.nfo9 : (Try.prog.info? 9).map (fun i => (i.zero, i.size, i.bytes)) = some (some (.string ByteArray.empty), 1, 16) := by kernel_rfl

theorem mk_strs (n : Nat) (hn : n ≤ 1048576) (w : World) : (Instr.makeSlice 28 (.int .i64 (n : Int)) (.int .i64 (n : Int))).run Try.prog w =
    .ok (.slice (some ⟨w.heap.size, 0, none⟩) n n) (w.alloc (.cells (List.replicate n (.string ByteArray.empty)).toArray 9)) := by
  obtain ⟨i0, hi, hz0, hz1, hz2⟩ := info_parts Try.nfo9
  have h := run_make (P := Try.prog) w 28 9 i0 _ Try.underlying28 hi hz0 .i64 .i64 (n : Int) (n : Int) (by omega) (Int.le_refl _) (by rw [hz2]; omega) (by omega)
  rw [h, hz1, Nat.mul_one, Int.toNat_natCast, madeCells_replicate _ _ rfl]

set_option maxRecDepth 100000 in
set_option maxHeartbeats 400000 in
theorem cloneStrs_some (a : Option Addr) (len cap : Nat) (zs : List ByteArray) (w : World) (hlen : zs.length = len) (hsz : len ≤ 1048576) (ha : a ≠ none)
    {lo : Nat} (hr : Reads lo w a (zs.map Value.string)) :
    Calls Try.prog 16 #[.slice a len cap] w fun e w' => e = .returned (.slice (some ⟨w.heap.size, 0, none⟩) len len) ∧ Row w' w.heap.size 9 (zs.map Value.string) ∧ w'.heap.size = w.heap.size + 1 ∧ Below w.heap.size w w' := by
  have hmk := mk_strs len hsz
  have hnil := fun (w : World) (a : Option Addr) (n c : Nat) => Lib.run_eql_slice_nil (P := Try.prog) w 28 9 a n c 0 0 Try.underlying28
  obtain ⟨x, rfl⟩ : ∃ x, a = some x := Option.ne_none_iff_exists'.1 ha
  have Hlen : Hid (zs.length = len) := hlen
  clear hlen
  go_enter Try.func16, Try.ntmps16
  go_wp2
  go_loopw [4] (fun i wr => ∃ k : Nat, k ≤ len ∧ i = .int .i64 k ∧ Row wr w.heap.size 9 (partly (zs.map Value.string) k (.string ByteArray.empty)) ∧ wr.heap.size = w.heap.size + 1 ∧ Below w.heap.size w wr) (fun i _ => len - (intOf i).toNat)
  case atStart =>
    refine ⟨0, Nat.zero_le _, rfl, ?_, by simp, (Below.refl _ _).alloc (Nat.le_refl _) _⟩
    rw [partly_zero, List.length_map, Hlen.out]
    exact Row.new _ _ _
  case round =>
    obtain ⟨k, hk, rfl, hrow, hs, hb⟩ := hrel
    by_cases hlt : k < len
    · have hkz : k < zs.length := by have := Hlen.out; omega
      obtain ⟨b, off, he, _, hbl, hcell⟩ := hr k (by simpa using hkz)
      injection he with he
      subst he
      have hset := partly_set (zs.map Value.string) (.string ByteArray.empty) k (by simpa using hkz)
      simp only [List.getElem_map] at hcell hset
      have Hset : Hid _ := hset
      clear hset
      generalize zs[k] = z at hcell Hset
      have h1 : wr.cell? ⟨b, off + k, none⟩ = some (.string z) := by rw [hb.cell (p := ⟨b, off + k, none⟩) hbl, hcell]
      obtain ⟨v0, h2⟩ : ∃ v0, wr.cell? ⟨w.heap.size, k, none⟩ = some v0 := by
        rw [hrow.cell k]
        exact ⟨_, List.getElem?_eq_getElem (by rw [partly_len _ _ _ (by simp; omega)]; simpa using hkz)⟩
      have h3 := hrow.frozen k
      clear hcell
      go_wp2
      go_roundw
      case rel =>
        refine ⟨k + 1, by omega, by go_num, ?_, by simpa using hs, hb.setCell (by simp) _⟩
        rw [← Hset.out]
        exact hrow.set _ _
      case measure => simp [intOf]; omega
    · go_wp2
      go_ret
      have hkz : zs.length ≤ k := by have := Hlen.out; omega
      rw [partly_all _ _ _ (by simpa using hkz)] at hrow
      exact ⟨rfl, hrow, hs, hb⟩

set_option maxRecDepth 100000 in
set_option maxHeartbeats 400000 in
theorem cloneStrs_nil (w : World) :
    Calls Try.prog 16 #[.slice none 0 0] w fun e w' => e = .returned (.slice none 0 0) ∧ w' = w := by
  have hnil := fun (w : World) (a : Option Addr) (n c : Nat) => Lib.run_eql_slice_nil (P := Try.prog) w 28 9 a n c 0 0 Try.underlying28
  go_enter Try.func16, Try.ntmps16
  go_wp2
  go_ret
  exact ⟨rfl, rfl⟩

theorem cloneStrs_any (a : Option Addr) (len cap : Nat) (zs : List ByteArray) (w : World) (hlen : zs.length = len) (hsz : len ≤ 1048576) (ha : a = none → len = 0 ∧ cap = 0)
    {lo : Nat} (hr : Reads lo w a (zs.map Value.string)) :
    Calls Try.prog 16 #[.slice a len cap] w fun e w' => ∃ a' cap', e = .returned (.slice a' len cap') ∧ (a' = none → len = 0 ∧ cap' = 0) ∧ Reads w.heap.size w' a' (zs.map Value.string) ∧ Below w.heap.size w w' := by
  cases a with
  | none =>
    obtain ⟨rfl, rfl⟩ := ha rfl
    refine (cloneStrs_nil w).mono ?_
    rintro e w' ⟨rfl, rfl⟩
    exact ⟨none, 0, rfl, fun _ => ⟨rfl, rfl⟩, (fun i hi => by obtain ⟨_, _, h, _⟩ := hr i hi; cases h), Below.refl _ _⟩
  | some x =>
    refine (cloneStrs_some (some x) len cap zs w hlen hsz (by simp) hr).mono ?_
    rintro e w' ⟨rfl, hrow, hs, hb⟩
    exact ⟨_, len, rfl, by simp, hrow.reads, hb⟩

def NVals (lo : Nat) (w : World) (vs : List Value) (rows : List (List Int)) : Prop :=
  vs.length = rows.length ∧ ∀ i (h : i < rows.length), ∃ a cap, vs[i]? = some (.slice a (rows[i]).length cap) ∧ (a = none → (rows[i]).length = 0 ∧ cap = 0) ∧ Reads lo w a ((rows[i]).map (Value.int .i64))

theorem NVals.below {lo : Nat} {w w' : World} {vs : List Value} {rows : List (List Int)} {B : Nat} (h : NVals lo w vs rows) (hb : Below B w w') (hB : w.heap.size ≤ B) : NVals lo w' vs rows := by
  refine ⟨h.1, fun i hi => ?_⟩
  obtain ⟨a, cap, h1, h2, h3⟩ := h.2 i hi
  exact ⟨a, cap, h1, h2, h3.below hb hB⟩

theorem NVals.setCell {lo : Nat} {w : World} {vs : List Value} {rows : List (List Int)} (h : NVals lo w vs rows) (p : Addr) (v : Value) (hp : p.block < lo) : NVals lo (w.setCell p v) vs rows := by
  refine ⟨h.1, fun i hi => ?_⟩
  obtain ⟨a, cap, h1, h2, h3⟩ := h.2 i hi
  exact ⟨a, cap, h1, h2, h3.setCell p v hp⟩

theorem NVals.mono {lo lo' : Nat} {w : World} {vs : List Value} {rows : List (List Int)} (h : NVals lo w vs rows) (hl : lo' ≤ lo) : NVals lo' w vs rows := by
  refine ⟨h.1, fun i hi => ?_⟩
  obtain ⟨a, cap, h1, h2, h3⟩ := h.2 i hi
  exact ⟨a, cap, h1, h2, h3.mono hl⟩

theorem NVals.snoc {lo : Nat} {w : World} {vs : List Value} {rows : List (List Int)} {a : Option Addr} {cap : Nat} {r : List Int} (h : NVals lo w vs rows) (ha : a = none → r.length = 0 ∧ cap = 0) (hr : Reads lo w a (r.map (Value.int .i64))) :
    NVals lo w (vs ++ [.slice a r.length cap]) (rows ++ [r]) := by
  refine ⟨by simp [h.1], fun i hi => ?_⟩
  by_cases hlt : i < rows.length
  · obtain ⟨a', cap', h1, h2, h3⟩ := h.2 i hlt
    refine ⟨a', cap', ?_, ?_, ?_⟩
    · rw [List.getElem?_append_left (by rw [h.1]; exact hlt), List.getElem_append_left hlt]; exact h1
    · rw [List.getElem_append_left hlt]; exact h2
    · rw [List.getElem_append_left hlt]; exact h3
  · have : i = rows.length := by simp at hi; omega
    subst this
    refine ⟨a, cap, ?_, ?_, ?_⟩
    · rw [List.getElem?_append_right (by rw [h.1]; exact Nat.le_refl _), h.1]; simp
    · simpa using ha
    · simpa using hr

theorem NVals.nil (lo : Nat) (w : World) : NVals lo w [] [] := ⟨rfl, fun i hi => by simp at hi⟩

end Go.Proofs.Qxb6602558a
