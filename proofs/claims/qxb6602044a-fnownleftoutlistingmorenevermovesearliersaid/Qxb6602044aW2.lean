import Derived.Test.Qxb6602044aW1
namespace Go.Proofs.Qxb6602044a
open Go.RowKit

/-- a bool comes back, the world stands; true says P -/
def RetB (w : World) (P : Prop) (e : Ending) (w' : World) : Prop := ∃ r, e = .returned (.bool r) ∧ w' = w ∧ (r = true → P)

/-- the values vs are slices that read as the rows of integers -/
def NVals (lo : Nat) (w : World) (vs : List Value) (rows : List (List Int)) : Prop :=
  vs.length = rows.length ∧ ∀ i (h : i < rows.length), ∃ a cap, vs[i]? = some (.slice a (rows[i]).length cap) ∧ (a = none → (rows[i]).length = 0 ∧ cap = 0) ∧ Reads lo w a ((rows[i]).map (Value.int .i64))

theorem NVals.below {lo : Nat} {w w' : World} {vs : List Value} {rows : List (List Int)} {B : Nat} (h : NVals lo w vs rows) (hb : Below B w w') (hB : w.heap.size ≤ B) : NVals lo w' vs rows := by
  refine ⟨h.1, fun i hi => ?_⟩
  obtain ⟨a, cap, h1, h2, h3⟩ := h.2 i hi
  exact ⟨a, cap, h1, h2, h3.below hb hB⟩

theorem NVals.setCell {lo : Nat} {w : World} {vs : List Value} {rows : List (List Int)} (h : NVals lo w vs rows) (p : Addr) (v : Value) (hp : p.block < lo) : NVals lo (w.setCell p v) vs rows := by
  refine ⟨h.1, fun i hi => ?_⟩
  obtain ⟨a, cap, h1, h2, h3⟩ := h.2 i hi
  exact ⟨a, cap, h1, h2, h3.setCell p v hp⟩

theorem NVals.mono {lo lo' : Nat} {w : World} {vs : List Value} {rows : List (List Int)} (h : NVals lo w vs rows) (hl : lo' ≤ lo) : NVals lo' w vs rows := by
  refine ⟨h.1, fun i hi => ?_⟩
  obtain ⟨a, cap, h1, h2, h3⟩ := h.2 i hi
  exact ⟨a, cap, h1, h2, h3.mono hl⟩

theorem Below.here {B : Nat} {w w' : World} (h : Below B w w') (hB : w.heap.size ≤ B) : Below w.heap.size w w' := h.mono hB

theorem NVals.snoc {lo : Nat} {w : World} {vs : List Value} {rows : List (List Int)} {a : Option Addr} {cap : Nat} {r : List Int} (h : NVals lo w vs rows) (ha : a = none → r.length = 0 ∧ cap = 0) (hr : Reads lo w a (r.map (Value.int .i64))) :
    NVals lo w (vs ++ [.slice a r.length cap]) (rows ++ [r]) := by
  refine ⟨by simp [h.1], fun i hi => ?_⟩
  by_cases hlt : i < rows.length
  · obtain ⟨a', cap', h1, h2, h3⟩ := h.2 i hlt
    refine ⟨a', cap', ?_, ?_, ?_⟩
    · rw [List.getElem?_append_left (by rw [h.1]; exact hlt), List.getElem_append_left hlt]; exact h1
    · rw [List.getElem_append_left hlt]; exact h2
    · rw [List.getElem_append_left hlt]; exact h3
  · have : i = rows.length := by simp at hi; omega
    subst this
    refine ⟨a, cap, ?_, ?_, ?_⟩
    · rw [List.getElem?_append_right (by rw [h.1]; exact Nat.le_refl _), h.1]; simp
    · simpa using ha
    · simpa using hr

theorem NVals.nil (lo : Nat) (w : World) : NVals lo w [] [] := ⟨rfl, fun i hi => by simp at hi⟩

set_option maxRecDepth 100000 in
set_option maxHeartbeats 400000 in
theorem cloneNested_some (a : Option Addr) (len cap : Nat) (vs : List Value) (rows : List (List Int)) (w : World) (hlen : rows.length = len) (hsz : len ≤ 1048576) (hsz' : ∀ r ∈ rows, r.length ≤ 1048576) (ha : a ≠ none)
    {lo : Nat} (hr : Reads lo w a vs) (hn : NVals lo w vs rows) :
    Calls Try.prog 25 #[.slice a len cap] w fun e w' => e = .returned (.slice (some ⟨w.heap.size, 0, none⟩) len len) ∧ (∃ vs', Row w' w.heap.size 22 vs' ∧ NVals (w.heap.size + 1) w' vs' rows) ∧ Below w.heap.size w w' := by
  have hmk := mk_rows len hsz
  have hnil := fun (w : World) (a : Option Addr) (n c : Nat) => Lib.run_eql_slice_nil (P := Try.prog) w 40 22 a n c 0 0 Try.underlying40
  obtain ⟨x, rfl⟩ : ∃ x, a = some x := Option.ne_none_iff_exists'.1 ha
  have Hlen : Hid (rows.length = len) := hlen
  clear hlen
  go_enter Try.func25, Try.ntmps25
  go_wp2
  go_loopw [4] (fun i wr => ∃ k : Nat, k ≤ len ∧ i = .int .i64 k ∧ (∃ vs', Row wr w.heap.size 22 (vs' ++ List.replicate (len - k) (.slice none 0 0)) ∧ NVals (w.heap.size + 1) wr vs' (rows.take k)) ∧ w.heap.size + 1 ≤ wr.heap.size ∧ Below w.heap.size w wr) (fun i _ => len - (intOf i).toNat)
  case atStart =>
    refine ⟨0, Nat.zero_le _, rfl, ⟨[], Row.new _ _ _, NVals.nil _ _⟩, by simp, (Below.refl _ _).alloc (Nat.le_refl _) _⟩
  case round =>
    obtain ⟨k, hk, rfl, ⟨vs', hrow, hnv⟩, hs, hb⟩ := hrel
    by_cases hlt : k < len
    · have hkz : k < rows.length := by have := Hlen.out; omega
      have hv1 := hn.1
      obtain ⟨b, off, he, _, hbl, hcell⟩ := hr k (by omega)
      injection he with he
      subst he
      obtain ⟨ak, ck, e1, e2, e3⟩ := hn.2 k hkz
      rw [List.getElem?_eq_getElem (by omega)] at e1
      injection e1 with e1
      rw [e1] at hcell
      have h1 : wr.cell? ⟨b, off + k, none⟩ = some (.slice ak (rows[k]).length ck) := by rw [hb.cell (p := ⟨b, off + k, none⟩) hbl, hcell]
      have hmem := hsz' _ (List.getElem_mem hkz)
      have Htake : Hid (rows.take (k + 1) = rows.take k ++ [rows[k]]) := List.take_succ_eq_append_getElem hkz
      clear hcell hv1 e1
      generalize rows[k] = r at h1 e2 e3 Htake hmem
      have h1l : vs'.length = k := by rw [hnv.1]; simp; omega
      have Hk : Hid (vs'.length = k) := h1l
      clear h1l
      go_wp2_with fail
      refine (cloneInts_any ak r.length ck r _ rfl hmem e2 (e3.below hb (Nat.le_refl _))).mono ?_
      rintro e w1 ⟨a1, c1, rfl, hn1, hr1, hb1⟩
      have hrow1 := hrow.below hb1 hrow.lt
      obtain ⟨v0, h2⟩ : ∃ v0, w1.cell? ⟨w.heap.size, k, none⟩ = some v0 := by
        rw [hrow1.cell k]
        exact ⟨_, List.getElem?_eq_getElem (by have := Hk.out; simp; omega)⟩
      have h3 := hrow1.frozen k
      clear h1 e2 e3
      go_wp2
      go_roundw
      case rel =>
        have hset := hrow1.set k (.slice a1 r.length c1)
        have hbs : Below w.heap.size w (w1.setCell ⟨w.heap.size, k, none⟩ (.slice a1 r.length c1)) := (hb.trans (hb1.mono (by omega))).setCell (by simp) _
        refine ⟨k + 1, by omega, by go_num, ⟨vs' ++ [.slice a1 r.length c1], ?_, ?_⟩, by have := hb1.size; simp; omega, hbs⟩
        · rw [List.set_append_right _ _ (by have := Hk.out; omega), Hk.out, Nat.sub_self, show len - k = (len - (k + 1)) + 1 from by omega, List.replicate_succ] at hset
          simpa using hset
        · rw [Htake.out]
          exact (((hnv.below hb1 (Nat.le_refl _)).snoc hn1 (hr1.mono (by omega))).setCell _ _ (by simp))
      case measure => simp [intOf]; omega
    · go_wp2
      go_ret
      have hkz : rows.length ≤ k := by have := Hlen.out; omega
      rw [List.take_of_length_le hkz] at hnv
      rw [show len - k = 0 from by omega] at hrow
      exact ⟨rfl, ⟨vs', by simpa using hrow, hnv⟩, hb⟩

set_option maxRecDepth 100000 in
set_option maxHeartbeats 400000 in
theorem cloneNested_nil (w : World) :
    Calls Try.prog 25 #[.slice none 0 0] w fun e w' => e = .returned (.slice none 0 0) ∧ w' = w := by
  have hnil := fun (w : World) (a : Option Addr) (n c : Nat) => Lib.run_eql_slice_nil (P := Try.prog) w 40 22 a n c 0 0 Try.underlying40
  go_enter Try.func25, Try.ntmps25
  go_wp2
  go_ret
  exact ⟨rfl, rfl⟩

theorem cloneNested_any (a : Option Addr) (len cap : Nat) (vs : List Value) (rows : List (List Int)) (w : World) (hlen : rows.length = len) (hsz : len ≤ 1048576) (hsz' : ∀ r ∈ rows, r.length ≤ 1048576) (ha : a = none → len = 0 ∧ cap = 0)
    {lo : Nat} (hr : Reads lo w a vs) (hn : NVals lo w vs rows) :
    Calls Try.prog 25 #[.slice a len cap] w fun e w' => ∃ a' cap', e = .returned (.slice a' len cap') ∧ (a' = none → len = 0 ∧ cap' = 0) ∧ (∃ vs', Reads w.heap.size w' a' vs' ∧ NVals w.heap.size w' vs' rows) ∧ Below w.heap.size w w' := by
  cases a with
  | none =>
    obtain ⟨rfl, rfl⟩ := ha rfl
    refine (cloneNested_nil w).mono ?_
    rintro e w' ⟨rfl, rfl⟩
    have : rows = [] := List.length_eq_zero_iff.1 hlen
    subst this
    exact ⟨none, 0, rfl, fun _ => ⟨rfl, rfl⟩, ⟨[], fun i hi => by simp at hi, NVals.nil _ _⟩, Below.refl _ _⟩
  | some x =>
    refine (cloneNested_some (some x) len cap vs rows w hlen hsz hsz' (by simp) hr hn).mono ?_
    rintro e w' ⟨rfl, ⟨vs', hrow, hnv⟩, hb⟩
    exact ⟨_, len, rfl, by simp, ⟨vs', hrow.reads, hnv.mono (by omega)⟩, hb⟩
end Go.Proofs.Qxb6602044a
