/-
  copyRowsB1.
-/
import Derived.Test.Qxb6602558aF8
namespace Go.Proofs.Qxb6602558a
open Go.RowKit
set_option linter.unusedVariables false

theorem mk_row (n : Nat) (hn : n ≤ 1048576) (w : World) : (Instr.makeSlice 37 (.int .i64 (n : Int)) (.int .i64 (n : Int))).run Try.prog w =
    .ok (.slice (some ⟨w.heap.size, 0, none⟩) n n) (w.alloc (.cells (List.replicate n (.int .i64 0)).toArray 3)) := by
  obtain ⟨i0, hi, hz0, hz1, hz2⟩ := info_parts Try.nfo3
  have h := run_make (P := Try.prog) w 37 3 i0 _ Try.underlying37 hi hz0 .i64 .i64 (n : Int) (n : Int) (by omega) (Int.le_refl _) (by rw [hz2]; omega) (by omega)
  rw [h, hz1, Nat.mul_one, Int.toNat_natCast, madeCells_replicate _ _ rfl]

set_option maxRecDepth 100000 in
set_option maxHeartbeats 1000000 in
theorem copyRows_some (x : Addr) (len cap : Nat) (vs : List Value) (rows : List (List Int)) (w : World) (hlen : rows.length = len) (hsz : len ≤ 1048576) (hsz' : ∀ r ∈ rows, r.length ≤ 1048576)
    {lo : Nat} (hr : Reads lo w (some x) vs) (hn : NVals lo w vs rows) :
    Calls Try.prog 17 #[.slice (some x) len cap] w fun e w' => e = .returned (.slice (some ⟨w.heap.size, 0, none⟩) len len) ∧ (∃ vs', Row w' w.heap.size 37 vs' ∧ NVals (w.heap.size + 1) w' vs' rows) ∧ Below w.heap.size w w' := by
  have hmk := mk_rowsI len hsz
  have hnil := fun (w : World) (a : Option Addr) (n c : Nat) => Lib.run_eql_slice_nil (P := Try.prog) w 29 37 a n c 0 0 Try.underlying29
  have hneq := fun (w : World) (a : Option Addr) (n c : Nat) => run_neq_slice_nil_any (P := Try.prog) w 37 3 a n c 0 0 Try.underlying37
  have Hlen : Hid (rows.length = len) := hlen
  clear hlen
  go_enter Try.func17, Try.ntmps17
  go_wp2
  clear hmk hnil
  go_loopw [4] (fun i wr => ∃ k : Nat, k ≤ len ∧ i = .int .i64 k ∧ (∃ vs', Row wr w.heap.size 37 (vs' ++ List.replicate (len - k) (.slice none 0 0)) ∧ NVals (w.heap.size + 1) wr vs' (rows.take k)) ∧ w.heap.size + 1 ≤ wr.heap.size ∧ Below w.heap.size w wr) (fun i _ => len - (intOf i).toNat)
  case atStart =>
    refine ⟨0, Nat.zero_le _, rfl, ⟨[], Row.new _ _ _, NVals.nil _ _⟩, by simp, (Below.refl _ _).alloc (Nat.le_refl _) _⟩
  case round =>
    obtain ⟨k, hk, rfl, ⟨vs', hrow, hnv⟩, hs, hb⟩ := hrel
    by_cases hlt : k < len
    · have hkz : k < rows.length := by have := Hlen.out; omega
      have hv1 := hn.1
      obtain ⟨b, off, he, _, hbl, hcell⟩ := hr k (by omega)
      injection he with he
      subst he
      obtain ⟨ak, ck, e1, e2, e3⟩ := hn.2 k hkz
      rw [List.getElem?_eq_getElem (by omega)] at e1
      injection e1 with e1
      rw [e1] at hcell
      have h1 : wr.cell? ⟨b, off + k, none⟩ = some (.slice ak (rows[k]).length ck) := by rw [hb.cell (p := ⟨b, off + k, none⟩) hbl, hcell]
      have hmem := hsz' _ (List.getElem_mem hkz)
      have Htake : Hid (rows.take (k + 1) = rows.take k ++ [rows[k]]) := List.take_succ_eq_append_getElem hkz
      clear hcell hv1 e1
      generalize rows[k] = r at h1 e2 e3 Htake hmem
      have h1l : vs'.length = k := by rw [hnv.1]; simp; omega
      have Hk : Hid (vs'.length = k) := h1l
      clear h1l
      have hki : (k : Int) < (len : Int) := by omega
      cases ak with
      | none =>
        obtain ⟨hr0, rfl⟩ := e2 rfl
        obtain rfl : r = [] := List.length_eq_zero_iff.1 hr0
        replace h1 : wr.cell? ⟨b, off + k, none⟩ = some (.slice none 0 0) := h1
        have Hrow := hide hrow
        have Hnv := hide hnv
        have Hs := hide hs
        have Hb := hide hb
        clear hr0 hrow hnv hs hb e2 e3
        go_wp2
        go_roundw
        case rel =>
          refine ⟨k + 1, by omega, by go_num, ⟨vs' ++ [.slice none 0 0], ?_, ?_⟩, Hs.out, Hb.out⟩
          · have := Hrow.out
            rw [show len - k = (len - (k + 1)) + 1 from by omega, List.replicate_succ] at this
            simpa using this
          · rw [Htake.out]
            exact NVals.snoc (a := none) (cap := 0) (r := []) Hnv.out (fun _ => ⟨rfl, rfl⟩) (fun i hi => absurd hi (by simp))
        case measure => simp [intOf]; omega
      | some y =>
        have hmr := mk_row r.length hmem
        have Hrow := hide hrow
        have Hnv := hide hnv
        have Hs := hide hs
        have Hb := hide hb
        have He3 := hide e3
        clear hrow hnv hs hb e2 e3
        rename World => wb
        go_wp2
        clear hmr
        go_loopw [6] (fun i wr => ∃ j : Nat, j ≤ r.length ∧ i = .int .i64 j ∧ Row wr wb.heap.size 3 (partly (r.map (Value.int .i64)) j (.int .i64 0)) ∧ Below wb.heap.size wb wr ∧ wb.heap.size + 1 ≤ wr.heap.size) (fun i _ => r.length - (intOf i).toNat)
        case atStart =>
          refine ⟨0, Nat.zero_le _, rfl, ?_, (Below.refl _ _).alloc (Nat.le_refl _) _, by simp⟩
          rw [partly_zero, List.length_map]
          exact Row.new _ _ _
        case round =>
          obtain ⟨j, hj, rfl, hrw, hbw, hsw⟩ := hrel
          by_cases hjl : j < r.length
          · have hji : (j : Int) < (r.length : Int) := by omega
            obtain ⟨b2, o2, rfl_, _, hbl2, hc2⟩ := He3.out j (by simpa using hjl)
            injection rfl_ with hy
            subst hy
            have hbl3 : b2 < wb.heap.size := Nat.lt_of_lt_of_le hbl2 Hb.out.size
            have h1w : wr.cell? ⟨b, off + k, none⟩ = some (.slice (some ⟨b2, o2, none⟩) r.length ck) := by rw [hbw.cell (p := ⟨b, off + k, none⟩) (Nat.lt_of_lt_of_le hbl Hb.out.size)]; exact h1
            have h2w : wr.cell? ⟨b2, o2 + j, none⟩ = some (.int .i64 r[j]) := by
              rw [hbw.cell (p := ⟨b2, o2 + j, none⟩) hbl3, Hb.out.cell (p := ⟨b2, o2 + j, none⟩) hbl2, hc2]
              simp
            have hset := partly_set (r.map (Value.int .i64)) (.int .i64 0) j (by simpa using hjl)
            simp only [List.getElem_map] at hset
            have Hset := hide hset
            generalize r[j] = z at h2w Hset
            obtain ⟨v0, h3w⟩ : ∃ v0, wr.cell? ⟨wb.heap.size, j, none⟩ = some v0 := by
              rw [hrw.cell j]
              exact ⟨_, List.getElem?_eq_getElem (by rw [partly_len _ _ _ (by simp; omega)]; simpa using hjl)⟩
            have h4w := hrw.frozen j
            clear hset hc2
            go_wp2
            go_roundw
            case rel =>
              refine ⟨j + 1, by omega, by go_num, ?_, hbw.setCell (by simp) _, by simpa using hsw⟩
              rw [← Hset.out]
              exact hrw.set _ _
            case measure => simp [intOf]; omega
          · have hji : ¬ ((j : Int) < (r.length : Int)) := by omega
            rw [partly_all _ _ _ (by simp; omega)] at hrw
            have hrow1 := Hrow.out.below hbw Hrow.out.lt
            obtain ⟨v0, h2⟩ : ∃ v0, wr.cell? ⟨w.heap.size, k, none⟩ = some v0 := by
              rw [hrow1.cell k]
              exact ⟨_, List.getElem?_eq_getElem (by have := Hk.out; simp; omega)⟩
            have h3 := hrow1.frozen k
            have Hrw := hide hrw
            have Hbw := hide hbw
            have Hrow1 := hide hrow1
            clear hrw hbw hrow1 h1
            go_wp2
            go_roundw
            case rel =>
              have hs0 := Hs.out
              have hset := Hrow1.out.set k (.slice (some ⟨wb.heap.size, 0, none⟩) r.length r.length)
              have hbs : Below w.heap.size w (wr.setCell ⟨w.heap.size, k, none⟩ (.slice (some ⟨wb.heap.size, 0, none⟩) r.length r.length)) := (Hb.out.trans (Hbw.out.mono (by omega))).setCell (by simp) _
              refine ⟨k + 1, by omega, by go_num, ⟨vs' ++ [.slice (some ⟨wb.heap.size, 0, none⟩) r.length r.length], ?_, ?_⟩, by have := Hbw.out.size; simp; omega, hbs⟩
              · rw [List.set_append_right _ _ (by have := Hk.out; omega), Hk.out, Nat.sub_self, show len - k = (len - (k + 1)) + 1 from by omega, List.replicate_succ] at hset
                simpa using hset
              · rw [Htake.out]
                exact (((Hnv.out.below Hbw.out (Nat.le_refl _)).snoc (fun e => by cases e) (Hrw.out.reads.mono (by omega))).setCell _ _ (by simp))
            case measure => simp [intOf]; omega
    · go_wp2
      go_ret
      have hkz : rows.length ≤ k := by have := Hlen.out; omega
      rw [List.take_of_length_le hkz] at hnv
      rw [show len - k = 0 from by omega] at hrow
      exact ⟨rfl, ⟨vs', by simpa using hrow, hnv⟩, hb⟩

set_option maxRecDepth 100000 in
set_option maxHeartbeats 400000 in
theorem copyRows_nil (w : World) :
    Calls Try.prog 17 #[.slice none 0 0] w fun e w' => e = .returned (.slice none 0 0) ∧ w' = w := by
  have hnil := fun (w : World) (a : Option Addr) (n c : Nat) => Lib.run_eql_slice_nil (P := Try.prog) w 29 37 a n c 0 0 Try.underlying29
  go_enter Try.func17, Try.ntmps17
  go_wp2
  go_ret
  exact ⟨rfl, rfl⟩

theorem copyRows_any (a : Option Addr) (len cap : Nat) (vs : List Value) (rows : List (List Int)) (w : World) (hlen : rows.length = len) (hsz : len ≤ 1048576) (hsz' : ∀ r ∈ rows, r.length ≤ 1048576) (ha : a = none → len = 0 ∧ cap = 0)
    {lo : Nat} (hr : Reads lo w a vs) (hn : NVals lo w vs rows) :
    Calls Try.prog 17 #[.slice a len cap] w fun e w' => ∃ a' cap', e = .returned (.slice a' len cap') ∧ (a' = none → len = 0 ∧ cap' = 0) ∧ (∃ vs', Reads w.heap.size w' a' vs' ∧ NVals w.heap.size w' vs' rows) ∧ Below w.heap.size w w' := by
  cases a with
  | none =>
    obtain ⟨rfl, rfl⟩ := ha rfl
    refine (copyRows_nil w).mono ?_
    rintro e w' ⟨rfl, rfl⟩
    have : rows = [] := List.length_eq_zero_iff.1 hlen
    subst this
    exact ⟨none, 0, rfl, fun _ => ⟨rfl, rfl⟩, ⟨[], fun i hi => by simp at hi, NVals.nil _ _⟩, Below.refl _ _⟩
  | some x =>
    refine (copyRows_some x len cap vs rows w hlen hsz hsz' hr hn).mono ?_
    rintro e w' ⟨rfl, ⟨vs', hrow, hnv⟩, hb⟩
    exact ⟨_, len, rfl, by simp, ⟨vs', hrow.reads, hnv.mono (by omega)⟩, hb⟩
end Go.Proofs.Qxb6602558a
