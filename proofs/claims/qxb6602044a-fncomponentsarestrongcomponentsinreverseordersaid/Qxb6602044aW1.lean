import Derived.Test.Qxb6602044aProg
import Derived.Test.Qxb6602044aVoc
namespace Go.Proofs.Qxb6602044a
open Go.RowKit

theorem Try.info3 : (Try.prog.info? 3).map (fun i => (i.zero, i.size, i.bytes)) = some (some (.int .i64 0), 1, 8) := by kernel_rfl

theorem mk_ints (n : Nat) (hn : n ≤ 1048576) (w : World) : (Instr.makeSlice 22 (.int .i64 (n : Int)) (.int .i64 (n : Int))).run Try.prog w =
    .ok (.slice (some ⟨w.heap.size, 0, none⟩) n n) (w.alloc (.cells (List.replicate n (.int .i64 0)).toArray 3)) := by
  obtain ⟨i0, hi, hz0, hz1, hz2⟩ := info_parts Try.info3
  have h := run_make (P := Try.prog) w 22 3 i0 _ Try.underlying22 hi hz0 .i64 .i64 (n : Int) (n : Int) (by omega) (Int.le_refl _) (by rw [hz2]; omega) (by omega)
  rw [h, hz1, Nat.mul_one, Int.toNat_natCast, madeCells_replicate _ _ rfl]

/-- the loop of a clone: what the k-th round has -/
def partly (l : List Value) (k : Nat) (z : Value) : List Value := l.take k ++ List.replicate (l.length - k) z
theorem partly_zero (l : List Value) (z : Value) : partly l 0 z = List.replicate l.length z := by simp [partly]
theorem partly_all (l : List Value) (z : Value) (k : Nat) (h : l.length ≤ k) : partly l k z = l := by
  simp [partly, List.take_of_length_le h, Nat.sub_eq_zero_of_le h]
theorem partly_len (l : List Value) (z : Value) (k : Nat) (h : k ≤ l.length) : (partly l k z).length = l.length := by simp [partly]; omega
theorem partly_set (l : List Value) (z : Value) (k : Nat) (h : k < l.length) : (partly l k z).set k l[k] = partly l (k + 1) z := by
  unfold partly
  have hl : (l.take k).length = k := by simp; omega
  rw [List.set_append_right _ _ (by omega), hl, Nat.sub_self, List.take_succ_eq_append_getElem h, List.append_assoc]
  congr 1
  rw [show l.length - k = (l.length - (k + 1)) + 1 from by omega, List.replicate_succ]
  rfl

set_option maxRecDepth 100000 in
set_option maxHeartbeats 400000 in
theorem cloneInts_some (a : Option Addr) (len cap : Nat) (zs : List Int) (w : World) (hlen : zs.length = len) (hsz : len ≤ 1048576) (ha : a ≠ none)
    {lo : Nat} (hr : Reads lo w a (zs.map (Value.int .i64))) :
    Calls Try.prog 10 #[.slice a len cap] w fun e w' => e = .returned (.slice (some ⟨w.heap.size, 0, none⟩) len len) ∧ Row w' w.heap.size 3 (zs.map (Value.int .i64)) ∧ w'.heap.size = w.heap.size + 1 ∧ Below w.heap.size w w' := by
  have hmk := mk_ints len hsz
  have hnil := fun (w : World) (a : Option Addr) (n c : Nat) => Lib.run_eql_slice_nil (P := Try.prog) w 22 3 a n c 0 0 Try.underlying22
  obtain ⟨x, rfl⟩ : ∃ x, a = some x := Option.ne_none_iff_exists'.1 ha
  have Hlen : Hid (zs.length = len) := hlen
  clear hlen
  go_enter Try.func10, Try.ntmps10
  go_wp2
  go_loopw [4] (fun i wr => ∃ k : Nat, k ≤ len ∧ i = .int .i64 k ∧ Row wr w.heap.size 3 (partly (zs.map (Value.int .i64)) k (.int .i64 0)) ∧ wr.heap.size = w.heap.size + 1 ∧ Below w.heap.size w wr) (fun i _ => len - (intOf i).toNat)
  case atStart =>
    refine ⟨0, Nat.zero_le _, rfl, ?_, by simp, (Below.refl _ _).alloc (Nat.le_refl _) _⟩
    rw [partly_zero, List.length_map, Hlen.out]
    exact Row.new _ _ _
  case round =>
    obtain ⟨k, hk, rfl, hrow, hs, hb⟩ := hrel
    by_cases hlt : k < len
    · have hkz : k < zs.length := by have := Hlen.out; omega
      obtain ⟨b, off, he, _, hbl, hcell⟩ := hr k (by simpa using hkz)
      injection he with he
      subst he
      have hset := partly_set (zs.map (Value.int .i64)) (.int .i64 0) k (by simpa using hkz)
      simp only [List.getElem_map] at hcell hset
      have Hset : Hid _ := hset
      clear hset
      generalize zs[k] = z at hcell Hset
      have h1 : wr.cell? ⟨b, off + k, none⟩ = some (.int .i64 z) := by rw [hb.cell (p := ⟨b, off + k, none⟩) hbl, hcell]
      obtain ⟨v0, h2⟩ : ∃ v0, wr.cell? ⟨w.heap.size, k, none⟩ = some v0 := by
        rw [hrow.cell k]
        exact ⟨_, List.getElem?_eq_getElem (by rw [partly_len _ _ _ (by simp; omega)]; simpa using hkz)⟩
      have h3 := hrow.frozen k
      clear hcell
      go_wp2
      go_roundw
      case rel =>
        refine ⟨k + 1, by omega, by go_num, ?_, by simpa using hs, hb.setCell (by simp) _⟩
        rw [← Hset.out]
        exact hrow.set _ _
      case measure => simp [intOf]; omega
    · go_wp2
      go_ret
      have hkz : zs.length ≤ k := by have := Hlen.out; omega
      rw [partly_all _ _ _ (by simpa using hkz)] at hrow
      exact ⟨rfl, hrow, hs, hb⟩

set_option maxRecDepth 100000 in
set_option maxHeartbeats 400000 in
theorem cloneInts_nil (w : World) :
    Calls Try.prog 10 #[.slice none 0 0] w fun e w' => e = .returned (.slice none 0 0) ∧ w' = w := by
  have hnil := fun (w : World) (a : Option Addr) (n c : Nat) => Lib.run_eql_slice_nil (P := Try.prog) w 22 3 a n c 0 0 Try.underlying22
  go_enter Try.func10, Try.ntmps10
  go_wp2
  go_ret
  exact ⟨rfl, rfl⟩

/-- a clone, whatever the slice -/
theorem cloneInts_any (a : Option Addr) (len cap : Nat) (zs : List Int) (w : World) (hlen : zs.length = len) (hsz : len ≤ 1048576) (ha : a = none → len = 0 ∧ cap = 0)
    {lo : Nat} (hr : Reads lo w a (zs.map (Value.int .i64))) :
    Calls Try.prog 10 #[.slice a len cap] w fun e w' => ∃ a' cap', e = .returned (.slice a' len cap') ∧ (a' = none → len = 0 ∧ cap' = 0) ∧ Reads w.heap.size w' a' (zs.map (Value.int .i64)) ∧ Below w.heap.size w w' := by
  cases a with
  | none =>
    obtain ⟨rfl, rfl⟩ := ha rfl
    refine (cloneInts_nil w).mono ?_
    rintro e w' ⟨rfl, rfl⟩
    exact ⟨none, 0, rfl, fun _ => ⟨rfl, rfl⟩, (fun i hi => by obtain ⟨_, _, h, _⟩ := hr i hi; cases h), Below.refl _ _⟩
  | some x =>
    refine (cloneInts_some (some x) len cap zs w hlen hsz (by simp) hr).mono ?_
    rintro e w' ⟨rfl, hrow, hs, hb⟩
    exact ⟨_, len, rfl, by simp, hrow.reads, hb⟩

theorem Try.info9 : (Try.prog.info? 9).map (fun i => (i.zero, i.size, i.bytes)) = some (some (.string ByteArray.empty), 1, 16) := by kernel_rfl
theorem Try.info22 : (Try.prog.info? 22).map (fun i => (i.zero, i.size, i.bytes)) = some (some (.slice none 0 0), 1, 24) := by kernel_rfl

theorem mk_strs (n : Nat) (hn : n ≤ 1048576) (w : World) : (Instr.makeSlice 39 (.int .i64 (n : Int)) (.int .i64 (n : Int))).run Try.prog w =
    .ok (.slice (some ⟨w.heap.size, 0, none⟩) n n) (w.alloc (.cells (List.replicate n (.string ByteArray.empty)).toArray 9)) := by
  obtain ⟨i0, hi, hz0, hz1, hz2⟩ := info_parts Try.info9
  have h := run_make (P := Try.prog) w 39 9 i0 _ Try.underlying39 hi hz0 .i64 .i64 (n : Int) (n : Int) (by omega) (Int.le_refl _) (by rw [hz2]; omega) (by omega)
  rw [h, hz1, Nat.mul_one, Int.toNat_natCast, madeCells_replicate _ _ rfl]

theorem mk_rows (n : Nat) (hn : n ≤ 1048576) (w : World) : (Instr.makeSlice 40 (.int .i64 (n : Int)) (.int .i64 (n : Int))).run Try.prog w =
    .ok (.slice (some ⟨w.heap.size, 0, none⟩) n n) (w.alloc (.cells (List.replicate n (.slice none 0 0)).toArray 22)) := by
  obtain ⟨i0, hi, hz0, hz1, hz2⟩ := info_parts Try.info22
  have h := run_make (P := Try.prog) w 40 22 i0 _ Try.underlying40 hi hz0 .i64 .i64 (n : Int) (n : Int) (by omega) (Int.le_refl _) (by rw [hz2]; omega) (by omega)
  rw [h, hz1, Nat.mul_one, Int.toNat_natCast, madeCells_replicate _ _ rfl]

set_option maxRecDepth 100000 in
set_option maxHeartbeats 400000 in
theorem cloneStrs_some (a : Option Addr) (len cap : Nat) (zs : List ByteArray) (w : World) (hlen : zs.length = len) (hsz : len ≤ 1048576) (ha : a ≠ none)
    {lo : Nat} (hr : Reads lo w a (zs.map Value.string)) :
    Calls Try.prog 24 #[.slice a len cap] w fun e w' => e = .returned (.slice (some ⟨w.heap.size, 0, none⟩) len len) ∧ Row w' w.heap.size 9 (zs.map Value.string) ∧ w'.heap.size = w.heap.size + 1 ∧ Below w.heap.size w w' := by
  have hmk := mk_strs len hsz
  have hnil := fun (w : World) (a : Option Addr) (n c : Nat) => Lib.run_eql_slice_nil (P := Try.prog) w 39 9 a n c 0 0 Try.underlying39
  obtain ⟨x, rfl⟩ : ∃ x, a = some x := Option.ne_none_iff_exists'.1 ha
  have Hlen : Hid (zs.length = len) := hlen
  clear hlen
  go_enter Try.func24, Try.ntmps24
  go_wp2
  go_loopw [4] (fun i wr => ∃ k : Nat, k ≤ len ∧ i = .int .i64 k ∧ Row wr w.heap.size 9 (partly (zs.map Value.string) k (.string ByteArray.empty)) ∧ wr.heap.size = w.heap.size + 1 ∧ Below w.heap.size w wr) (fun i _ => len - (intOf i).toNat)
  case atStart =>
    refine ⟨0, Nat.zero_le _, rfl, ?_, by simp, (Below.refl _ _).alloc (Nat.le_refl _) _⟩
    rw [partly_zero, List.length_map, Hlen.out]
    exact Row.new _ _ _
  case round =>
    obtain ⟨k, hk, rfl, hrow, hs, hb⟩ := hrel
    by_cases hlt : k < len
    · have hkz : k < zs.length := by have := Hlen.out; omega
      obtain ⟨b, off, he, _, hbl, hcell⟩ := hr k (by simpa using hkz)
      injection he with he
      subst he
      have hset := partly_set (zs.map Value.string) (.string ByteArray.empty) k (by simpa using hkz)
      simp only [List.getElem_map] at hcell hset
      have Hset : Hid _ := hset
      clear hset
      generalize zs[k] = z at hcell Hset
      have h1 : wr.cell? ⟨b, off + k, none⟩ = some (.string z) := by rw [hb.cell (p := ⟨b, off + k, none⟩) hbl, hcell]
      obtain ⟨v0, h2⟩ : ∃ v0, wr.cell? ⟨w.heap.size, k, none⟩ = some v0 := by
        rw [hrow.cell k]
        exact ⟨_, List.getElem?_eq_getElem (by rw [partly_len _ _ _ (by simp; omega)]; simpa using hkz)⟩
      have h3 := hrow.frozen k
      clear hcell
      go_wp2
      go_roundw
      case rel =>
        refine ⟨k + 1, by omega, by go_num, ?_, by simpa using hs, hb.setCell (by simp) _⟩
        rw [← Hset.out]
        exact hrow.set _ _
      case measure => simp [intOf]; omega
    · go_wp2
      go_ret
      have hkz : zs.length ≤ k := by have := Hlen.out; omega
      rw [partly_all _ _ _ (by simpa using hkz)] at hrow
      exact ⟨rfl, hrow, hs, hb⟩

set_option maxRecDepth 100000 in
set_option maxHeartbeats 400000 in
theorem cloneStrs_nil (w : World) :
    Calls Try.prog 24 #[.slice none 0 0] w fun e w' => e = .returned (.slice none 0 0) ∧ w' = w := by
  have hnil := fun (w : World) (a : Option Addr) (n c : Nat) => Lib.run_eql_slice_nil (P := Try.prog) w 39 9 a n c 0 0 Try.underlying39
  go_enter Try.func24, Try.ntmps24
  go_wp2
  go_ret
  exact ⟨rfl, rfl⟩

theorem cloneStrs_any (a : Option Addr) (len cap : Nat) (zs : List ByteArray) (w : World) (hlen : zs.length = len) (hsz : len ≤ 1048576) (ha : a = none → len = 0 ∧ cap = 0)
    {lo : Nat} (hr : Reads lo w a (zs.map Value.string)) :
    Calls Try.prog 24 #[.slice a len cap] w fun e w' => ∃ a' cap', e = .returned (.slice a' len cap') ∧ (a' = none → len = 0 ∧ cap' = 0) ∧ Reads w.heap.size w' a' (zs.map Value.string) ∧ Below w.heap.size w w' := by
  cases a with
  | none =>
    obtain ⟨rfl, rfl⟩ := ha rfl
    refine (cloneStrs_nil w).mono ?_
    rintro e w' ⟨rfl, rfl⟩
    exact ⟨none, 0, rfl, fun _ => ⟨rfl, rfl⟩, (fun i hi => by obtain ⟨_, _, h, _⟩ := hr i hi; cases h), Below.refl _ _⟩
  | some x =>
    refine (cloneStrs_some (some x) len cap zs w hlen hsz (by simp) hr).mono ?_
    rintro e w' ⟨rfl, hrow, hs, hb⟩
    exact ⟨_, len, rfl, by simp, hrow.reads, hb⟩
end Go.Proofs.Qxb6602044a
