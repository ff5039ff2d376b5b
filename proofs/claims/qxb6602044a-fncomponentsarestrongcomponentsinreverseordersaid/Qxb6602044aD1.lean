/-
  THE SMALL FUNCTIONS ON THE GRAPH LAWS' ROADS.
-/
import Derived.Test.Qxb6602044aW1
import Derived.Test.Qxb6602044aTj2
import Derived.Deep.QuietTactic
import Derived.BigQuiet
import Derived.BigFrame
import Derived.RegionTactic
import Derived.BigRegion
import Derived.Deep.DeepCutAuto
namespace Go.Proofs.Qxb6602044a
open Go.RowKit
set_option linter.unusedVariables false

theorem below_drew {B : Nat} {w w' : World} (h : Below B w w') (n : Nat) : Below B w (w'.drewN n) := by
  induction n with
  | zero => exact h
  | succ n ih => exact ih.drew

theorem Try.info5 : (Try.prog.info? 5).map (fun i => (i.zero, i.size, i.bytes)) = some (some (.int .u8 0), 1, 1) := by kernel_rfl

theorem mk_bytes (n : Nat) (hn : n ≤ 1048576) (w : World) : (Instr.makeSlice 23 (.int .i64 (n : Int)) (.int .i64 (n : Int))).run Try.prog w =
    .ok (.slice (some ⟨w.heap.size, 0, none⟩) n n) (w.alloc (.cells (List.replicate n (.int .u8 0)).toArray 5)) := by
  obtain ⟨i0, hi, hz0, hz1, hz2⟩ := info_parts Try.info5
  have h := run_make (P := Try.prog) w 23 5 i0 _ Try.underlying23 hi hz0 .i64 .i64 (n : Int) (n : Int) (by omega) (Int.le_refl _) (by rw [hz2]; omega) (by omega)
  rw [h, hz1, Nat.mul_one, Int.toNat_natCast, madeCells_replicate _ _ rfl]

set_option maxRecDepth 100000 in
set_option maxHeartbeats 400000 in
theorem cloneBytes_some (a : Option Addr) (len cap : Nat) (zs : List Int) (w : World) (hlen : zs.length = len) (hsz : len ≤ 1048576) (ha : a ≠ none)
    {lo : Nat} (hr : Reads lo w a (zs.map (Value.int .u8))) :
    Calls Try.prog 11 #[.slice a len cap] w fun e w' => e = .returned (.slice (some ⟨w.heap.size, 0, none⟩) len len) ∧ Row w' w.heap.size 5 (zs.map (Value.int .u8)) ∧ w'.heap.size = w.heap.size + 1 ∧ Below w.heap.size w w' := by
  have hmk := mk_bytes len hsz
  have hnil := fun (w : World) (a : Option Addr) (n c : Nat) => Lib.run_eql_slice_nil (P := Try.prog) w 23 5 a n c 0 0 Try.underlying23
  obtain ⟨x, rfl⟩ : ∃ x, a = some x := Option.ne_none_iff_exists'.1 ha
  have Hlen : Hid (zs.length = len) := hlen
  clear hlen
  go_enter Try.func11, Try.ntmps11
  go_wp2
  go_loopw [4] (fun i wr => ∃ k : Nat, k ≤ len ∧ i = .int .i64 k ∧ Row wr w.heap.size 5 (partly (zs.map (Value.int .u8)) k (.int .u8 0)) ∧ wr.heap.size = w.heap.size + 1 ∧ Below w.heap.size w wr) (fun i _ => len - (intOf i).toNat)
  case atStart =>
    refine ⟨0, Nat.zero_le _, rfl, ?_, by simp, (Below.refl _ _).alloc (Nat.le_refl _) _⟩
    rw [partly_zero, List.length_map, Hlen.out]
    exact Row.new _ _ _
  case round =>
    obtain ⟨k, hk, rfl, hrow, hs, hb⟩ := hrel
    by_cases hlt : k < len
    · have hkz : k < zs.length := by have := Hlen.out; omega
      obtain ⟨b, off, he, _, hbl, hcell⟩ := hr k (by simpa using hkz)
      injection he with he
      subst he
      have hset := partly_set (zs.map (Value.int .u8)) (.int .u8 0) k (by simpa using hkz)
      simp only [List.getElem_map] at hcell hset
      have Hset : Hid _ := hset
      clear hset
      generalize zs[k] = z at hcell Hset
      have h1 : wr.cell? ⟨b, off + k, none⟩ = some (.int .u8 z) := by rw [hb.cell (p := ⟨b, off + k, none⟩) hbl, hcell]
      obtain ⟨v0, h2⟩ : ∃ v0, wr.cell? ⟨w.heap.size, k, none⟩ = some v0 := by
        rw [hrow.cell k]
        exact ⟨_, List.getElem?_eq_getElem (by rw [partly_len _ _ _ (by simp; omega)]; simpa using hkz)⟩
      have h3 := hrow.frozen k
      clear hcell
      go_wp2
      go_roundw
      case rel =>
        refine ⟨k + 1, by omega, by go_num, ?_, by simpa using hs, hb.setCell (by simp) _⟩
        rw [← Hset.out]
        exact hrow.set _ _
      case measure => simp [intOf]; omega
    · go_wp2
      go_ret
      have hkz : zs.length ≤ k := by have := Hlen.out; omega
      rw [partly_all _ _ _ (by simpa using hkz)] at hrow
      exact ⟨rfl, hrow, hs, hb⟩

set_option maxRecDepth 100000 in
set_option maxHeartbeats 400000 in
theorem cloneBytes_nil (w : World) :
    Calls Try.prog 11 #[.slice none 0 0] w fun e w' => e = .returned (.slice none 0 0) ∧ w' = w := by
  have hnil := fun (w : World) (a : Option Addr) (n c : Nat) => Lib.run_eql_slice_nil (P := Try.prog) w 23 5 a n c 0 0 Try.underlying23
  go_enter Try.func11, Try.ntmps11
  go_wp2
  go_ret
  exact ⟨rfl, rfl⟩

/-- what a clone hands back -/
def Cloned (k : IntKind) (w : World) (zs : List Int) (e : Ending) (w' : World) : Prop :=
  ∃ a, e = .returned (.slice a zs.length zs.length) ∧ Reads 0 w' a (zs.map (Value.int k)) ∧ (zs = [] ∨ a = some ⟨w.heap.size, 0, none⟩) ∧ Below w.heap.size w w'

/-- what a law is told of a slice of numbers -/
structure VNums (k : IntKind) (w : World) (a : Option Addr) (l c : Nat) (zs : List Int) : Prop where
  nil : a = none → l = 0 ∧ c = 0
  len : zs.length = l
  reads : Reads 0 w a (zs.map (Value.int k))
  max : l ≤ 9223372036854775807

theorem VNums.below {k : IntKind} {w w' : World} {a : Option Addr} {l c : Nat} {zs : List Int} (h : VNums k w a l c zs) (hb : Below w.heap.size w w') : VNums k w' a l c zs :=
  ⟨h.nil, h.len, h.reads.below hb (Nat.le_refl _), h.max⟩

theorem cloneI_any {w : World} {a : Option Addr} {l c : Nat} {zs : List Int} (h : VNums .i64 w a l c zs) (hl : l ≤ 1048576) : Calls Try.prog 10 #[.slice a l c] w (Cloned .i64 w zs) := by
  by_cases ha : a = none
  · obtain ⟨rfl, rfl⟩ := h.nil ha
    subst ha
    obtain rfl : zs = [] := List.length_eq_zero_iff.1 h.len
    refine Calls.mono (cloneInts_nil w) ?_
    rintro e w' ⟨rfl, rfl⟩
    exact ⟨none, rfl, h.reads, .inl rfl, Below.refl _ _⟩
  · refine Calls.mono (cloneInts_some a l c zs w h.len hl ha h.reads) ?_
    rintro e w' ⟨rfl, h1, h2, h3⟩
    refine ⟨_, ?_, h1.reads.mono (Nat.zero_le _), .inr rfl, h3⟩
    rw [h.len]

theorem cloneB_any {w : World} {a : Option Addr} {l c : Nat} {zs : List Int} (h : VNums .u8 w a l c zs) (hl : l ≤ 1048576) : Calls Try.prog 11 #[.slice a l c] w (Cloned .u8 w zs) := by
  by_cases ha : a = none
  · obtain ⟨rfl, rfl⟩ := h.nil ha
    subst ha
    obtain rfl : zs = [] := List.length_eq_zero_iff.1 h.len
    refine Calls.mono (cloneBytes_nil w) ?_
    rintro e w' ⟨rfl, rfl⟩
    exact ⟨none, rfl, h.reads, .inl rfl, Below.refl _ _⟩
  · refine Calls.mono (cloneBytes_some a l c zs w h.len hl ha h.reads) ?_
    rintro e w' ⟨rfl, h1, h2, h3⟩
    refine ⟨_, ?_, h1.reads.mono (Nat.zero_le _), .inr rfl, h3⟩
    rw [h.len]

/-- a test that writes nothing: true, or false and P -/
def Test (w : World) (P : Prop) (e : Ending) (w' : World) : Prop := w' = w ∧ (e = .returned (.bool true) ∨ e = .returned (.bool false) ∧ P)

def Small3 (l0 l1 l2 : Nat) : Prop := l0 ≤ 131072 ∧ l1 ≤ 131072 ∧ l2 ≤ 131072

set_option maxRecDepth 100000 in
set_option maxHeartbeats 1000000 in
theorem tooBig_any (w : World) (a0 a1 a2 : Option Addr) (l0 l1 l2 c0 c1 c2 : Nat) (h0 : l0 ≤ 1048576) (h1 : l1 ≤ 1048576) (h2 : l2 ≤ 1048576) :
    Calls Try.prog 9 #[.slice a0 l0 c0, .slice a1 l1 c1, .slice a2 l2 c2, .slice none 0 0] w (Test w (Small3 l0 l1 l2)) := by
  by_cases k0 : l0 ≤ 131072
  · by_cases k1 : l1 ≤ 131072
    · by_cases k2 : l2 ≤ 131072
      · have HT := hide (And.intro k0 (And.intro k1 k2))
        have g0 : ¬ ((131072 : Int) < (l0 : Int)) := by omega
        have g1 : ¬ ((131072 : Int) < (l1 : Int)) := by omega
        have g2 : ¬ ((131072 : Int) < (l2 : Int)) := by omega
        by_cases k3 : (1048576 : Int) < 8 * (l0 : Int) + 8 * (l1 : Int) + (l2 : Int)
        · go_enter Try.func9, Try.ntmps9
          go_wp2
          go_ret
          exact ⟨rfl, .inl (by simp)⟩
        · go_enter Try.func9, Try.ntmps9
          go_wp2
          go_ret
          exact ⟨rfl, .inr ⟨by simp, HT.out⟩⟩
      · have g0 : ¬ ((131072 : Int) < (l0 : Int)) := by omega
        have g1 : ¬ ((131072 : Int) < (l1 : Int)) := by omega
        have g2 : (131072 : Int) < (l2 : Int) := by omega
        go_enter Try.func9, Try.ntmps9
        go_wp2
        go_ret
        exact ⟨rfl, .inl rfl⟩
    · have g0 : ¬ ((131072 : Int) < (l0 : Int)) := by omega
      have g1 : (131072 : Int) < (l1 : Int) := by omega
      go_enter Try.func9, Try.ntmps9
      go_wp2
      go_ret
      exact ⟨rfl, .inl rfl⟩
  · have g0 : (131072 : Int) < (l0 : Int) := by omega
    go_enter Try.func9, Try.ntmps9
    go_wp2
    go_ret
    exact ⟨rfl, .inl rfl⟩

/-- what a graph's shape asks -/
structure ZValid (z0 z1 : List Int) (n2 : Nat) : Prop where
  pos : 1 ≤ z0.length
  kind : n2 = z1.length
  first : z0.getD 0 0 = 0
  last : z0.getD (z0.length - 1) 0 = z1.length
  mono : ∀ n, n + 1 < z0.length → z0.getD n 0 ≤ z0.getD (n + 1) 0
  ends : ∀ i, i < z1.length → 0 ≤ z1.getD i 0 ∧ z1.getD i 0 + 1 < z0.length

def ValOut (w : World) (z0 z1 : List Int) (n2 : Nat) (e : Ending) (w' : World) : Prop :=
  Below w.heap.size w w' ∧ (e = .returned (.bool false) ∨ e = .returned (.bool true) ∧ ZValid z0 z1 n2)

theorem Reads.at {lo : Nat} {w : World} {a : Option Addr} {k : IntKind} {zs : List Int} (h : Reads lo w a (zs.map (Value.int k))) {i : Nat} (hi : i < zs.length) :
    ∃ b off, a = some ⟨b, off, none⟩ ∧ b < w.heap.size ∧ w.cell? ⟨b, off + i, none⟩ = some (.int k (zs.getD i 0)) := by
  obtain ⟨b, off, h1, _, h2, h3⟩ := h i (by simpa using hi)
  refine ⟨b, off, h1, h2, ?_⟩
  rw [h3, List.getD_eq_getElem?_getD, List.getElem?_eq_getElem hi, List.getElem_map]
  rfl

set_option maxRecDepth 100000 in
set_option maxHeartbeats 1000000 in
theorem valid_any (w : World) (a0 a1 a2 : Option Addr) (z0 z1 : List Int) (n2 : Nat) (h0 : Reads 0 w a0 (z0.map (Value.int .i64))) (h1 : Reads 0 w a1 (z1.map (Value.int .i64)))
    (s0 : z0.length ≤ 131072) (s1 : z1.length ≤ 131072) (s2 : n2 ≤ 131072) :
    Calls Try.prog 12 #[.slice a0 z0.length z0.length, .slice a1 z1.length z1.length, .slice a2 n2 n2] w (ValOut w z0 z1 n2) := by
  by_cases k0 : z0.length < 1
  · have g0 : (z0.length : Int) < 1 := by omega
    clear h0 h1
    go_enter Try.func12, Try.ntmps12
    go_wp2
    go_ret
    exact ⟨Below.refl _ _, .inl rfl⟩
  have g0 : ¬ ((z0.length : Int) < 1) := by omega
  by_cases k1 : n2 = z1.length
  case neg =>
    have g1 : ((n2 : Int) != (z1.length : Int)) = true := bne_iff_ne.2 (by omega)
    clear h0 h1
    go_enter Try.func12, Try.ntmps12
    go_wp2
    go_ret
    exact ⟨Below.refl _ _, .inl rfl⟩
  have g1 : ((z1.length : Int) != (z1.length : Int)) = false := by simp
  subst k1
  obtain ⟨N, hN⟩ : ∃ N, z0.length = N + 1 := ⟨z0.length - 1, by omega⟩
  have hat : ∀ n, n ≤ N → ∃ b off, a0 = some ⟨b, off, none⟩ ∧ b < w.heap.size ∧ w.cell? ⟨b, off + n, none⟩ = some (.int .i64 (z0.getD n 0)) := fun n hn => h0.at (by omega)
  obtain ⟨b, off, rfl, hbl, _⟩ := hat 0 (Nat.zero_le _)
  have hat0 : ∀ n, n ≤ N → w.cell? ⟨b, off + n, none⟩ = some (.int .i64 (z0.getD n 0)) := fun n hn => by
    obtain ⟨b', off', he, _, hc⟩ := hat n hn
    injection he with he
    injection he with e1 e2
    subst e1 e2
    exact hc
  have HN := hide hN
  have Hat := hide hat0
  have H1 := hide h1
  have Hfin : Hid (ValOut w z0 z1 z1.length = ValOut w z0 z1 z1.length) := hide rfl
  rw [hN] at g0 s0 ⊢
  clear hat0 hat hN h0 h1
  obtain ⟨f0, Hf0⟩ : ∃ x, Hid (z0.getD 0 0 = x) := ⟨_, hide rfl⟩
  obtain ⟨fN, HfN⟩ : ∃ x, Hid (z0.getD N 0 = x) := ⟨_, hide rfl⟩
  have c0 : w.cell? ⟨b, off, none⟩ = some (.int .i64 f0) := by rw [← Hf0.out]; exact Hat.out 0 (Nat.zero_le _)
  have cN : w.cell? ⟨b, off + N, none⟩ = some (.int .i64 fN) := by rw [← HfN.out]; exact Hat.out N (Nat.le_refl _)
  have hNi : (N : Int) < (N : Int) + 1 := by omega
  by_cases k2 : f0 = 0
  case neg =>
    have g2 : (f0 != 0) = true := bne_iff_ne.2 k2
    go_enter Try.func12, Try.ntmps12
    go_wp2
    go_ret
    exact ⟨Below.refl _ _, .inl rfl⟩
  have g2 : ((0 : Int) != 0) = false := rfl
  subst k2
  by_cases k3 : fN = (z1.length : Int)
  case neg =>
    have g3 : (fN != (z1.length : Int)) = true := bne_iff_ne.2 k3
    go_enter Try.func12, Try.ntmps12
    go_wp2
    go_ret
    exact ⟨Below.refl _ _, .inl rfl⟩
  subst k3
  go_enter Try.func12, Try.ntmps12
  go_wp2
  clear c0 cN
  go_loopw [8] (fun i wr => ∃ k : Nat, k ≤ N ∧ i = .int .i64 k ∧ Below w.heap.size w wr ∧ ∀ n, n < k → z0.getD n 0 ≤ z0.getD (n + 1) 0) (fun i _ => N - (intOf i).toNat)
  case atStart => exact ⟨0, Nat.zero_le _, rfl, Below.refl _ _, fun n hn => absurd hn (Nat.not_lt_zero _)⟩
  case round =>
    obtain ⟨k, hk, rfl, hb, hmon⟩ := hrel
    have Hb := hide hb
    have Hmon := hide hmon
    clear hmon
    by_cases hlt : k < N
    · have hlti : (k : Int) < (N : Int) := by omega
      obtain ⟨x, Hx⟩ : ∃ x, Hid (z0.getD k 0 = x) := ⟨_, hide rfl⟩
      obtain ⟨y, Hy⟩ : ∃ x, Hid (z0.getD (k + 1) 0 = x) := ⟨_, hide rfl⟩
      have cx : wr.cell? ⟨b, off + k, none⟩ = some (.int .i64 x) := by rw [hb.cell (p := ⟨b, off + k, none⟩) hbl, ← Hx.out]; exact Hat.out k (by omega)
      have cy : wr.cell? ⟨b, off + (k + 1), none⟩ = some (.int .i64 y) := by rw [hb.cell (p := ⟨b, off + (k + 1), none⟩) hbl, ← Hy.out]; exact Hat.out (k + 1) (by omega)
      have hk1 : (k : Int) < (N : Int) + 1 := by omega
      have hk2 : (k : Int) + 1 < (N : Int) + 1 := by omega
      clear hb
      by_cases hxy : y < x
      · go_upto_region 9 with fail
        go_quiet (fail)
        go_wp2
        go_ret
        exact ⟨below_drew Hb.out _, .inl rfl⟩
      · go_upto_region 9 with fail
        go_quiet (fail)
        go_wp2
        go_roundw
        case rel =>
          refine ⟨k + 1, by omega, by go_num, below_drew Hb.out _, fun n hn => ?_⟩
          by_cases h : n = k
          · subst h; rw [Hx.out, Hy.out]; omega
          · exact Hmon.out n (by omega)
        case measure => simp [intOf]; omega
    · have hke : k = N := by omega
      subst hke
      clear hb
      go_wp2
      go_loopw [9] (fun i wr => ∃ j : Nat, j ≤ z1.length ∧ i = .int .i64 j ∧ Below w.heap.size w wr ∧ ∀ n, n < j → 0 ≤ z1.getD n 0 ∧ z1.getD n 0 + 1 < (k : Int) + 1) (fun i _ => z1.length - (intOf i).toNat)
      case atStart => exact ⟨0, Nat.zero_le _, rfl, Hb.out, fun n hn => absurd hn (Nat.not_lt_zero _)⟩
      case round =>
        clear Hb
        obtain ⟨j, hj, rfl, hb, hends⟩ := hrel
        have Hends := hide hends
        have Hb := hide hb
        clear hends
        by_cases hlt1 : j < z1.length
        · have hlti : (j : Int) < (z1.length : Int) := by omega
          obtain ⟨x, Hx⟩ : ∃ x, Hid (z1.getD j 0 = x) := ⟨_, hide rfl⟩
          obtain ⟨b1, o1, rfl, hb1, hc1⟩ := H1.out.at hlt1
          rw [Hx.out] at hc1
          have cx : wr.cell? ⟨b1, o1 + j, none⟩ = some (.int .i64 x) := by rw [hb.cell (p := ⟨b1, o1 + j, none⟩) hb1]; exact hc1
          clear hb hc1
          by_cases hx0 : x < 0
          · go_wp2
            go_ret
            exact ⟨Hb.out, .inl rfl⟩
          · by_cases hxN : (k : Int) ≤ x
            · go_wp2
              go_ret
              exact ⟨Hb.out, .inl rfl⟩
            · go_wp2
              go_roundw
              case rel =>
                refine ⟨j + 1, by omega, by go_num, Hb.out, fun n hn => ?_⟩
                by_cases h : n = j
                · subst h; rw [Hx.out]; omega
                · exact Hends.out n (by omega)
              case measure => simp [intOf]; omega
        · clear hb
          go_wp2
          go_ret
          refine ⟨Hb.out, .inr ⟨rfl, ⟨by have := HN.out; omega, rfl, Hf0.out, by rw [HN.out]; exact HfN.out, fun n hn => Hmon.out n (by have := HN.out; omega), fun i hi => ?_⟩⟩⟩
          have := Hends.out i (by omega)
          have h2 := HN.out
          omega
end Go.Proofs.Qxb6602044a
