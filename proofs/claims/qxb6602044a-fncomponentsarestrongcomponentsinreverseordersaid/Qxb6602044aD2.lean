/-
  THE GRAPH AS zzGraph LAYS IT.
-/
import Derived.Test.Qxb6602044aD1
import Derived.Test.Qxb6602044aV1
namespace Go.Proofs.Qxb6602044a
open Go.RowKit
set_option linter.unusedVariables false

theorem Try.info82 : (Try.prog.info? 82).map (fun i => (i.zero, i.size, i.bytes)) = some (some (.agg #[.int .i64 0, .int .i64 0, .int .u8 0, .string ⟨#[]⟩, .bool false, .int .u8 0]), 6, 56) := by kernel_rfl

def z82 (m : Nat) : Value := (#[.int .i64 0, .int .i64 0, .int .u8 0, .string ⟨#[]⟩, .bool false, .int .u8 0] : Array Value)[m % 6]!
def sF (z1 z2 : List Int) (m : Nat) : Value := if m % 6 = 1 then .int .i64 (z1.getD (m / 6) 0) else if m % 6 = 2 then .int .u8 (z2.getD (m / 6) 0) else z82 m

theorem mk_steps (n : Nat) (hn : n ≤ 1048576) (w : World) : (Instr.makeSlice 77 (.int .i64 (n : Int)) (.int .i64 (n : Int))).run Try.prog w =
    .ok (.slice (some ⟨w.heap.size, 0, none⟩) n n) (w.alloc (.cells (Tab (n * 6) z82).toArray 82)) := by
  obtain ⟨i0, hi, hz0, hz1, hz2⟩ := info_parts Try.info82
  have h := run_make (P := Try.prog) w 77 82 i0 _ Try.underlying77 hi hz0 .i64 .i64 (n : Int) (n : Int) (by omega) (Int.le_refl _) (by rw [hz2]; omega) (by omega)
  rw [h, hz1, Int.toNat_natCast, madeCells_tab]
  rfl

theorem z82_at (k j : Nat) : z82 (k * 6 + j) = z82 j := by unfold z82; rw [show (k * 6 + j) % 6 = j % 6 from by omega]
theorem sF_1 (z1 z2 : List Int) (k : Nat) : sF z1 z2 (k * 6 + 1) = .int .i64 (z1.getD k 0) := by
  unfold sF; rw [if_pos (by omega), show (k * 6 + 1) / 6 = k from by omega]
theorem sF_2 (z1 z2 : List Int) (k : Nat) : sF z1 z2 (k * 6 + 2) = .int .u8 (z2.getD k 0) := by
  unfold sF; rw [if_neg (by omega), if_pos (by omega), show (k * 6 + 2) / 6 = k from by omega]
theorem sF_o (z1 z2 : List Int) (k j : Nat) (h1 : j % 6 ≠ 1) (h2 : j % 6 ≠ 2) : sF z1 z2 (k * 6 + j) = z82 j := by
  unfold sF; rw [if_neg (by omega), if_neg (by omega), z82_at]

theorem Row.put2of6 {w : World} {b : Nat} {e : TypeId} {n k : Nat} {z1 z2 : List Int} (h : Row w b e (Tab n (upTo 6 k (sF z1 z2) z82))) {v1 v2 : Value}
    (h1 : sF z1 z2 (k * 6 + 1) = v1) (h2 : sF z1 z2 (k * 6 + 2) = v2) :
    Row ((w.setCell ⟨b, k * 6 + 1, none⟩ v1).setCell ⟨b, k * 6 + 2, none⟩ v2) b e (Tab n (upTo 6 (k + 1) (sF z1 z2) z82)) := by
  refine ((h.setTab _ v1).setTab _ v2).tabEq ?_
  intro m _
  subst h1 h2
  unfold upTo
  by_cases e2 : m = k * 6 + 2
  · subst e2; rw [if_pos rfl, if_pos (by omega)]
  rw [if_neg e2]
  by_cases e1 : m = k * 6 + 1
  · subst e1; rw [if_pos rfl, if_pos (by omega)]
  rw [if_neg e1]
  by_cases hlt : m < k * 6
  · rw [if_pos hlt, if_pos (by omega)]
  · rw [if_neg hlt]
    by_cases h3 : m < (k + 1) * 6
    · rw [if_pos h3]
      obtain ⟨j, rfl⟩ : ∃ j, m = k * 6 + j := ⟨m - k * 6, by omega⟩
      rw [sF_o _ _ _ _ (by omega) (by omega), z82_at]
    · rw [if_neg h3]

/-- the graph that start, to and kind tell, its steps taken up to kind most -/
def zGr (z0 z1 z2 : List Int) (plain : Int) (most : Nat) : Tj.Gr :=
  ⟨z0.length - 1, z1.length, fun n => (z0.getD n 0).toNat, fun i => (z1.getD i 0).toNat, fun i => decide ((z2.getD i 0).toNat ≤ most), fun n => decide ((n : Int) < plain)⟩

/-- what zzGraph hands back -/
def GraphOut (w : World) (b0 : Nat) (z0 z1 z2 : List Int) (plain : Int) (e : Ending) (w' : World) : Prop :=
  e = .returned (.pointer (some ⟨w.heap.size + 1, 0, none⟩)) ∧ Below w.heap.size w w' ∧ ∀ most, GMem w' (w.heap.size + 1) b0 w.heap.size (zGr z0 z1 z2 plain most) (fun i => (z2.getD i 0).toNat) most plain

/-- what the graph functions are told of their arguments -/
structure GIn (w : World) (b0 : Nat) (a1 a2 : Option Addr) (z0 z1 z2 : List Int) : Prop where
  lt : b0 < w.heap.size
  r0 : Reads 0 w (some ⟨b0, 0, none⟩) (z0.map (Value.int .i64))
  r1 : Reads 0 w a1 (z1.map (Value.int .i64))
  r2 : Reads 0 w a2 (z2.map (Value.int .u8))
  ok : ZValid z0 z1 z2.length
  s0 : z0.length ≤ 131072
  s1 : z1.length ≤ 131072
  u2 : ∀ x ∈ z2, 0 ≤ x ∧ x < 256

theorem GIn.below {w w' : World} {b0 : Nat} {a1 a2 : Option Addr} {z0 z1 z2 : List Int} (h : GIn w b0 a1 a2 z0 z1 z2) (hb : Below w.heap.size w w') : GIn w' b0 a1 a2 z0 z1 z2 :=
  ⟨Nat.lt_of_lt_of_le h.lt hb.size, h.r0.below hb (Nat.le_refl _), h.r1.below hb (Nat.le_refl _), h.r2.below hb (Nat.le_refl _), h.ok, h.s0, h.s1, h.u2⟩

theorem getD_mem {l : List Int} {i : Nat} (h : i < l.length) : l.getD i 0 ∈ l := by
  rw [List.getD_eq_getElem?_getD, List.getElem?_eq_getElem h]
  exact List.getElem_mem h

theorem GIn.st0 {w : World} {b0 : Nat} {a1 a2 : Option Addr} {z0 z1 z2 : List Int} (h : GIn w b0 a1 a2 z0 z1 z2) : ∀ n, n < z0.length → 0 ≤ z0.getD n 0 := by
  intro n
  induction n with
  | zero => intro _; rw [h.ok.first]; exact Int.le_refl _
  | succ n ih => intro hn; exact Int.le_trans (ih (by omega)) (h.ok.mono n hn)

theorem GIn.valid {w : World} {b0 : Nat} {a1 a2 : Option Addr} {z0 z1 z2 : List Int} (h : GIn w b0 a1 a2 z0 z1 z2) (plain : Int) (most : Nat) : (zGr z0 z1 z2 plain most).Valid := by
  have hp := h.ok.pos
  refine ⟨?_, ?_, fun n hn => ?_, fun i hi => ?_⟩
  · show (z0.getD 0 0).toNat = 0
    rw [h.ok.first]; rfl
  · show (z0.getD (z0.length - 1) 0).toNat = z1.length
    rw [h.ok.last]; exact Int.toNat_natCast _
  · have h1 : n < z0.length - 1 := hn
    have h2 := h.ok.mono n (by omega)
    show (z0.getD n 0).toNat ≤ (z0.getD (n + 1) 0).toNat
    omega
  · obtain ⟨h1, h2⟩ := h.ok.ends i hi
    show (z1.getD i 0).toNat < z0.length - 1
    omega

theorem gmem_of {w w' : World} {b0 : Nat} {a1 a2 : Option Addr} {z0 z1 z2 : List Int} (h : GIn w b0 a1 a2 z0 z1 z2) (hb : Below w.heap.size w w') {bg bs : Nat} {l : List Value} {plain : Int} (hg : Row w' bg 86 l)
    (hl0 : l[0]? = some (.slice (some ⟨b0, 0, none⟩) z0.length z0.length)) (hl2 : l[2]? = some (.slice (some ⟨bs, 0, none⟩) z1.length z1.length)) (hl4 : l[4]? = some (.int .i64 plain))
    (hs : Row w' bs 82 (Tab (z1.length * 6) (sF z1 z2))) (most : Nat) : GMem w' bg b0 bs (zGr z0 z1 z2 plain most) (fun i => (z2.getD i 0).toNat) most plain := by
  have hp := h.ok.pos
  have hN : (zGr z0 z1 z2 plain most).N + 1 = z0.length := by show z0.length - 1 + 1 = _; omega
  have h2 := h.below hb
  refine ⟨⟨l, hg, by rw [hN]; exact hl0, hl2, hl4⟩, fun n hn => ?_, fun i hi => ?_, fun i hi => ?_, fun i hi => ?_, fun _ => rfl, fun _ => rfl, h2.lt, hs.lt, ⟨?_, h.s1⟩, h.valid plain most⟩
  · have hn' : n < z0.length := by omega
    obtain ⟨b, off, he, _, hc⟩ := h2.r0.at hn'
    injection he with he
    injection he with e1 e2
    subst e1 e2
    rw [Nat.zero_add] at hc
    rw [hc]
    show _ = some (Value.int .i64 ((z0.getD n 0).toNat : Int))
    rw [Int.toNat_of_nonneg (h.st0 n hn')]
  · have hi : i < z1.length := hi
    rw [hs.cellTab (by omega), sF_1]
    show _ = some (Value.int .i64 ((z1.getD i 0).toNat : Int))
    rw [Int.toNat_of_nonneg (h.ok.ends i hi).1]
  · have hi : i < z1.length := hi
    rw [hs.cellTab (by omega), sF_2]
    rw [Int.toNat_of_nonneg (h.u2 _ (getD_mem (by rw [h.ok.kind]; exact hi))).1]
  · have hi : i < z1.length := hi
    refine ⟨?_, ?_, ?_, ?_⟩
    · rw [hs.cellTab (by omega), show i * 6 = i * 6 + 0 from rfl, sF_o _ _ _ _ (by omega) (by omega)]; rfl
    · rw [hs.cellTab (by omega), sF_o _ _ _ _ (by omega) (by omega)]; rfl
    · rw [hs.cellTab (by omega), sF_o _ _ _ _ (by omega) (by omega)]; rfl
    · rw [hs.cellTab (by omega), sF_o _ _ _ _ (by omega) (by omega)]; rfl
  · show z0.length - 1 ≤ 131072
    have := h.s0
    omega

theorem row_at {w : World} {e : TypeId} {l : List Value} {b : Nat} {cs : Array Value} (hb : w.heap.size = b) (hc : cs = l.toArray) : Row (w.alloc (.cells cs e)) b e l := by
  subst hb hc; exact Row.new w e l

set_option maxRecDepth 100000 in
set_option maxHeartbeats 1000000 in
theorem graph_any {w : World} {b0 : Nat} {a1 a2 : Option Addr} {z0 z1 z2 : List Int} (h : GIn w b0 a1 a2 z0 z1 z2) (plain : Int) :
    Calls Try.prog 32 #[.slice (some ⟨b0, 0, none⟩) z0.length z0.length, .slice a1 z1.length z1.length, .slice a2 z2.length z2.length, .int .i64 plain] w (GraphOut w b0 z0 z1 z2 plain) := by
  have H := hide h
  have hs1 := h.s1
  have hk : z2.length = z1.length := h.ok.kind
  clear h
  rw [hk]
  have Hk := hide hk
  clear hk
  have hmk := mk_steps z1.length (by omega)
  go_enter Try.func32, Try.ntmps32
  go_wp2
  clear hmk
  go_loopw [16] (fun i wr => ∃ k : Nat, k ≤ z1.length ∧ i = .int .i64 k ∧ Row wr w.heap.size 82 (Tab (z1.length * 6) (upTo 6 k (sF z1 z2) z82)) ∧ wr.heap.size = w.heap.size + 1 ∧ Below w.heap.size w wr) (fun i _ => z1.length - (intOf i).toNat)
  case atStart => exact ⟨0, Nat.zero_le _, rfl, (Row.new _ _ _).tabEq (fun m _ => by simp [upTo]), by simp, (Below.refl _ _).alloc (Nat.le_refl _) _⟩
  case round =>
    obtain ⟨k, hkl, rfl, hrow, hsz, hb⟩ := hrel
    by_cases hlt : k < z1.length
    · have hki : (k : Int) < (z1.length : Int) := by omega
      obtain ⟨b1, o1, rfl, u1, hc1⟩ := H.out.r1.at hlt
      obtain ⟨b2, o2, rfl, u2, hc2⟩ := H.out.r2.at (show k < z2.length by rw [Hk.out]; exact hlt)
      obtain ⟨x, Hx⟩ : ∃ x, Hid (z1.getD k 0 = x) := ⟨_, hide rfl⟩
      obtain ⟨y, Hy⟩ : ∃ x, Hid (z2.getD k 0 = x) := ⟨_, hide rfl⟩
      rw [Hx.out, ← hb.cell (p := ⟨b1, o1 + k, none⟩) u1] at hc1
      rw [Hy.out, ← hb.cell (p := ⟨b2, o2 + k, none⟩) u2] at hc2
      have hd : b2 ≠ w.heap.size := by omega
      have e1 := hrow.cellTab (i := k * 6 + 1) (by omega)
      have e2 := hrow.cellTab (i := k * 6 + 2) (by omega)
      have f1 := hrow.frozen (k * 6 + 1)
      have f2 := hrow.frozen (k * 6 + 2)
      generalize upTo 6 k (sF z1 z2) z82 (k * 6 + 1) = y1 at e1
      generalize upTo 6 k (sF z1 z2) z82 (k * 6 + 2) = y2 at e2
      have Hput := hide (hrow.put2of6 (v1 := .int .i64 x) (v2 := .int .u8 y) (by rw [sF_1, Hx.out]) (by rw [sF_2, Hy.out]))
      have Hsz := hide hsz
      have Hb := hide hb
      clear hrow hsz hb
      go_wp2
      go_roundw
      case rel => exact ⟨k + 1, by omega, by go_num, Hput.out, by simpa [World.setCell] using Hsz.out, (Hb.out.setCell (by simp) _).setCell (by simp) _⟩
      case measure => simp [intOf]; omega
    · have hke : k = z1.length := by omega
      have Hrow := hide (hrow.tabEq (G := sF z1 z2) (fun m hm => by rw [hke]; simp [upTo, hm]))
      have Hsz := hide hsz
      have Hb := hide hb
      clear hrow hsz hb hke
      go_wp2
      go_ret
      refine ⟨by rw [Hsz.out]; rfl, ?_, fun most => ?_⟩
      · exact Hb.out.alloc (by have := Hsz.out; omega) _
      · rw [← Hsz.out]
        have hn := Row.new wr 86 [Value.slice (some ⟨b0, 0, none⟩) z0.length z0.length]
        refine gmem_of H.out (Hb.out.alloc (by have := Hsz.out; omega) _) (row_at rfl rfl) rfl rfl rfl (Hrow.out.alloc _) most
end Go.Proofs.Qxb6602044a
