/-
  has, sameAtB1, HasPrefix.
-/
import Derived.Test.Qxb6602558aProg
import Derived.Test.Qxb6602558aVoc
import Derived.Deep.QuietTactic
import Derived.BigQuiet
import Derived.BigFrame
import Derived.RegionTactic
import Derived.BigRegion
import Derived.Deep.DeepCutAuto
namespace Go.Proofs.Qxb6602558a
open Go.RowKit
set_option linter.unusedVariables false

def byteAt (s : ByteArray) (i : Nat) : Nat := if h : i < s.size then s[i].toNat else 0

theorem byteAt_in {s : ByteArray} {i : Nat} (h : i < s.size) : byteAt s i = s[i].toNat := by unfold byteAt; rw [dif_pos h]
theorem byteAt_lt (s : ByteArray) (i : Nat) : byteAt s i < 256 := by
  unfold byteAt
  split
  · exact UInt8.toNat_lt _
  · omega

/-- a stands in T at place p -/
def At (T : ByteArray) (p : Nat) (a : ByteArray) : Prop := p + a.size ≤ T.size ∧ ∀ j, j < a.size → byteAt T (p + j) = byteAt a j

/-- a test that draws and reads -/
def Tells (w : World) (P : Prop) (e : Ending) (w' : World) : Prop := ∃ b : Bool, e = .returned (.bool b) ∧ (b = true ↔ P) ∧ ∃ k, w' = w.drewN k

set_option maxRecDepth 100000 in
theorem has_any (w : World) (b off c : Nat) (x : Bool) (hc : c < 256) (h : w.cell? ⟨b, off + c, none⟩ = some (.bool x)) :
    Calls Try.prog 41 #[.pointer (some ⟨b, off, none⟩), .int .u8 (c : Int)] w fun e w' => e = .returned (.bool x) ∧ w' = w := by
  have hci : (c : Int) < 256 := by omega
  go_enter Try.func41, Try.ntmps41
  go_wp2
  go_ret
  exact ⟨rfl, rfl⟩

set_option maxRecDepth 100000 in
set_option maxHeartbeats 1000000 in
theorem sameAt_any (w : World) (T a : ByteArray) (p : Nat) (hT : T.size ≤ 1048576) (ha : a.size ≤ 1048576) (hp : p ≤ 1048576) :
    Calls Try.prog 27 #[.string T, .int .i64 (p : Int), .string a] w (Tells w (At T p a)) := by
  by_cases h0 : T.size < p + a.size
  · have h0i : (T.size : Int) < (p : Int) + (a.size : Int) := by omega
    have HF : Hid (Tells w (At T p a) (.returned (.bool false)) w) := hide ⟨false, rfl, ⟨fun h => (by cases h), fun h => absurd h.1 (by omega)⟩, 0, rfl⟩
    go_enter Try.func27, Try.ntmps27
    go_wp2
    go_ret
    exact HF.out
  · have h0i : ¬ ((T.size : Int) < (p : Int) + (a.size : Int)) := by omega
    go_enter Try.func27, Try.ntmps27
    go_wp2
    go_loopw [7] (fun i wr => ∃ k : Nat, k ≤ a.size ∧ i = .int .i64 k ∧ (∀ j, j < k → byteAt T (p + j) = byteAt a j) ∧ ∃ n, wr = w.drewN n) (fun i _ => a.size - (intOf i).toNat)
    case atStart => exact ⟨0, Nat.zero_le _, rfl, fun j hj => absurd hj (Nat.not_lt_zero _), 0, rfl⟩
    case round =>
      obtain ⟨k, hk, rfl, hall, n, rfl⟩ := hrel
      have Hall := hide hall
      clear hall
      by_cases hlt : k < a.size
      · have hki : (k : Int) < (a.size : Int) := by omega
        obtain ⟨m, Hm⟩ : ∃ m, Hid (p + k = m) := ⟨_, hide rfl⟩
        have hTk : m < T.size := by have := Hm.out; omega
        have hTi : (m : Int) < (T.size : Int) := by omega
        have hwr : IntKind.i64.wrap ((p : Int) + (k : Int)) = (m : Int) := by rw [IntKind.wrap_i64]; have := Hm.out; omega
        have e1 := byteAt_in hTk
        have e2 := byteAt_in hlt
        by_cases heq : T[m].toNat = a[k].toNat
        · have hb : ((T[m].toNat : Int) != (a[k].toNat : Int)) = false := by rw [heq]; simp
          have Hn := hide (show byteAt T (p + k) = byteAt a k by rw [Hm.out, e1, e2, heq])
          clear e1 e2 heq
          go_upto_region 6 with fail
          go_quiet (fail)
          go_wp2
          go_roundw
          case rel =>
            refine ⟨k + 1, by omega, by go_num, fun j hj => ?_, _, rfl⟩
            by_cases hjk : j = k
            · subst hjk; exact Hn.out
            · exact Hall.out j (by omega)
          case measure => simp [intOf]; omega
        · have hb : ((T[m].toNat : Int) != (a[k].toNat : Int)) = true := bne_iff_ne.2 (by omega)
          have Hn := hide (show byteAt T (p + k) ≠ byteAt a k by rw [Hm.out, e1, e2]; exact heq)
          clear e1 e2 heq
          go_upto_region 6 with fail
          go_quiet (fail)
          go_wp2
          go_ret
          exact ⟨false, rfl, ⟨fun h => (by cases h), fun h => absurd (h.2 k hlt) Hn.out⟩, by first | exact drews w n nq | exact ⟨_, rfl⟩⟩
      · have HF : Hid (Tells w (At T p a) (.returned (.bool true)) (w.drewN n)) := hide ⟨true, rfl, ⟨fun _ => ⟨by omega, fun j hj => Hall.out j (by omega)⟩, fun _ => rfl⟩, n, rfl⟩
        go_wp2
        go_ret
        exact HF.out

theorem byteAt_data (s : ByteArray) (i : Nat) : byteAt s i = (s.data[i]?.getD 0).toNat := by
  unfold byteAt
  by_cases h : i < s.size
  · rw [dif_pos h, Array.getElem?_eq_getElem (show i < s.data.size from h)]; rfl
  · rw [dif_neg h, Array.getElem?_eq_none (show s.data.size ≤ i from Nat.le_of_not_lt h)]; rfl

theorem ext_bytes {x y : ByteArray} : x = y ↔ x.size = y.size ∧ ∀ j, j < x.size → byteAt x j = byteAt y j := by
  constructor
  · rintro rfl; exact ⟨rfl, fun _ _ => rfl⟩
  · rintro ⟨h1, h2⟩
    obtain ⟨dx⟩ := x
    obtain ⟨dy⟩ := y
    congr 1
    refine Array.ext h1 (fun i hi hi2 => ?_)
    have := h2 i hi
    rw [byteAt_in hi, byteAt_in hi2] at this
    exact UInt8.toNat_inj.1 this

theorem size_cut (s : ByteArray) (p e : Nat) (he : e ≤ s.size) : (s.extract p e).size = e - p := by
  simp [ByteArray.size_extract, Nat.min_eq_left he]

theorem byteAt_cut (s : ByteArray) (p e j : Nat) (he : e ≤ s.size) (hj : j < e - p) : byteAt (s.extract p e) j = byteAt s (p + j) := by
  rw [byteAt_in (by rw [size_cut s p e he]; exact hj), byteAt_in (show p + j < s.size by omega)]
  simp [ByteArray.getElem_extract]

theorem prefix_iff {s a : ByteArray} (h : a.size ≤ s.size) : ((s.extract 0 a.size).toList == a.toList) = true ↔ At s 0 a := by
  rw [beq_iff_eq]
  have he : (s.extract 0 a.size).toList = a.toList ↔ s.extract 0 a.size = a := by
    simp only [ByteArray.toList_eq]
    constructor
    · intro h; exact ByteArray.ext (Array.toList_inj.1 h)
    · intro h; rw [h]
  rw [he, ext_bytes, size_cut s 0 a.size h]
  constructor
  · rintro ⟨_, h2⟩
    refine ⟨by omega, fun j hj => ?_⟩
    rw [← h2 j (by omega), byteAt_cut s 0 a.size j h (by omega)]
  · rintro ⟨_, h2⟩
    refine ⟨by omega, fun j hj => ?_⟩
    rw [byteAt_cut s 0 a.size j h hj, h2 j (by omega)]

set_option maxRecDepth 100000 in
set_option maxHeartbeats 1000000 in
theorem hasPrefix40 (w : World) (s a : ByteArray) (hs : s.size ≤ 1048576) (ha : a.size ≤ 1048576) : Calls Try.prog 40 #[.string s, .string a] w (Tells w (At s 0 a)) := by
  by_cases h0 : a.size ≤ s.size
  · have HF : Hid (((s.extract 0 a.size).toList == a.toList) = true ↔ At s 0 a) := hide (prefix_iff h0)
    go_enter Try.func40, Try.ntmps40
    go_wp2
    go_ret
    exact ⟨_, rfl, HF.out, 0, rfl⟩
  · have h0i : ¬ ((a.size : Int) ≤ (s.size : Int)) := by omega
    have HF : Hid (Tells w (At s 0 a) (.returned (.bool false)) w) := hide ⟨false, rfl, ⟨fun h => (by cases h), fun h => absurd h.1 (by omega)⟩, 0, rfl⟩
    go_enter Try.func40, Try.ntmps40
    go_wp2
    go_ret
    exact HF.out

set_option maxRecDepth 100000 in
theorem hasPrefix_any (w : World) (s a : ByteArray) (hs : s.size ≤ 1048576) (ha : a.size ≤ 1048576) : Calls Try.prog 30 #[.string s, .string a] w (Tells w (At s 0 a)) := by
  have K := hide (hasPrefix40 w s a hs ha)
  go_enter Try.func30, Try.ntmps30
  go_wp2_with fail
  refine Calls.mono (Hid.out K) ?_
  rintro e w1 ⟨b, rfl, hb, k, rfl⟩
  have Hb := hide hb
  clear hb K
  go_wp2
  go_ret
  exact ⟨b, rfl, Hb.out, k, rfl⟩

theorem at_cut {T a : ByteArray} {p : Nat} (hp : p ≤ T.size) : At (T.extract p T.size) 0 a ↔ At T p a := by
  unfold At
  rw [size_cut T p T.size (Nat.le_refl _)]
  constructor
  · rintro ⟨h1, h2⟩
    refine ⟨by omega, fun j hj => ?_⟩
    rw [← h2 j hj, Nat.zero_add, byteAt_cut T p T.size j (Nat.le_refl _) (by omega)]
  · rintro ⟨h1, h2⟩
    refine ⟨by omega, fun j hj => ?_⟩
    rw [Nat.zero_add, byteAt_cut T p T.size j (Nat.le_refl _) (by omega), h2 j hj]
end Go.Proofs.Qxb6602558a
