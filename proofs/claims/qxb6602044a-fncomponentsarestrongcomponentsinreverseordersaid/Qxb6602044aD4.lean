/-
  THE COMPONENTS OF A GRAPH THAT IS HANDED IN; THE BOUND ON THE ARGUMENTS.
-/
import Derived.Test.Qxb6602044aD3
import Derived.Test.Qxb6602044aC1
namespace Go.Proofs.Qxb6602044a
open Go.RowKit
set_option linter.unusedVariables false

def Few3 (l0 l1 l2 : Nat) : Prop := l0 ≤ 1048576 ∧ l1 ≤ 1048576 ∧ l2 ≤ 1048576

def Bytes3 (w : World) (l0 l1 l2 : Nat) (e : Ending) (w' : World) : Prop := w' = w ∧ (e = .returned (.bool false) ∨ e = .returned (.bool true) ∧ Few3 l0 l1 l2)

set_option maxRecDepth 100000 in
set_option maxHeartbeats 1000000 in
theorem bytes8_any (w : World) (a0 a1 a2 : Option Addr) (l0 l1 l2 c0 c1 c2 : Nat) (p : Int) (m : Int) :
    Calls Try.prog 8 #[.slice a0 l0 c0, .slice a1 l1 c1, .slice a2 l2 c2, .int .i64 p, .int .u8 m] w (Bytes3 w l0 l1 l2) := by
  by_cases k0 : (1048576 : Int) < (l0 : Int)
  · go_enter Try.func8, Try.ntmps8
    go_wp2
    go_ret
    exact ⟨rfl, .inl rfl⟩
  by_cases k1 : (1048576 : Int) < (l1 : Int)
  · go_enter Try.func8, Try.ntmps8
    go_wp2
    go_ret
    exact ⟨rfl, .inl rfl⟩
  by_cases k2 : (1048576 : Int) < (l0 : Int) + (l1 : Int)
  · go_enter Try.func8, Try.ntmps8
    go_wp2
    go_ret
    exact ⟨rfl, .inl rfl⟩
  by_cases k3 : (1048576 : Int) < (l2 : Int)
  · go_enter Try.func8, Try.ntmps8
    go_wp2
    go_ret
    exact ⟨rfl, .inl rfl⟩
  by_cases k4 : (1048576 : Int) < (l0 : Int) + (l1 : Int) + (l2 : Int)
  · go_enter Try.func8, Try.ntmps8
    go_wp2
    go_ret
    exact ⟨rfl, .inl rfl⟩
  have H : Hid (Few3 l0 l1 l2) := hide ⟨by omega, by omega, by omega⟩
  go_enter Try.func8, Try.ntmps8
  go_wp2
  go_ret
  exact ⟨rfl, .inr ⟨rfl, H.out⟩⟩

set_option maxRecDepth 100000 in
set_option maxHeartbeats 1000000 in
theorem bytes19_any (w : World) (a0 a1 a2 : Option Addr) (l0 l1 l2 c0 c1 c2 : Nat) (p : Int) (m h : Int) :
    Calls Try.prog 19 #[.slice a0 l0 c0, .slice a1 l1 c1, .slice a2 l2 c2, .int .i64 p, .int .u8 m, .int .u8 h] w (Bytes3 w l0 l1 l2) := by
  by_cases k0 : (1048576 : Int) < (l0 : Int)
  · go_enter Try.func19, Try.ntmps19
    go_wp2
    go_ret
    exact ⟨rfl, .inl rfl⟩
  by_cases k1 : (1048576 : Int) < (l1 : Int)
  · go_enter Try.func19, Try.ntmps19
    go_wp2
    go_ret
    exact ⟨rfl, .inl rfl⟩
  by_cases k2 : (1048576 : Int) < (l0 : Int) + (l1 : Int)
  · go_enter Try.func19, Try.ntmps19
    go_wp2
    go_ret
    exact ⟨rfl, .inl rfl⟩
  by_cases k3 : (1048576 : Int) < (l2 : Int)
  · go_enter Try.func19, Try.ntmps19
    go_wp2
    go_ret
    exact ⟨rfl, .inl rfl⟩
  by_cases k4 : (1048576 : Int) < (l0 : Int) + (l1 : Int) + (l2 : Int)
  · go_enter Try.func19, Try.ntmps19
    go_wp2
    go_ret
    exact ⟨rfl, .inl rfl⟩
  have H : Hid (Few3 l0 l1 l2) := hide ⟨by omega, by omega, by omega⟩
  go_enter Try.func19, Try.ntmps19
  go_wp2
  go_ret
  exact ⟨rfl, .inr ⟨rfl, H.out⟩⟩

set_option maxRecDepth 100000 in
set_option maxHeartbeats 1000000 in
theorem bytes20_any (w : World) (a0 a1 a2 : Option Addr) (l0 l1 l2 c0 c1 c2 : Nat) (p : Int) (m : Int) :
    Calls Try.prog 20 #[.slice a0 l0 c0, .slice a1 l1 c1, .slice a2 l2 c2, .int .i64 p, .int .u8 m] w (Bytes3 w l0 l1 l2) := by
  by_cases k0 : (1048576 : Int) < (l0 : Int)
  · go_enter Try.func20, Try.ntmps20
    go_wp2
    go_ret
    exact ⟨rfl, .inl rfl⟩
  by_cases k1 : (1048576 : Int) < (l1 : Int)
  · go_enter Try.func20, Try.ntmps20
    go_wp2
    go_ret
    exact ⟨rfl, .inl rfl⟩
  by_cases k2 : (1048576 : Int) < (l0 : Int) + (l1 : Int)
  · go_enter Try.func20, Try.ntmps20
    go_wp2
    go_ret
    exact ⟨rfl, .inl rfl⟩
  by_cases k3 : (1048576 : Int) < (l2 : Int)
  · go_enter Try.func20, Try.ntmps20
    go_wp2
    go_ret
    exact ⟨rfl, .inl rfl⟩
  by_cases k4 : (1048576 : Int) < (l0 : Int) + (l1 : Int) + (l2 : Int)
  · go_enter Try.func20, Try.ntmps20
    go_wp2
    go_ret
    exact ⟨rfl, .inl rfl⟩
  have H : Hid (Few3 l0 l1 l2) := hide ⟨by omega, by omega, by omega⟩
  go_enter Try.func20, Try.ntmps20
  go_wp2
  go_ret
  exact ⟨rfl, .inr ⟨rfl, H.out⟩⟩

/-- what ZZComponents hands back -/
def CompsOut (w : World) (N : Nat) (G : Tj.Gr) (e : Ending) (w' : World) : Prop :=
  ∃ bc a cz cmp size, e = .returned (.tuple #[.slice (some ⟨bc, 0, none⟩) N N, .slice a (List.length size) cz]) ∧ Tj.Good G cmp size ∧ size.length ≤ N ∧ Row w' bc 3 (Tab N (fun v => nv (cmp v))) ∧ Reads 0 w' a (size.map nv) ∧ Below w.heap.size w w'

theorem owns_reads {w : World} {base : Nat} {v : Value} {xs : List Nat} (h : w.ownsRow base 3 1 v xs.length (xs.map nv)) : ∃ a c, v = .slice a xs.length c ∧ Reads 0 w a (xs.map nv) := by
  by_cases h0 : 0 < xs.length
  · obtain ⟨g, cap, rfl, _, hlt, _, _, hc, _⟩ := owns_open h h0
    refine ⟨_, _, rfl, fun i hi => ⟨g, 0, rfl, Nat.zero_le _, hlt, ?_⟩⟩
    rw [Nat.zero_add]
    exact hc i _ (List.getElem?_eq_getElem hi)
  · obtain ⟨a, c, rfl⟩ := owns_form h
    exact ⟨a, c, rfl, fun i hi => by simp at hi; omega⟩

set_option maxRecDepth 100000 in
set_option maxHeartbeats 1000000 in
theorem comps_any {w : World} {b0 : Nat} {a1 a2 : Option Addr} {z0 z1 z2 : List Int} (h : GIn w b0 a1 a2 z0 z1 z2) (plain : Int) {N : Nat} (hN : z0.length = N + 1) (most : Nat) (hm : most < 256) :
    Calls Try.prog 13 #[.slice (some ⟨b0, 0, none⟩) (N + 1) (N + 1), .slice a1 z1.length z1.length, .slice a2 z2.length z2.length, .int .i64 plain, .int .u8 (most : Int)] w (CompsOut w N (zGr z0 z1 z2 plain most)) := by
  have K := hide (graph_any h plain)
  have H := hide h
  have HN := hide hN
  rw [hN] at K
  clear h hN
  go_enter Try.func13, Try.ntmps13
  go_wp2_with fail
  refine Calls.mono (Hid.out K) ?_
  rintro e1 w1 ⟨rfl, hb, hg⟩
  have hN0 : (zGr z0 z1 z2 plain most).N = N := by show z0.length - 1 = N; rw [HN.out]; rfl
  have hkd : ∀ i, (z2.getD i 0).toNat < 256 := fun i => by
    by_cases hi : i < z2.length
    · have := H.out.u2 _ (getD_mem hi)
      omega
    · rw [List.getD_eq_getElem?_getD, List.getElem?_eq_none (by omega)]
      decide
  have KC := hide (comp_any (hg most) hm hkd)
  have Hb := hide hb
  have HN0 := hide hN0
  clear K hb hg hN0 hkd
  go_wp2_with fail
  refine Calls.mono (Hid.out KC) ?_
  rintro e2 w2 ⟨cmp, size, vZ, rfl, hgood, hlen, hrow, hown, hb2⟩
  obtain ⟨a, c, rfl, hreads⟩ := owns_reads hown
  have hfin : CompsOut w N (zGr z0 z1 z2 plain most) (.returned (.tuple #[.slice (some ⟨w1.heap.size + 1, 0, none⟩) N N, .slice a size.length c])) w2 := by
    rw [HN0.out] at hlen hrow
    exact ⟨_, _, _, _, _, rfl, hgood, hlen, hrow, hreads, Hb.out.trans (hb2.mono Hb.out.size)⟩
  have Hfin := hide hfin
  rw [HN0.out]
  clear hgood hlen hrow hown hb2 hreads hfin KC
  go_wp2
  go_ret2
  exact Hfin.out
end Go.Proofs.Qxb6602044a
