/-
  A QUEUE AND TWO ROWS IN MEMORY; gcd, from AND weight.
-/
import Derived.Test.Qxb6602044aD4
import Derived.Test.Qxb6602044aPd
namespace Go.Proofs.Qxb6602044a
open Go.RowKit
set_option linter.unusedVariables false

structure Q2 (w wr : World) (B0 base b1 b2 N : Nat) (num : Nat → Nat) (nbd : Nat → Bool) (vQ : Value) (q : List Nat) : Prop where
  r1 : Row wr b1 3 (Tab N (fun v => nv (num v)))
  r2 : Row wr b2 4 (Tab N (fun v => .bool (nbd v)))
  oQ : wr.ownsRow base 3 1 vQ q.length (q.map nv)
  l1 : b1 < base
  l2 : b2 < base
  ne : b1 ≠ b2
  below : Below B0 w wr
  low : B0 ≤ base
  room : base ≤ wr.heap.size

section
variable {w wr : World} {B0 base b1 b2 N : Nat} {num : Nat → Nat} {nbd : Nat → Bool} {vQ : Value} {q : List Nat}

theorem Q2.grown {wr' : World} (h : Q2 w wr B0 base b1 b2 N num nbd vQ q) (hg : wr.grownBy wr' none) : Q2 w wr' B0 base b1 b2 N num nbd vQ q := by
  have hz : ∀ k, some k ≠ (none : Option Nat) := fun k e => by cases e
  have ho : ∀ v : Value, v.ownBlock = none ∨ v.ownBlock ≠ none := fun v => by cases v.ownBlock <;> simp
  have hr := h.room
  have hl := h.low
  exact ⟨h.r1.kept hg (hz _), h.r2.kept hg (hz _), h.oQ.kept hg (ho _), h.l1, h.l2, h.ne, h.below.grown hg (by omega) (fun j hj => by cases hj), h.low, Nat.le_trans hr hg.size⟩

theorem Q2.alloc (h : Q2 w wr B0 base b1 b2 N num nbd vQ q) (o : Obj) : Q2 w (wr.alloc o) B0 base b1 b2 N num nbd vQ q := h.grown (World.grownBy_alloc _ _ _)
theorem Q2.drew (h : Q2 w wr B0 base b1 b2 N num nbd vQ q) : Q2 w wr.drew B0 base b1 b2 N num nbd vQ q := h.grown (grownBy_drew _ _)
theorem Q2.drewN (h : Q2 w wr B0 base b1 b2 N num nbd vQ q) (n : Nat) : Q2 w (wr.drewN n) B0 base b1 b2 N num nbd vQ q := by
  induction n with
  | zero => exact h
  | succ n ih => exact ih.drew

theorem Q2.num_ (h : Q2 w wr B0 base b1 b2 N num nbd vQ q) (hB : B0 ≤ b1) (n l : Nat) : Q2 w (wr.setCell ⟨b1, n, none⟩ (nv l)) B0 base b1 b2 N (Tj.upd num n l) nbd vQ q := by
  have hg := grownBy_setCell wr ⟨b1, n, none⟩ (nv l)
  have hr := h.room
  have hl := h.low
  exact ⟨(h.r1.setTab n (nv l)).tabEq (fun m _ => by simp only [Tj.upd]; split <;> rfl), h.r2.kept hg (nsome (Ne.symm h.ne)), owns_low h.oQ hg h.l1, h.l1, h.l2, h.ne, h.below.grown hg (by omega) (fun j hj => by injection hj with hj; simp at hj; omega), h.low, Nat.le_trans hr hg.size⟩

theorem Q2.nbd_ (h : Q2 w wr B0 base b1 b2 N num nbd vQ q) (hB : B0 ≤ b2) (n : Nat) (b : Bool) : Q2 w (wr.setCell ⟨b2, n, none⟩ (.bool b)) B0 base b1 b2 N num (Tj.upd nbd n b) vQ q := by
  have hg := grownBy_setCell wr ⟨b2, n, none⟩ (.bool b)
  have hr := h.room
  have hl := h.low
  exact ⟨h.r1.kept hg (nsome h.ne), (h.r2.setTab n (.bool b)).tabEq (fun m _ => by simp only [Tj.upd]; split <;> rfl), owns_low h.oQ hg h.l2, h.l1, h.l2, h.ne, h.below.grown hg (by omega) (fun j hj => by injection hj with hj; simp at hj; omega), h.low, Nat.le_trans hr hg.size⟩

theorem Q2.push (h : Q2 w wr B0 base b1 b2 N num nbd vQ q) {w1 : World} {g cap n : Nat} (hg : wr.grownBy w1 vQ.ownBlock) (ho : w1.ownsRow base 3 1 (.slice (some ⟨g, 0, none⟩) (q.length + 1) cap) (q.length + 1) (q.map nv ++ [nv n])) :
    Q2 w w1 B0 base b1 b2 N num nbd (.slice (some ⟨g, 0, none⟩) (q.length + 1) cap) (q ++ [n]) := by
  have hlt : ∀ k, vQ.ownBlock = some k → base ≤ k := fun k hk => (h.oQ.lt k hk).1
  have hr := h.room
  have hl := h.low
  refine ⟨h.r1.kept hg (fun e => ?_), h.r2.kept hg (fun e => ?_), by simpa using ho, h.l1, h.l2, h.ne, h.below.grown hg (by omega) (fun j hj => ?_), h.low, Nat.le_trans hr hg.size⟩
  · have := hlt _ e.symm; have := h.l1; omega
  · have := hlt _ e.symm; have := h.l2; omega
  · have := hlt _ hj; omega

/-- the queue emptied: it is nil, or its row stays its own -/
theorem Q2.clear (h : Q2 w wr B0 base b1 b2 N num nbd vQ q) : (vQ = .slice none 0 0 ∧ Q2 w wr B0 base b1 b2 N num nbd (.slice none 0 0) []) ∨
    ∃ g cap, vQ = .slice (some ⟨g, 0, none⟩) q.length cap ∧ q.length ≤ cap ∧ cap ≤ maxLen ∧ Q2 w wr B0 base b1 b2 N num nbd (.slice (some ⟨g, 0, none⟩) 0 cap) [] := by
  rcases h.oQ.2 with ⟨h0, h1⟩ | ⟨g, cap, cur, h0, hb, hg, hc, hm, hs, htake⟩
  · left
    exact ⟨h0, h.r1, h.r2, World.ownsRow_nil _ _ _ _, h.l1, h.l2, h.ne, h.below, h.low, h.room⟩
  · right
    refine ⟨g, cap, h0, hc, hm, h.r1, h.r2, ?_, h.l1, h.l2, h.ne, h.below, h.low, h.room⟩
    have ho := h.oQ
    rw [h0] at ho
    simpa using owns_shrink ho (k := 0) (Nat.zero_le _)

theorem Q2.at (h : Q2 w wr B0 base b1 b2 N num nbd vQ q) {i : Nat} (hi : i < q.length) : ∃ g cap, vQ = .slice (some ⟨g, 0, none⟩) q.length cap ∧ wr.cell? ⟨g, i, none⟩ = some (nv (q.getD i 0)) := by
  obtain ⟨g, cap, he, _, _, _, _, hc, _⟩ := owns_open h.oQ (by omega)
  refine ⟨g, cap, he, hc i _ ?_⟩
  rw [List.getElem?_map, List.getElem?_eq_getElem hi, List.getD_eq_getElem?_getD, List.getElem?_eq_getElem hi]
  rfl
end

/-- a call that draws, reads, and answers a number -/
def ReadN (w : World) (n : Nat) (e : Ending) (w' : World) : Prop := e = .returned (.int .i64 (n : Int)) ∧ ∃ k, w' = w.drewN k

theorem drewN_drewN (w : World) (a b : Nat) : ∃ k, (w.drewN a).drewN b = w.drewN k := by
  induction b with
  | zero => exact ⟨a, rfl⟩
  | succ b ih =>
    obtain ⟨k, hk⟩ := ih
    exact ⟨k + 1, by show ((w.drewN a).drewN b).drew = (w.drewN k).drew; rw [hk]⟩

set_option maxRecDepth 100000 in
set_option maxHeartbeats 1000000 in
theorem gcd_any (w : World) (a b : Nat) (ha : a ≤ 262146) (hb : b ≤ 262146) : Calls Try.prog 45 #[.int .i64 (a : Int), .int .i64 (b : Int)] w (ReadN w (Nat.gcd a b)) := by
  go_enter Try.func45, Try.ntmps45
  go_wp2
  go_loopw [0, 1] (fun x y wr => ∃ a' b' k : Nat, x = .int .i64 (a' : Int) ∧ y = .int .i64 (b' : Int) ∧ Nat.gcd a' b' = Nat.gcd a b ∧ a' ≤ 262146 ∧ b' ≤ 262146 ∧ wr = w.drewN k) (fun _ y _ => (intOf y).toNat)
  case atStart => exact ⟨a, b, 0, rfl, rfl, rfl, ha, hb, rfl⟩
  case round =>
    obtain ⟨a', b', k, rfl, rfl, hg, ha', hb', rfl⟩ := hrel
    have Hg := hide hg
    clear hg
    by_cases h0 : b' = 0
    · subst h0
      have hn : ((0 : Int) != 0) = false := rfl
      have Hfin : Hid (ReadN w (Nat.gcd a b) (.returned (.int .i64 (a' : Int))) (w.drewN k)) := hide ⟨by rw [← Hg.out, Nat.gcd_zero_right], k, rfl⟩
      go_wp2
      go_ret
      exact Hfin.out
    · have hn : ((b' : Int) != 0) = true := bne_iff_ne.2 (by omega)
      have hn2 : (b' : Int) ≠ 0 := by omega
      have hrem : Int.tmod (a' : Int) (b' : Int) = ((a' % b' : Nat) : Int) := by rw [Int.ofNat_tmod]
      have hml : a' % b' ≤ 262146 := Nat.le_trans (Nat.le_of_lt (Nat.mod_lt _ (by omega))) hb'
      go_upto_region 2 with fail
      go_quiet (fail)
      go_wp2
      go_roundw
      case rel =>
        obtain ⟨k2, hk2⟩ := drewN_drewN w k nq
        exact ⟨b', a' % b', k2, rfl, by rw [Int.natCast_emod], by rw [← Hg.out, Nat.gcd_comm a' b', Nat.gcd_rec b' a', Nat.gcd_comm], hb', hml, hk2⟩
      case measure =>
        show ((a' : Int) % (b' : Int)).toNat < ((b' : Int)).toNat
        rw [← Int.natCast_emod, Int.toNat_natCast, Int.toNat_natCast]
        exact Nat.mod_lt _ (by omega)

set_option maxRecDepth 100000 in
set_option maxHeartbeats 1000000 in
theorem weight_any {w wr : World} {bg bst bs bx : Nat} {G : Tj.Gr} {kd : Nat → Nat} {most : Nat} {plain : Int} (hgm : GMem w bg bst bs G kd most plain) (hb : Below w.heap.size w wr) (hx : wr.cell? ⟨bx, 0, none⟩ = some (.pointer (some ⟨bg, 0, none⟩))) (n : Nat) :
    Calls Try.prog 43 #[.int .i64 (n : Int), .pointer (some ⟨bx, 0, none⟩)] wr fun e w' => e = .returned (.int .i64 (G.wt n : Int)) ∧ w' = wr := by
  have K := hide (hub_any hgm hb n)
  clear hgm hb
  unfold Tj.Gr.wt
  cases hp : G.pl n with
  | true =>
    rw [hp] at K
    go_enter Try.func43, Try.ntmps43
    go_wp2_with fail
    refine Calls.mono (Hid.out K) ?_
    rintro e w1 ⟨rfl, hw⟩
    subst w1
    clear K
    go_wp2
    go_ret
    exact ⟨rfl, rfl⟩
  | false =>
    rw [hp] at K
    go_enter Try.func43, Try.ntmps43
    go_wp2_with fail
    refine Calls.mono (Hid.out K) ?_
    rintro e w1 ⟨rfl, hw⟩
    subst w1
    clear K
    go_wp2
    go_ret
    exact ⟨rfl, rfl⟩

/-- what from hands back -/
def FromOut (w : World) (bs : Nat) (a b M : Nat) (e : Ending) (w' : World) : Prop :=
  (∃ k, w' = w.drewN k) ∧ ∃ x c, e = .returned (.slice (some x) (b - a) c) ∧ (a < b → x = ⟨bs, a * 6, none⟩)

set_option maxRecDepth 100000 in
set_option maxHeartbeats 1000000 in
theorem from_any {w wr : World} {bg bst bs : Nat} {G : Tj.Gr} {kd : Nat → Nat} {most : Nat} {plain : Int} (hgm : GMem w bg bst bs G kd most plain) (hb : Below w.heap.size w wr) {n : Nat} (hn : n < G.N) :
    Calls Try.prog 44 #[.pointer (some ⟨bg, 0, none⟩), .int .i64 (n : Int)] wr (FromOut wr bs (G.st n) (G.st (n + 1)) G.M) := by
  obtain ⟨l, hl0, hl1, hl2, hl3⟩ := hgm.cg
  have cg0 : wr.cell? ⟨bg, 0, none⟩ = some (.slice (some ⟨bst, 0, none⟩) (G.N + 1) (G.N + 1)) := by
    rw [hb.cell (p := ⟨bg, 0, none⟩) hl0.lt, hl0.cell]; exact hl1
  have cg2 : wr.cell? ⟨bg, 2, none⟩ = some (.slice (some ⟨bs, 0, none⟩) G.M G.M) := by
    rw [hb.cell (p := ⟨bg, 2, none⟩) hl0.lt, hl0.cell]; exact hl2
  have c1 : wr.cell? ⟨bst, n, none⟩ = some (.int .i64 (G.st n : Int)) := by
    rw [hb.cell (p := ⟨bst, n, none⟩) hgm.lst]; exact hgm.cst n (by omega)
  have c2 : wr.cell? ⟨bst, n + 1, none⟩ = some (.int .i64 (G.st (n + 1) : Int)) := by
    rw [hb.cell (p := ⟨bst, n + 1, none⟩) hgm.lst]; exact hgm.cst (n + 1) (by omega)
  have h1 := hgm.valid.mono n hn
  have h2 := hgm.valid.le (n + 1) (by omega)
  have hsm := hgm.small
  have hni : (n : Int) < (G.N : Int) + 1 := by omega
  have hni1 : (n : Int) + 1 < (G.N : Int) + 1 := by omega
  clear hl0 hl1 hl2 hl3 hgm hb
  generalize G.st n = a at *
  generalize G.st (n + 1) = b at *
  generalize G.M = M at *
  go_enter Try.func44, Try.ntmps44
  go_upto_region 1 with fail
  go_quiet (fail)
  go_wp2
  all_goals
    go_ret
    refine ⟨⟨_, rfl⟩, _, _, rfl, fun h => ?_⟩
    first
      | rfl
      | omega
end Go.Proofs.Qxb6602044a
