import Derived.Test.Qxb6602044aMe
import Derived.Test.Qxb6602044aProg
import Derived.RegionTactic
import Derived.BigRegion
import Derived.Deep.DeepCutAuto
import Derived.Deep.RegionLaw
namespace Go.Proofs.Qxb6602044a
open Go.RowKit
set_option linter.unusedVariables false

theorem Try.inf3 : (Try.prog.info? 3).map (fun i => (i.zero, i.size, i.bytes)) = some (some (.int .i64 0), 1, 8) := by kernel_rfl
theorem Try.inf90 : (Try.prog.info? 90).map (fun i => (i.zero, i.size, i.bytes)) = some (some (.agg #[.int .i64 0, .int .i64 0]), 2, 16) := by kernel_rfl

/-- the graph as it lies in memory -/
structure GMem (w : World) (bg bst bs : Nat) (G : Tj.Gr) (kd : Nat → Nat) (most : Nat) (plain : Int) : Prop where
  cg : ∃ l, Row w bg 86 l ∧ l[0]? = some (.slice (some ⟨bst, 0, none⟩) (G.N + 1) (G.N + 1)) ∧ l[2]? = some (.slice (some ⟨bs, 0, none⟩) G.M G.M) ∧ l[4]? = some (.int .i64 plain)
  cst : ∀ n, n ≤ G.N → w.cell? ⟨bst, n, none⟩ = some (nv (G.st n))
  cto : ∀ i, i < G.M → w.cell? ⟨bs, i * 6 + 1, none⟩ = some (nv (G.to i))
  ckd : ∀ i, i < G.M → w.cell? ⟨bs, i * 6 + 2, none⟩ = some (.int .u8 (kd i : Int))
  cfr : ∀ i, i < G.M → w.cell? ⟨bs, i * 6, none⟩ = some (.int .i64 0) ∧ w.cell? ⟨bs, i * 6 + 3, none⟩ = some (.string ⟨#[]⟩) ∧ w.cell? ⟨bs, i * 6 + 4, none⟩ = some (.bool false) ∧ w.cell? ⟨bs, i * 6 + 5, none⟩ = some (.int .u8 0)
  ok : ∀ i, G.ok i = decide (kd i ≤ most)
  pl : ∀ n, G.pl n = decide ((n : Int) < plain)
  lst : bst < w.heap.size
  lbs : bs < w.heap.size
  small : G.N ≤ 131072 ∧ G.M ≤ 131072
  valid : G.Valid

theorem Mem.vis {w wr : World} {B N bg : Nat} {s : Tj.St} {vS vP vZ : Value} (h : Mem w wr B N bg s vS vP vZ) (l : List Nat) : Mem w wr B N bg { s with vis := l } vS vP vZ :=
  ⟨h.b0, h.b1, h.b2, h.b3, h.b4, h.b5, h.b6, h.b7, h.b8, h.b9, h.b10, h.oS, h.oP, h.oZ, h.sp, h.sz, h.pz, h.below, h.room⟩

/-- the search's state lies in memory, whatever its growing rows are called -/
def Lies (w wr : World) (bg : Nat) (N : Nat) (s : Tj.St) (vZ : Value) : Prop := ∃ vS vP, Mem w wr w.heap.size N bg s vS vP vZ

def VisitOut (w : World) (bg N : Nat) (s : Tj.St) (vZ : Value) (e : Ending) (w' : World) : Prop := e = .returned (.tuple #[]) ∧ Lies w w' bg N s vZ

set_option maxRecDepth 100000 in
set_option maxHeartbeats 4000000 in
theorem visit_any {w wr : World} {bg bst bs : Nat} {G : Tj.Gr} {kd : Nat → Nat} {most : Nat} {plain : Int} (hgm : GMem w bg bst bs G kd most plain) {s : Tj.St} {vZ : Value} (hl : Lies w wr bg G.N s vZ)
    {r : Nat} (hr : r < G.N) (hre : s.reached < 131072) (hst : s.stack.length ≤ 131072) (hpa : s.path.length ≤ 131072) :
    Calls Try.prog 41 #[.int .i64 (r : Int), .pointer (some ⟨w.heap.size + 10, 0, none⟩), .pointer (some ⟨w.heap.size + 3, 0, none⟩), .pointer (some ⟨w.heap.size + 5, 0, none⟩), .pointer (some ⟨w.heap.size + 8, 0, none⟩), .pointer (some ⟨w.heap.size + 7, 0, none⟩), .pointer (some ⟨w.heap.size + 9, 0, none⟩), .pointer (some ⟨w.heap.size, 0, none⟩)] wr
      (VisitOut w bg G.N (Tj.visit G s r) vZ) := by
  obtain ⟨vS, vP, hm⟩ := hl
  obtain ⟨l, hl0, hl1, hl2, hl3⟩ := hgm.cg
  have Hgm := hide hgm
  clear hgm
  have Hl := hide (And.intro hl0 hl1)
  clear hl0 hl1 hl2 hl3
  generalize hN : G.N = N at hm hr Hl
  have HN := hide hN
  clear hN
  have HM := hide hm
  have hri : (r : Int) < (N : Int) := by omega
  go_enter Try.func41, Try.ntmps41
  have c10 : wr.cell? ⟨w.heap.size + 10, 0, none⟩ = some (.int .i64 (s.reached : Int)) := by rw [hm.b10.cell]; rfl
  have f10 := hm.b10.frozen 0
  go_upto_region 1 with fail
  have hm1 : Mem w (wr.setCell ⟨w.heap.size + 10, 0, none⟩ (.int .i64 ((s.reached : Int) + 1))) w.heap.size N bg { s with reached := s.reached + 1 } vS vP vZ := hm.reach (s.reached + 1)
  clear c10 f10 hm HM
  generalize wr.setCell ⟨w.heap.size + 10, 0, none⟩ (.int .i64 ((s.reached : Int) + 1)) = w1 at hm1
  have c3 : w1.cell? ⟨w.heap.size + 3, 0, none⟩ = some (.slice (some ⟨w.heap.size + 2, 0, none⟩) N N) := by rw [hm1.b3.cell]; rfl
  have c5 : w1.cell? ⟨w.heap.size + 5, 0, none⟩ = some (.slice (some ⟨w.heap.size + 4, 0, none⟩) N N) := by rw [hm1.b5.cell]; rfl
  have c10 : w1.cell? ⟨w.heap.size + 10, 0, none⟩ = some (.int .i64 ((s.reached : Int) + 1)) := by rw [hm1.b10.cell]; rfl
  have c2 : ∃ x, w1.cell? ⟨w.heap.size + 2, r, none⟩ = some x := ⟨_, hm1.b2.cellTab hr⟩
  have c4 : ∃ x, w1.cell? ⟨w.heap.size + 4, r, none⟩ = some x := ⟨_, hm1.b4.cellTab hr⟩
  obtain ⟨x2, c2⟩ := c2
  obtain ⟨x4, c4⟩ := c4
  have f2 := hm1.b2.frozen r
  have f4 := hm1.b4.frozen r
  have Hm1 := hide hm1
  clear hm1
  go_cut [] (fun wx => Mem w wx w.heap.size N bg { s with reached := s.reached + 1, idx := Tj.upd s.idx r (s.reached + 1), low := Tj.upd s.low r (s.reached + 1) } vS vP vZ)
  case first =>
    go_region
    all_goals
      go_wp2_with fail
      go_meet
      first
        | exact ((Hm1.out.idx r (s.reached + 1)).low r (s.reached + 1)).drew
        | exact ((Hm1.out.low r (s.reached + 1)).idx r (s.reached + 1)).drew
  case rest =>
    clear c3 c5 c10 c2 c4 f2 f4 Hm1
    clear x2 x4 w1
    have hm2 := hcut.alloc (.cells #[.int .i64 (r : Int)] 3)
    have c8 : wc.cell? ⟨w.heap.size + 8, 0, none⟩ = some vS := by rw [hcut.b8.cell]; rfl
    have hnb : (wc.alloc (.cells #[.int .i64 (r : Int)] 3)).heap[wc.heap.size]? = some (.cells #[.int .i64 (r : Int)] 3 (0, 0)) := heap_alloc_new _ _
    have hroom := hcut.room
    have Hnb := hide hnb
    have Hm2 := hide hm2
    clear hcut hm2 hnb
    obtain ⟨i0, hi, hz0, hz1, hz2⟩ := info_parts Try.inf3
    go_upto_region 4 with (at_builtin; refine wpList_append_lies (wc.alloc (.cells #[.int .i64 (r : Int)] 3)) (by rfl) _ _ 22 (by rfl) (w.heap.size + 11) 3 i0 (.int .i64 0) 1 8 Try.underlying22 hi hz0 hz1 hz2 rfl (by decide) vS s.stack.length _ (by rfl) Hm2.out.oS ⟨wc.heap.size, 0, none⟩ 1 1 [.int .i64 (r : Int)] (by rfl) rfl (World.news_of_block Hnb.out) (by simp [Value.oneCell']) (by omega) (by unfold maxLen; omega) (by omega) (by simp; omega) (wc.heap.size + 1) (by simp) ?_; intro g cap w4 hown4 hgrow4 hloc hglt; have hfix := hide (Hm2.out.fix.grown hgrow4 (fun k hk => (Hm2.out.oS.lt k hk).1)); have d8 : w4.cell? ⟨w.heap.size + 8, 0, none⟩ = some vS := (by rw [hfix.out.b8.cell]; rfl); have e8 := hfix.out.b8.frozen 0; have d7 : w4.cell? ⟨w.heap.size + 7, 0, none⟩ = some (.slice (some ⟨w.heap.size + 6, 0, none⟩) N N) := (by rw [hfix.out.b7.cell]; rfl); have d6 := hfix.out.b6.cellTab hr; have e6 := hfix.out.b6.frozen r; have Hp := hide (Hm2.out.pushS (n := r) hgrow4 hown4 (by simpa using hloc)); clear hown4 hgrow4 hloc hglt hfix)
    have hm5 := Hp.out.on r true
    clear d8 e8 d7 d6 e6 Hp Hm2 Hnb c8 hi hz0 hz1 hz2
    generalize (w4.setCell ⟨w.heap.size + 8, 0, none⟩ (.slice (some ⟨g, 0, none⟩) (s.stack.length + 1) cap)).setCell ⟨w.heap.size + 6, r, none⟩ (.bool true) = w5 at hm5
    have c9 : w5.cell? ⟨w.heap.size + 9, 0, none⟩ = some vP := by rw [hm5.b9.cell]; rfl
    have f9 := hm5.b9.frozen 0
    have c0 : w5.cell? ⟨w.heap.size, 0, none⟩ = some (.pointer (some ⟨bg, 0, none⟩)) := by rw [hm5.b0.cell]; rfl
    have cg : w5.cell? ⟨bg, 0, none⟩ = some (.slice (some ⟨bst, 0, none⟩) (N + 1) (N + 1)) := by
      rw [hm5.below.cell (p := ⟨bg, 0, none⟩) Hl.out.1.lt, Hl.out.1.cell]; exact Hl.out.2
    have cst : w5.cell? ⟨bst, r, none⟩ = some (.int .i64 (G.st r : Int)) := by
      rw [hm5.below.cell (p := ⟨bst, r, none⟩) Hgm.out.lst]; exact Hgm.out.cst r (by have := HN.out; omega)
    have hri1 : (r : Int) < (N : Int) + 1 := by omega
    obtain ⟨i0, hi, hz0, hz1, hz2⟩ := info_parts Try.inf90
    have hm6 := (hm5.alloc (.cells #[.int .i64 (r : Int), .int .i64 (G.st r : Int)] 90)).drew
    have c9a : (w5.alloc (.cells #[.int .i64 (r : Int), .int .i64 (G.st r : Int)] 90)).drew.cell? ⟨w.heap.size + 9, 0, none⟩ = some vP := by rw [hm6.b9.cell]; rfl
    have hnb : (w5.alloc (.cells #[.int .i64 (r : Int), .int .i64 (G.st r : Int)] 90)).drew.heap[w5.heap.size]? = some (.cells #[.int .i64 (r : Int), .int .i64 (G.st r : Int)] 90 (0, 0)) := heap_alloc_new _ _
    have Hnb := hide hnb
    have hroom5 := hm5.room
    have hs6 : (w5.alloc (.cells #[.int .i64 (r : Int), .int .i64 (G.st r : Int)] 90)).drew.heap.size = w5.heap.size + 1 := by simp [World.drew]
    have Hm6 := hide hm6
    clear hm5 hm6 hnb
    clear w4
    go_region_law (refine step_append_lies ((w5.alloc (.cells #[.int .i64 (r : Int), .int .i64 (G.st r : Int)] 90)).drew) rfl (.tmp 26) (.tmp 36) 88 rfl (w.heap.size + 11) 90 i0 _ 2 16 Try.underlying88 hi hz0 hz1 hz2 rfl (by decide) vP s.path.length _ (by simp [Act.eval]) Hm6.out.oP ⟨w5.heap.size, 0, none⟩ 1 1 [.int .i64 (r : Int), .int .i64 (G.st r : Int)] (by simp [Act.eval]) rfl (World.news_of_block Hnb.out) (by simp [Value.oneCell']) (by omega) (by unfold maxLen; omega) (by omega) (by rw [hs6]; omega) (w5.heap.size + 1) hs6 ?_; intro g2 cap2 w7 hown7 hgrow7 hloc7 hglt7; have hfix := hide (Hm6.out.fix.grown hgrow7 (fun k hk => (Hm6.out.oP.lt k hk).1)); have d9 : w7.cell? ⟨w.heap.size + 9, 0, none⟩ = some vP := (by rw [hfix.out.b9.cell]; rfl); have e9 := hfix.out.b9.frozen 0; have Hp := hide (Hm6.out.pushP (n := r) (i := G.st r) hgrow7 hown7 (by rw [hs6]; exact hloc7)); clear hown7 hgrow7 hloc7 hglt7 hfix)
    all_goals
      go_wp2
      go_end0
      exact ⟨rfl, _, _, Hp.out.vis (r :: s.vis)⟩
end Go.Proofs.Qxb6602044a
