import Derived.Test.Qxb6602044aV1
import Derived.Test.Qxb6602044aMe2
import Derived.Test.Qxb6602044aTj3
import Derived.Deep.LoopGhost
import Derived.Deep.QuietTactic
import Derived.BigQuiet
import Derived.BigFrame
import Derived.Laws.ByValue
namespace Go.Proofs.Qxb6602044a
open Go.RowKit
set_option linter.unusedVariables false

theorem Try.inf4 : (Try.prog.info? 4).map (fun i => (i.zero, i.size, i.bytes)) = some (some (.bool false), 1, 1) := by kernel_rfl

theorem mkInts (n : Nat) (hn : n ≤ 1048576) (w : World) : (Instr.makeSlice 22 (.int .i64 (n : Int)) (.int .i64 (n : Int))).run Try.prog w =
    .ok (.slice (some ⟨w.heap.size, 0, none⟩) n n) (w.alloc (.cells (List.replicate n (.int .i64 0)).toArray 3)) := by
  obtain ⟨i0, hi, hz0, hz1, hz2⟩ := info_parts Try.inf3
  have h := run_make (P := Try.prog) w 22 3 i0 _ Try.underlying22 hi hz0 .i64 .i64 (n : Int) (n : Int) (by omega) (Int.le_refl _) (by rw [hz2]; omega) (by omega)
  rw [h, hz1, Nat.mul_one, Int.toNat_natCast, madeCells_replicate _ _ rfl]

theorem mkBools (n : Nat) (hn : n ≤ 1048576) (w : World) : (Instr.makeSlice 54 (.int .i64 (n : Int)) (.int .i64 (n : Int))).run Try.prog w =
    .ok (.slice (some ⟨w.heap.size, 0, none⟩) n n) (w.alloc (.cells (List.replicate n (.bool false)).toArray 4)) := by
  obtain ⟨i0, hi, hz0, hz1, hz2⟩ := info_parts Try.inf4
  have h := run_make (P := Try.prog) w 54 4 i0 _ Try.underlying54 hi hz0 .i64 .i64 (n : Int) (n : Int) (by omega) (Int.le_refl _) (by rw [hz2]; omega) (by omega)
  rw [h, hz1, Nat.mul_one, Int.toNat_natCast, madeCells_replicate _ _ rfl]

theorem tab_replicate (n : Nat) (v : Value) : List.replicate n v = Tab n (fun _ => v) := by
  unfold Tab
  rw [List.map_const', List.length_range]

set_option maxRecDepth 100000 in
set_option maxHeartbeats 1000000 in
theorem nodes_any {w wr : World} {bg bst bs : Nat} {G : Tj.Gr} {kd : Nat → Nat} {most : Nat} {plain : Int} (hgm : GMem w bg bst bs G kd most plain) (hb : Below w.heap.size w wr) :
    Calls Try.prog 40 #[.pointer (some ⟨bg, 0, none⟩)] wr fun e w' => e = .returned (.int .i64 (G.N : Int)) ∧ w' = wr := by
  obtain ⟨l, hl0, hl1, hl2, hl3⟩ := hgm.cg
  have hs := hgm.small.1
  have cg : wr.cell? ⟨bg, 0, none⟩ = some (.slice (some ⟨bst, 0, none⟩) (G.N + 1) (G.N + 1)) := by
    rw [hb.cell (p := ⟨bg, 0, none⟩) hl0.lt, hl0.cell]; exact hl1
  clear hl0 hl1 hl2 hl3 hgm
  go_enter Try.func40, Try.ntmps40
  go_wp2
  go_ret
  exact ⟨rfl, rfl⟩

set_option maxRecDepth 100000 in
set_option maxHeartbeats 1000000 in
theorem hub_any {w wr : World} {bg bst bs : Nat} {G : Tj.Gr} {kd : Nat → Nat} {most : Nat} {plain : Int} (hgm : GMem w bg bst bs G kd most plain) (hb : Below w.heap.size w wr) (n : Nat) :
    Calls Try.prog 42 #[.pointer (some ⟨bg, 0, none⟩), .int .i64 (n : Int)] wr fun e w' => e = .returned (.bool (!(G.pl n))) ∧ w' = wr := by
  obtain ⟨l, hl0, hl1, hl2, hl3⟩ := hgm.cg
  have cg : wr.cell? ⟨bg, 4, none⟩ = some (.int .i64 plain) := by
    rw [hb.cell (p := ⟨bg, 4, none⟩) hl0.lt, hl0.cell]; exact hl3
  rw [hgm.pl n]
  clear hl0 hl1 hl2 hl3 hgm
  by_cases h : (n : Int) < plain
  · rw [decide_eq_true h]
    have h' : decide (plain ≤ (n : Int)) = false := decide_eq_false (by omega)
    go_enter Try.func42, Try.ntmps42
    go_wp2
    go_ret
    exact ⟨by first | rfl | exact congrArg (fun b => Ending.returned (Value.bool b)) h', rfl⟩
  · rw [decide_eq_false h]
    have h' : decide (plain ≤ (n : Int)) = true := decide_eq_true (by omega)
    go_enter Try.func42, Try.ntmps42
    go_wp2
    go_ret
    exact ⟨by first | rfl | exact congrArg (fun b => Ending.returned (Value.bool b)) h', rfl⟩

theorem Row.newAt {w : World} {e : TypeId} {l : List Value} {b : Nat} {cs : Array Value} (hb : w.heap.size = b) (hc : cs = l.toArray) : Row (w.alloc (.cells cs e)) b e l := by
  subst hb hc; exact Row.new w e l

theorem mem_init (w : World) (bg N : Nat) : Mem w (((((((((((w.alloc (.cells #[.pointer (some ⟨bg, 0, none⟩)] 50)).alloc (.cells (Array.replicate N (.int .i64 0)) 3)).alloc (.cells (Array.replicate N (.int .i64 0)) 3)).alloc (.cells #[.slice (some ⟨w.heap.size + 2, 0, none⟩) N N] 22)).alloc
    (.cells (Array.replicate N (.int .i64 0)) 3)).alloc (.cells #[.slice (some ⟨w.heap.size + 4, 0, none⟩) N N] 22)).alloc (.cells (Array.replicate N (.bool false)) 4)).alloc (.cells #[.slice (some ⟨w.heap.size + 6, 0, none⟩) N N] 54)).alloc
    (.cells #[.slice none 0 0] 22)).alloc (.cells #[.slice none 0 0] 88)).alloc (.cells #[.int .i64 0] 3)) w.heap.size N bg (Tj.init (fun _ => 0)) (.slice none 0 0) (.slice none 0 0) (.slice none 0 0) := by
  have hrep : ∀ (v : Value), Array.replicate N v = (Tab N (fun _ => v)).toArray := fun v => by rw [← tab_replicate]; simp
  have far0 : Far (.slice none 0 0) (.slice none 0 0) := fun g h => by simp [Value.ownBlock] at h
  refine ⟨?_, ?_, ?_, ?_, ?_, ?_, ?_, ?_, ?_, ?_, ?_, World.ownsRow_nil _ _ _ _, World.ownsRow_nil _ _ _ _, World.ownsRow_nil _ _ _ _, far0, far0, far0, ?_, ?_⟩
  · exact (((((((((((Row.newAt (by simp) rfl).alloc _).alloc _).alloc _).alloc _).alloc _).alloc _).alloc _).alloc _).alloc _).alloc _)
  · exact ((((((((((Row.newAt (by simp) (hrep _)).alloc _).alloc _).alloc _).alloc _).alloc _).alloc _).alloc _).alloc _).alloc _)
  · exact (((((((((Row.newAt (by simp) (hrep _)).alloc _).alloc _).alloc _).alloc _).alloc _).alloc _).alloc _).alloc _)
  · exact ((((((((Row.newAt (by simp) rfl).alloc _).alloc _).alloc _).alloc _).alloc _).alloc _).alloc _)
  · exact (((((((Row.newAt (by simp) (hrep _)).alloc _).alloc _).alloc _).alloc _).alloc _).alloc _)
  · exact ((((((Row.newAt (by simp) rfl).alloc _).alloc _).alloc _).alloc _).alloc _)
  · exact (((((Row.newAt (by simp) (hrep _)).alloc _).alloc _).alloc _).alloc _)
  · exact ((((Row.newAt (by simp) rfl).alloc _).alloc _).alloc _)
  · exact (((Row.newAt (by simp) rfl).alloc _).alloc _)
  · exact ((Row.newAt (by simp) rfl).alloc _)
  · exact (Row.newAt (by simp) rfl)
  · exact (((((((((((Below.refl w.heap.size w).alloc (by simp <;> omega) _).alloc (by simp <;> omega) _).alloc (by simp <;> omega) _).alloc (by simp <;> omega) _).alloc (by simp <;> omega) _).alloc (by simp <;> omega) _).alloc (by simp <;> omega) _).alloc (by simp <;> omega) _).alloc (by simp <;> omega) _).alloc (by simp <;> omega) _).alloc (by simp <;> omega) _
  · simp

/-- what the search hands back -/
def CompOut (w : World) (G : Tj.Gr) (e : Ending) (w' : World) : Prop :=
  ∃ cmp size vZ, e = .returned (.tuple #[.slice (some ⟨w.heap.size + 1, 0, none⟩) G.N G.N, vZ]) ∧ Tj.Good G cmp size ∧ size.length ≤ G.N ∧ Row w' (w.heap.size + 1) 3 (Tab G.N (fun v => nv (cmp v))) ∧
    w'.ownsRow (w.heap.size + 11) 3 1 vZ size.length (size.map nv) ∧ Below w.heap.size w w'

def Outer (w : World) (bg : Nat) (G : Tj.Gr) (root : Nat) (vZ : Value) (wr : World) : Prop :=
  ∃ s, Tj.Inv G s ∧ s.path = [] ∧ (∀ v, v < root → s.idx v ≠ 0) ∧ Lies w wr bg G.N s vZ

def PopRel (w : World) (bg : Nat) (G : Tj.Gr) (t : Tj.St) (n : Nat) (tl : List (Nat × Nat)) (vP vZ : Value) (k : Nat) (wr : World) : Prop :=
  ∃ ps rest vS, t.stack = ps ++ rest ∧ n ∉ ps ∧ n ∈ rest ∧ rest.length = k ∧ Mem w wr w.heap.size G.N bg (Tj.popping G t ps rest tl) vS vP vZ

def Inner (w : World) (bg : Nat) (G : Tj.Gr) (root : Nat) (k : Nat) (vZ : Value) (wr : World) : Prop :=
  ∃ s, Tj.Inv G s ∧ Tj.mu G s ≤ k ∧ (∀ v, v < root → s.idx v ≠ 0) ∧ Lies w wr bg G.N s vZ

set_option maxRecDepth 100000 in
set_option maxHeartbeats 4000000 in
theorem comp_any {w : World} {bg bst bs : Nat} {G : Tj.Gr} {kd : Nat → Nat} {most : Nat} {plain : Int} (hgm : GMem w bg bst bs G kd most plain) (hmost : most < 256) (hkd : ∀ i, kd i < 256) :
    Calls Try.prog 33 #[.pointer (some ⟨bg, 0, none⟩), .int .u8 (most : Int)] w (CompOut w G) := by
  have Hgm := hide hgm
  have hsm := hgm.small
  have K40 := hide (nodes_any hgm ((Below.refl w.heap.size w).alloc (Nat.le_refl _) (.cells #[.pointer (some ⟨bg, 0, none⟩)] 50)))
  have hm1 := mkInts G.N (by omega)
  have hm2 := mkBools G.N (by omega)
  have hmf : ∀ (fn : Fn) (first cap : Array Value) (w : World), (Instr.makeFunc fn first cap).run Try.prog w = .ok (.func fn first cap) w := fun _ _ _ _ => rfl
  clear hgm
  go_enter Try.func33, Try.ntmps33
  go_wp2_with fail
  refine Calls.mono (Hid.out K40) ?_
  rintro e1 w1 ⟨rfl, hw⟩
  subst w1
  clear K40
  go_wp2
  simp only [Nat.add_assoc, Nat.reduceAdd]
  have hm0 := mem_init w bg G.N
  clear hm1 hm2 hmf
  generalize (((((((((((w.alloc (.cells #[.pointer (some ⟨bg, 0, none⟩)] 50)).alloc (.cells (Array.replicate G.N (.int .i64 0)) 3)).alloc (.cells (Array.replicate G.N (.int .i64 0)) 3)).alloc (.cells #[.slice (some ⟨w.heap.size + 2, 0, none⟩) G.N G.N] 22)).alloc
    (.cells (Array.replicate G.N (.int .i64 0)) 3)).alloc (.cells #[.slice (some ⟨w.heap.size + 4, 0, none⟩) G.N G.N] 22)).alloc (.cells (Array.replicate G.N (.bool false)) 4)).alloc (.cells #[.slice (some ⟨w.heap.size + 6, 0, none⟩) G.N G.N] 54)).alloc
    (.cells #[.slice none 0 0] 22)).alloc (.cells #[.slice none 0 0] 88)).alloc (.cells #[.int .i64 0] 3)) = w0 at hm0
  have Hm0 := hide hm0
  clear hm0
  go_loopg [5, 34] G.N (fun k z i wr => ∃ root : Nat, root + k = G.N ∧ i = .int .i64 (root : Int) ∧ Outer w bg G root z wr)
  case atStart => exact ⟨0, by omega, rfl, _, Tj.inv_init G _, rfl, fun v hv => absurd hv (by omega), _, _, Hm0.out⟩
  case round =>
    obtain ⟨root, hrk, rfl, hout⟩ := hrel
    clear Hm0
    obtain ⟨s, hinv, hpath, hvis, vS, vP, hm⟩ := hout
    by_cases hlt : root < G.N
    · have c3 : wr.cell? ⟨w.heap.size + 3, 0, none⟩ = some (.slice (some ⟨w.heap.size + 2, 0, none⟩) G.N G.N) := by rw [hm.b3.cell]; rfl
      have c2 : wr.cell? ⟨w.heap.size + 2, root, none⟩ = some (.int .i64 (s.idx root : Int)) := hm.b2.cellTab hlt
      have hlti : (root : Int) < (G.N : Int) := by omega
      by_cases hi0 : s.idx root = 0
      · have Hinv := hide hinv
        have Hpath := hide hpath
        have Hvis := hide hvis
        have Hi0 := hide hi0
        have hre := hinv.reached_lt hlt hi0
        have KV := hide (visit_any Hgm.out (s := s) (r := root) ⟨vS, vP, hm⟩ hlt (by omega) (Nat.le_trans hinv.stack_len hsm.1) (Nat.le_trans hinv.path_len hsm.1))
        have hnb : ((s.idx root : Int) != 0) = false := by rw [hi0]; rfl
        clear hinv hpath hi0 hm
        go_wp2_with fail
        refine Calls.mono (Hid.out KV) ?_
        rintro e1 w1 ⟨rfl, hl⟩
        have Hl := hide hl
        clear c3 c2 hl KV
        go_wp2
        clear hnb
        go_loopg [5] (Tj.mu G (Tj.visit G s root)) (fun k z wr => Inner w bg G (root + 1) k z wr)
        case atStart =>
          refine ⟨_, Tj.inv_visit Hgm.out.valid Hinv.out hlt Hi0.out (fun p hp => by rw [Hpath.out] at hp; cases hp), Nat.le_refl _, fun v hv => ?_, Hl.out⟩
          show Tj.upd s.idx root (s.reached + 1) v ≠ 0
          by_cases h : v = root
          · rw [h, Tj.upd_same]; omega
          · rw [Tj.upd_other _ _ h]; exact Hvis.out v (by omega)
        case round =>
          clear Hl Hinv Hpath Hvis Hi0 hre hvis
          obtain ⟨t, hinv, hmu, hvis, vS, vP, hm⟩ := hrel
          cases hp : t.path with
          | nil =>
            have hoP := hm.oP
            rw [hp] at hoP
            obtain ⟨a, cap, rfl⟩ := owns_form hoP
            have c9 : wr.cell? ⟨w.heap.size + 9, 0, none⟩ = some (.slice a 0 cap) := by rw [hm.b9.cell]; rfl
            have Hall := hide (And.intro hinv (And.intro hp (And.intro hvis hm)))
            clear hinv hvis hp hm hoP hmu
            go_wp2
            go_roundg (G.N - root - 1)
            case measure => omega
            case rel => exact ⟨root + 1, by omega, by go_num, t, Hall.out.1, Hall.out.2.1, Hall.out.2.2.1, _, _, Hall.out.2.2.2⟩
          | cons p tl =>
            obtain ⟨n, i⟩ := p
            obtain ⟨g, cap, rfl, hg1, hg2, hc1, hc2, ct0, ct1, cf1, cpar⟩ := hm.top hp
            have hnst := hinv.pathOn (n, i) (by rw [hp]; exact List.mem_cons_self)
            have hnN : n < G.N := hinv.stack_lt hnst
            have hpos := hinv.pathPos (n, i) (by rw [hp]; exact List.mem_cons_self)
            have htl : tl.length + 1 ≤ 131072 := by have := hinv.path_len; rw [hp] at this; simp at this; omega
            have hle := Hgm.out.valid.le (n + 1) (by omega)
            obtain ⟨lg, hlg0, hlg1, hlg2, hlg3⟩ := Hgm.out.cg
            have c9 : wr.cell? ⟨w.heap.size + 9, 0, none⟩ = some (.slice (some ⟨g, 0, none⟩) (tl.length + 1) cap) := by rw [hm.b9.cell]; rfl
            have c0 : wr.cell? ⟨w.heap.size, 0, none⟩ = some (.pointer (some ⟨bg, 0, none⟩)) := by rw [hm.b0.cell]; rfl
            have cg0 : wr.cell? ⟨bg, 0, none⟩ = some (.slice (some ⟨bst, 0, none⟩) (G.N + 1) (G.N + 1)) := by
              rw [hm.below.cell (p := ⟨bg, 0, none⟩) hlg0.lt, hlg0.cell]; exact hlg1
            have cg2 : wr.cell? ⟨bg, 2, none⟩ = some (.slice (some ⟨bs, 0, none⟩) G.M G.M) := by
              rw [hm.below.cell (p := ⟨bg, 2, none⟩) hlg0.lt, hlg0.cell]; exact hlg2
            have cst : wr.cell? ⟨bst, n + 1, none⟩ = some (.int .i64 (G.st (n + 1) : Int)) := by
              rw [hm.below.cell (p := ⟨bst, n + 1, none⟩) Hgm.out.lst]; exact Hgm.out.cst (n + 1) (by omega)
            replace ct0 : wr.cell? ⟨g, tl.length * 2, none⟩ = some (.int .i64 (n : Int)) := ct0
            replace ct1 : wr.cell? ⟨g, tl.length * 2 + 1, none⟩ = some (.int .i64 (i : Int)) := ct1
            simp only at hpos
            have hn1 : (n : Int) + 1 < (G.N : Int) + 1 := by omega
            by_cases hstep : i < G.st (n + 1)
            · have hiM : i < G.M := by omega
              have hiMi : (i : Int) < (G.M : Int) := by omega
              have hsi : (i : Int) < (G.st (n + 1) : Int) := by omega
              have cto : wr.cell? ⟨bs, i * 6 + 1, none⟩ = some (.int .i64 (G.to i : Int)) := by
                rw [hm.below.cell (p := ⟨bs, i * 6 + 1, none⟩) Hgm.out.lbs]; exact Hgm.out.cto i hiM
              have ckd : wr.cell? ⟨bs, i * 6 + 2, none⟩ = some (.int .u8 (kd i : Int)) := by
                rw [hm.below.cell (p := ⟨bs, i * 6 + 2, none⟩) Hgm.out.lbs]; exact Hgm.out.ckd i hiM
              obtain ⟨cx0, cx3, cx4, cx5⟩ := Hgm.out.cfr i hiM
              rw [← hm.below.cell (p := ⟨bs, i * 6, none⟩) Hgm.out.lbs] at cx0
              rw [← hm.below.cell (p := ⟨bs, i * 6 + 3, none⟩) Hgm.out.lbs] at cx3
              rw [← hm.below.cell (p := ⟨bs, i * 6 + 4, none⟩) Hgm.out.lbs] at cx4
              rw [← hm.below.cell (p := ⟨bs, i * 6 + 5, none⟩) Hgm.out.lbs] at cx5
              have htoN := Hgm.out.valid.ends i hiM
              have Hp := hide hp
              have Hm := hide hm
              have Hinv := hide hinv
              have Hvis := hide hvis
              have Hmu := hide hmu
              have Hle := hide hle
              clear hp hm hinv hvis hmu hle hlg0 hlg1 hlg2 hlg3 cpar hpos
              go_upto_region 18 with fail
              go_quiet (fail)
              go_upto_region 19 with fail
              have hm2 : Mem w (wr.drewN nq) w.heap.size G.N bg t vS (.slice (some ⟨g, 0, none⟩) (tl.length + 1) cap) u5 := Hm.out.grown ⟨rfl, rfl, rfl, Nat.le_refl _, fun _ _ _ => rfl⟩
              have hcq : ∀ p, (wr.drewN nq).cell? p = wr.cell? p := fun _ => rfl
              have hfq : ∀ p, (wr.drewN nq).frozen? p = wr.frozen? p := fun _ => rfl
              have hgq : g < (wr.drewN nq).heap.size := hg2
              rw [← hcq] at c0 cg2 ct1 cx0 cto ckd cx3 cx4 cx5 cg0
              rw [← hfq] at cf1
              clear hcq hfq hg2 ct0 cst c9 Hm
              generalize wr.drewN nq = wq at hm2 c0 cg2 ct1 cx0 cto ckd cx3 cx4 cx5 cf1 cg0 hgq
              have Hm := hide hm2
              clear hm2
              have hA : ∀ p : Addr, p.block < wq.heap.size → (wq.alloc (.cells #[.int .i64 0, .int .i64 0, .int .u8 0, .string ⟨#[]⟩, .bool false, .int .u8 0] 82)).drew.cell? p = wq.cell? p := fun p hp =>
                (((Below.refl wq.heap.size wq).alloc (Nat.le_refl _) _).drew.cell hp)
              have hroom := Hm.out.room
              have hbl := Hm.out.below.size
              have hbg : bg < wq.heap.size := by have := World.block_lt_of_cell? wq ⟨bg, 0, none⟩ cg0; simpa using this
              have hbbs : bs < wq.heap.size := by have := World.block_lt_of_cell? wq ⟨bs, i * 6, none⟩ cx0; simpa using this
              have a0 := (hA ⟨w.heap.size, 0, none⟩ (by show w.heap.size < _; omega)).trans c0
              have a1 := (hA ⟨bg, 2, none⟩ hbg).trans cg2
              have a2 := (hA ⟨g, tl.length * 2 + 1, none⟩ hgq).trans ct1
              have a3 := (hA ⟨bs, i * 6, none⟩ hbbs).trans cx0
              have a4 := (hA ⟨bs, i * 6 + 1, none⟩ hbbs).trans cto
              have a5 := (hA ⟨bs, i * 6 + 2, none⟩ hbbs).trans ckd
              have a6 := (hA ⟨bs, i * 6 + 3, none⟩ hbbs).trans cx3
              have a7 := (hA ⟨bs, i * 6 + 4, none⟩ hbbs).trans cx4
              have a8 := (hA ⟨bs, i * 6 + 5, none⟩ hbbs).trans cx5
              clear hA
              go_cut [17] (fun v wx => ∃ b, v = .pointer (some ⟨b, 0, none⟩) ∧ Row wx b 82 [.int .i64 0, .int .i64 (G.to i : Int), .int .u8 (kd i : Int), .string ⟨#[]⟩, .bool false, .int .u8 0] ∧ wq.heap.size ≤ b ∧ Mem w wx w.heap.size G.N bg t vS (.slice (some ⟨g, 0, none⟩) (tl.length + 1) cap) u5)
              case first =>
                go_region
                all_goals
                  go_wp2_with fail
                  go_meet
                  refine ⟨wq.heap.size, rfl, ?_, Nat.le_refl _, ?_⟩
                  · exact (Row.newAt rfl rfl).drew
                  · exact (Hm.out.alloc _).drew
              case rest =>
                clear a0 a1 a2 a3 a4 a5 a6 a7 a8 c0 cg2 ct1 cx0 cto ckd cx3 cx4 cx5 cf1 cg0 Hm
                obtain ⟨b, rfl, hrow, hbb, hmc⟩ := hcut
                obtain ⟨_, d1, d2⟩ := hmc.topAt Hp.out
                replace d1 : wc.cell? ⟨g, tl.length * 2 + 1, none⟩ = some (.int .i64 (i : Int)) := d1
                have hgb : g ≠ b := by omega
                have Hrow := hide hrow
                have Hmc := hide hmc
                clear hrow hmc
                go_upto_region 21 with fail
                have hm3 : Mem w (wc.setCell ⟨g, tl.length * 2 + 1, none⟩ (.int .i64 ((i : Int) + 1))) w.heap.size G.N bg { t with path := (n, i + 1) :: tl } vS (.slice (some ⟨g, 0, none⟩) (tl.length + 1) cap) u5 := Hmc.out.stepP Hp.out (i + 1)
                have hrow3 := Hrow.out.other ⟨g, tl.length * 2 + 1, none⟩ (.int .i64 ((i : Int) + 1)) (by show b ≠ g; omega)
                clear d1 d2 Hmc Hrow
                generalize wc.setCell ⟨g, tl.length * 2 + 1, none⟩ (.int .i64 ((i : Int) + 1)) = w3 at hm3 hrow3
                have e1 : w3.cell? ⟨b, 1, none⟩ = some (.int .i64 (G.to i : Int)) := by rw [hrow3.cell]; rfl
                have e2 : w3.cell? ⟨b, 2, none⟩ = some (.int .u8 (kd i : Int)) := by rw [hrow3.cell]; rfl
                have c3 : w3.cell? ⟨w.heap.size + 3, 0, none⟩ = some (.slice (some ⟨w.heap.size + 2, 0, none⟩) G.N G.N) := by rw [hm3.b3.cell]; rfl
                have c2 : w3.cell? ⟨w.heap.size + 2, G.to i, none⟩ = some (.int .i64 (t.idx (G.to i) : Int)) := hm3.b2.cellTab htoN
                have c7 : w3.cell? ⟨w.heap.size + 7, 0, none⟩ = some (.slice (some ⟨w.heap.size + 6, 0, none⟩) G.N G.N) := by rw [hm3.b7.cell]; rfl
                have c6 : w3.cell? ⟨w.heap.size + 6, G.to i, none⟩ = some (.bool (t.on (G.to i))) := hm3.b6.cellTab htoN
                have htoi : (G.to i : Int) < (G.N : Int) := by omega
                have hok := Hgm.out.ok i
                by_cases hk : kd i ≤ most
                · rw [decide_eq_true hk] at hok
                  have Hok := hide hok
                  clear hok
                  have hki : ¬ ((most : Int) < (kd i : Int)) := by omega
                  by_cases hz : t.idx (G.to i) = 0
                  · have hzb : ((t.idx (G.to i) : Int) == 0) = true := by rw [hz]; rfl
                    have hre := Hinv.out.reached_lt htoN hz
                    have KV := hide (visit_any Hgm.out (s := { t with path := (n, i + 1) :: tl }) (r := G.to i) ⟨_, _, hm3⟩ htoN (by show t.reached < _; omega) (Nat.le_trans Hinv.out.stack_len hsm.1) htl)
                    have Hz := hide hz
                    clear hz hm3 hrow3
                    go_wp2_with fail
                    refine Calls.mono (Hid.out KV) ?_
                    rintro e1 w4 ⟨rfl, hl⟩
                    have Hl := hide hl
                    clear hl KV c3 c2 c7 c6 e1 e2
                    go_wp2
                    go_roundg (Tj.mu G (Tj.visit G { t with path := (n, i + 1) :: tl } (G.to i)))
                    case measure =>
                      refine Nat.lt_of_lt_of_le (Nat.lt_trans (Tj.mu_visit Hgm.out.valid htoN ?_) ?_) Hmu.out
                      · exact hre
                      · exact Tj.mu_advance (lo := t.low) Hp.out hstep
                    case rel =>
                      refine ⟨_, Hinv.out.visit_next Hgm.out.valid Hp.out hstep Hok.out hiM Hz.out, Nat.le_refl _, fun v hv => ?_, Hl.out⟩
                      show Tj.upd t.idx (G.to i) (t.reached + 1) v ≠ 0
                      by_cases h : v = G.to i
                      · rw [h, Tj.upd_same]; omega
                      · rw [Tj.upd_other _ _ h]; exact Hvis.out v hv
                  · have hzb : ((t.idx (G.to i) : Int) == 0) = false := beq_eq_false_iff_ne.2 (by omega)
                    have Hz := hide hz
                    cases hon : t.on (G.to i) with
                    | true =>
                      rw [hon] at c6
                      have c5 : w3.cell? ⟨w.heap.size + 5, 0, none⟩ = some (.slice (some ⟨w.heap.size + 4, 0, none⟩) G.N G.N) := by rw [hm3.b5.cell]; rfl
                      have c4 : w3.cell? ⟨w.heap.size + 4, n, none⟩ = some (.int .i64 (t.low n : Int)) := hm3.b4.cellTab hnN
                      have f4 := hm3.b4.frozen n
                      have hni : (n : Int) < (G.N : Int) := by omega
                      have Hm3 := hide hm3
                      have Hon := hide hon
                      clear hm3 hrow3 hz hon
                      go_upto_region 26 with fail
                      go_region
                      have hmin : (if t.idx (G.to i) < t.low n then (t.idx (G.to i) : Int) else (t.low n : Int)) = ((min (t.low n) (t.idx (G.to i)) : Nat) : Int) := by
                        split <;> omega
                      rw [hmin]
                      have hm4 := (Hm3.out.low n (min (t.low n) (t.idx (G.to i)))).drew
                      have Hm4 := hide hm4
                      clear hm4 hmin
                      go_wp2
                      go_roundg (Tj.mu G (Tj.advance t n i tl (Tj.upd t.low n (min (t.low n) (t.idx (G.to i))))))
                      case measure => exact Nat.lt_of_lt_of_le (Tj.mu_advance Hp.out hstep) Hmu.out
                      case rel => exact ⟨_, Tj.inv_advance Hinv.out Hp.out hstep (Hinv.out.looked_on Hp.out hstep Hok.out Hon.out), Nat.le_refl _, Hvis.out, _, _, Hm4.out⟩
                    | false =>
                      rw [hon] at c6
                      have Hm3 := hide hm3
                      have Hon := hide hon
                      clear hm3 hrow3 hz hon
                      go_wp2
                      go_roundg (Tj.mu G (Tj.advance t n i tl t.low))
                      case measure => exact Nat.lt_of_lt_of_le (Tj.mu_advance Hp.out hstep) Hmu.out
                      case rel =>
                        have ha := Tj.inv_advance Hinv.out Hp.out hstep (Hinv.out.looked_off Hp.out (fun _ => Hz.out) (fun _ => Hon.out))
                        rw [Tj.upd_self] at ha
                        exact ⟨_, ha, Nat.le_refl _, Hvis.out, _, _, Hm3.out⟩
                · rw [decide_eq_false hk] at hok
                  have Hok := hide hok
                  clear hok
                  have hki : (most : Int) < (kd i : Int) := by omega
                  have Hm3 := hide hm3
                  clear hm3 hrow3
                  go_wp2
                  go_roundg (Tj.mu G (Tj.advance t n i tl t.low))
                  case measure => exact Nat.lt_of_lt_of_le (Tj.mu_advance Hp.out hstep) Hmu.out
                  case rel =>
                    have ha := Tj.inv_advance Hinv.out Hp.out hstep (Hinv.out.looked_off Hp.out (fun e => by rw [Hok.out] at e; cases e) (fun e => by rw [Hok.out] at e; cases e))
                    rw [Tj.upd_self] at ha
                    exact ⟨_, ha, Nat.le_refl _, Hvis.out, _, _, Hm3.out⟩
            · have hfin : i = G.st (n + 1) := by omega
              have hsi : ¬ ((i : Int) < (G.st (n + 1) : Int)) := by omega
              have f9 := hm.b9.frozen 0
              have Hp := hide hp
              have Hm := hide hm
              have Hinv := hide hinv
              have Hvis := hide hvis
              have Hmu := hide hmu
              have Hfin := hide hfin
              clear hp hm hinv hvis hmu hle hlg0 hlg1 hlg2 hlg3 cpar hpos hfin hstep cg2
              go_upto_region 18 with fail
              go_quiet (fail)
              go_upto_region 28 with fail
              have hm1 : Mem w (wr.drewN nq) w.heap.size G.N bg t vS (.slice (some ⟨g, 0, none⟩) (tl.length + 1) cap) u5 := Hm.out.grown ⟨rfl, rfl, rfl, Nat.le_refl _, fun _ _ _ => rfl⟩
              have hm2 := hm1.popP Hp.out
              clear Hm hm1 c9 c0 cg0 cst ct0 ct1 cf1 f9
              generalize (wr.drewN nq).setCell ⟨w.heap.size + 9, 0, none⟩ (.slice (some ⟨g, 0, none⟩) tl.length cap) = w2 at hm2
              have c9 : w2.cell? ⟨w.heap.size + 9, 0, none⟩ = some (.slice (some ⟨g, 0, none⟩) tl.length cap) := by rw [hm2.b9.cell]; rfl
              have Hm2 := hide hm2
              clear hm2
              go_upto_if 129 with fail
              go_cut [] (fun wx => Mem w wx w.heap.size G.N bg { t with path := tl, low := Tj.leaveLow t n tl } vS (.slice (some ⟨g, 0, none⟩) tl.length cap) u5)
              case first =>
                cases tl with
                | nil =>
                  have c9' : w2.cell? ⟨w.heap.size + 9, 0, none⟩ = some (.slice (some ⟨g, 0, none⟩) 0 cap) := c9
                  clear c9
                  go_wp2
                  go_meet
                  exact Hm2.out
                | cons p tt =>
                  obtain ⟨m, j⟩ := p
                  have c9' : w2.cell? ⟨w.heap.size + 9, 0, none⟩ = some (.slice (some ⟨g, 0, none⟩) (tt.length + 1) cap) := c9
                  have hm2 := Hm2.out
                  have ct0 : w2.cell? ⟨g, tt.length * 2, none⟩ = some (.int .i64 (m : Int)) := (Mem.topAt (tl := tt) hm2 rfl).1
                  have c5 : w2.cell? ⟨w.heap.size + 5, 0, none⟩ = some (.slice (some ⟨w.heap.size + 4, 0, none⟩) G.N G.N) := by rw [hm2.b5.cell]; rfl
                  have hmN : m < G.N := Hinv.out.stack_lt (Hinv.out.pathOn (m, j) (by rw [Hp.out]; simp))
                  have c4n : w2.cell? ⟨w.heap.size + 4, n, none⟩ = some (.int .i64 (t.low n : Int)) := hm2.b4.cellTab hnN
                  have c4m : w2.cell? ⟨w.heap.size + 4, m, none⟩ = some (.int .i64 (t.low m : Int)) := hm2.b4.cellTab hmN
                  have f4 := hm2.b4.frozen m
                  have hni : (n : Int) < (G.N : Int) := by omega
                  have hmi : (m : Int) < (G.N : Int) := by omega
                  have htl' : tt.length + 1 + 1 ≤ 131072 := htl
                  have hc1' : tt.length + 1 + 1 ≤ cap := hc1
                  clear c9 hm2 htl hc1
                  have hpos1 : (0 : Int) < (tt.length : Int) + 1 := by omega
                  simp only [List.length_cons, Int.natCast_add, Int.cast_ofNat_Int]
                  go_wp2_with fail
                  go_region
                  have hmin : (if t.low n < t.low m then (t.low n : Int) else (t.low m : Int)) = ((min (t.low m) (t.low n) : Nat) : Int) := by
                    split <;> omega
                  rw [hmin]
                  have Hm4 := hide (Hm2.out.low m (min (t.low m) (t.low n))).drew
                  clear hmin
                  go_wp2
                  go_meet
                  exact Hm4.out
              case rest =>
                clear c9 Hm2
                have hni : (n : Int) < (G.N : Int) := by omega
                have c5 : wc.cell? ⟨w.heap.size + 5, 0, none⟩ = some (.slice (some ⟨w.heap.size + 4, 0, none⟩) G.N G.N) := by rw [hcut.b5.cell]; rfl
                have c3 : wc.cell? ⟨w.heap.size + 3, 0, none⟩ = some (.slice (some ⟨w.heap.size + 2, 0, none⟩) G.N G.N) := by rw [hcut.b3.cell]; rfl
                have c4 : wc.cell? ⟨w.heap.size + 4, n, none⟩ = some (.int .i64 (t.low n : Int)) := by
                  have := hcut.b4.cellTab hnN
                  simp only [Hinv.out.leaveLow_n Hp.out] at this
                  exact this
                have c2 : wc.cell? ⟨w.heap.size + 2, n, none⟩ = some (.int .i64 (t.idx n : Int)) := hcut.b2.cellTab hnN
                have Hm := hide hcut
                clear hcut
                by_cases hl : t.low n = t.idx n
                · have hneb : ((t.low n : Int) != (t.idx n : Int)) = false := by rw [hl]; simp
                  have hm3 := Hm.out
                  rw [Hinv.out.leaveLow_root Hp.out hl] at hm3
                  have Hl := hide hl
                  clear hl Hm
                  go_upto_region 31 with fail
                  go_quiet (fail)
                  go_upto_region 32 with fail
                  have hm4 : Mem w (wc.drewN nq) w.heap.size G.N bg { t with path := tl } vS (.slice (some ⟨g, 0, none⟩) tl.length cap) u5 := hm3.grown ⟨rfl, rfl, rfl, Nat.le_refl _, fun _ _ _ => rfl⟩
                  clear hm3 c5 c3 c4 c2
                  generalize wc.drewN nq = w5 at hm4
                  obtain ⟨az, cz, rfl⟩ : ∃ a c, u5 = .slice a t.size.length c := owns_form hm4.oZ
                  have hnb : (w5.alloc (.cells #[.int .i64 0] 3)).heap[w5.heap.size]? = some (.cells #[.int .i64 0] 3 (0, 0)) := heap_alloc_new _ _
                  have hroom5 := hm4.room
                  have hsz : t.size.length ≤ 131072 := Nat.le_trans Hinv.out.size_len hsm.1
                  have Hm5 := hide (hm4.alloc (.cells #[.int .i64 0] 3))
                  have Hnb := hide hnb
                  clear hm4 hnb
                  obtain ⟨i0, hi, hz0, hz1, hz2⟩ := info_parts Try.inf3
                  go_wp2_with (at_builtin; refine wpList_append_lies (w5.alloc (.cells #[.int .i64 0] 3)) (by rfl) _ _ 22 (by rfl) (w.heap.size + 11) 3 i0 (.int .i64 0) 1 8 Try.underlying22 hi hz0 hz1 hz2 rfl (by decide) (.slice az t.size.length cz) t.size.length _ (by rfl) Hm5.out.oZ ⟨w5.heap.size, 0, none⟩ 1 1 [.int .i64 0] (by rfl) rfl (World.news_of_block Hnb.out) (by simp [Value.oneCell']) (by omega) (by unfold maxLen; omega) (by omega) (by simp; omega) (w5.heap.size + 1) (by simp) ?_; intro gz cz2 w6 hown6 hgrow6 hloc6 hglt6; have Hm6 := hide (Hm5.out.pushZ (n := 0) hgrow6 hown6 (by simpa using hloc6)); clear hown6 hgrow6 hloc6 hglt6)
                  clear Hm5 Hnb hi hz0 hz1 hz2
                  go_loopg [21] t.stack.length (fun k _ wr => PopRel w bg G t n tl (.slice (some ⟨g, 0, none⟩) tl.length cap) (.slice (some ⟨gz, 0, none⟩) (t.size.length + 1) cz2) k wr)
                  case atStart =>
                    refine ⟨[], t.stack, vS, rfl, by simp, Hinv.out.pathOn (n, i) (by rw [Hp.out]; exact List.mem_cons_self), rfl, ?_⟩
                    rw [Tj.popping_nil]
                    exact Hm6.out
                  case round =>
                    clear Hm6
                    obtain ⟨ps, rest, vS2, hst, hnp, hnr, hk, hm⟩ := hrel
                    cases rest with
                    | nil => cases hnr
                    | cons m rest =>
                      obtain ⟨gs, cs, rfl, hgs1, hgs2, hcs1, hcs2, ctop⟩ := hm.topS rfl
                      replace ctop : wr.cell? ⟨gs, rest.length, none⟩ = some (.int .i64 (m : Int)) := ctop
                      have hmst : m ∈ t.stack := by rw [hst]; simp
                      have hmN : m < G.N := Hinv.out.stack_lt hmst
                      have hmi : (m : Int) < (G.N : Int) := by omega
                      have hrl : rest.length + 1 ≤ 131072 := by
                        have := Hinv.out.stack_len
                        rw [hst] at this
                        simp at this
                        omega
                      have hcnt : ps.countP G.pl ≤ 131072 := by
                        have := Hinv.out.stack_len
                        rw [hst] at this
                        simp at this
                        have h2 := List.countP_le_length (p := G.pl) (l := ps)
                        omega
                      have hmA := ((hm.popS rfl).on m false).cmp m t.size.length
                      have c8 : wr.cell? ⟨w.heap.size + 8, 0, none⟩ = some (.slice (some ⟨gs, 0, none⟩) (rest.length + 1) cs) := by rw [hm.b8.cell]; rfl
                      have f8 := hm.b8.frozen 0
                      have c7 : wr.cell? ⟨w.heap.size + 7, 0, none⟩ = some (.slice (some ⟨w.heap.size + 6, 0, none⟩) G.N G.N) := by rw [hm.b7.cell]; rfl
                      have c6 := hm.b6.cellTab hmN
                      have f6 := hm.b6.frozen m
                      have c1 := hm.b1.cellTab hmN
                      have f1 := hm.b1.frozen m
                      have c0 : wr.cell? ⟨w.heap.size, 0, none⟩ = some (.pointer (some ⟨bg, 0, none⟩)) := by rw [hm.b0.cell]; rfl
                      have KH := hide (hub_any Hgm.out hmA.below m)
                      have HmA := hide hmA
                      have Hst := hide hst
                      have Hnp := hide hnp
                      have Hnr := hide hnr
                      have Hk := hide hk
                      clear hm hmA hst hnp hnr hk hmst
                      generalize (Tj.popping G t ps (m :: rest) tl).on m = y6 at c6
                      generalize (Tj.popping G t ps (m :: rest) tl).cmp m = y1 at c1
                      go_wp2_with fail
                      refine Calls.mono (Hid.out KH) ?_
                      rintro e1 w7 ⟨rfl, hw⟩
                      subst w7
                      clear c8 f8 c7 c6 f6 c1 f1 c0 ctop KH
                      have hmA : Mem w (((wr.setCell ⟨w.heap.size + 8, 0, none⟩ (.slice (some ⟨gs, 0, none⟩) rest.length cs)).setCell ⟨w.heap.size + 6, m, none⟩ (.bool false)).setCell ⟨w.heap.size + 1, m, none⟩ (nv t.size.length)) w.heap.size G.N bg _ _ _ _ := HmA.out
                      clear HmA
                      generalize ((wr.setCell ⟨w.heap.size + 8, 0, none⟩ (.slice (some ⟨gs, 0, none⟩) rest.length cs)).setCell ⟨w.heap.size + 6, m, none⟩ (.bool false)).setCell ⟨w.heap.size + 1, m, none⟩ (nv t.size.length) = wX at hmA
                      have hszi : (t.size.length : Int) < (t.size.length : Int) + 1 := by omega
                      cases hpl : G.pl m with
                      | true =>
                        have hk : wX.cell? ⟨gz, t.size.length, none⟩ = some (.int .i64 (ps.countP G.pl : Int)) ∧ wX.frozen? ⟨gz, t.size.length, none⟩ = false := by
                          obtain ⟨gz', cz', he, _, _, _, _, k1, k2⟩ := hmA.topZ (x := ps.countP G.pl) (zs := t.size) rfl
                          injection he with he _ _
                          injection he with he
                          injection he with he
                          subst he
                          exact ⟨k1, k2⟩
                        obtain ⟨k1, k2⟩ := hk
                        have hmB := hmA.incZ (x := ps.countP G.pl) (y := ps.countP G.pl + 1) (zs := t.size) rfl
                        have hmC : Mem w (wX.setCell ⟨gz, t.size.length, none⟩ (.int .i64 ((ps.countP G.pl : Int) + 1))) w.heap.size G.N bg (Tj.popping G t (ps ++ [m]) rest tl) (.slice (some ⟨gs, 0, none⟩) rest.length cs) (.slice (some ⟨g, 0, none⟩) tl.length cap) (.slice (some ⟨gz, 0, none⟩) (t.size.length + 1) cz2) := by
                          rw [← Tj.popping_on1 t ps rest tl hpl]; exact hmB
                        have HmC := hide hmC
                        have Hpl := hide hpl
                        clear hmA hmB hmC hpl
                        by_cases hmn : m = n
                        · have hmnb : ((m : Int) == (n : Int)) = true := beq_iff_eq.2 (by omega)
                          have Hmn := hide hmn
                          clear hmn
                          go_wp2
                          go_roundg (Tj.mu G (Tj.popping G t (ps ++ [m]) rest tl))
                          case measure => exact Nat.lt_of_lt_of_le (Tj.mu_done Hp.out rfl rfl) Hmu.out
                          case rel =>
                            have hpop := Tj.inv_pop (ps := ps) (rest := rest) Hinv.out Hp.out Hfin.out Hl.out (by rw [Hst.out, Hmn.out])
                            rw [← Hmn.out] at hpop
                            exact ⟨_, hpop, Nat.le_refl _, Hvis.out, _, _, HmC.out⟩
                        · have hmnb : ((m : Int) == (n : Int)) = false := beq_eq_false_iff_ne.2 (by omega)
                          have Hmn := hide hmn
                          clear hmn
                          go_wp2
                          go_roundg rest.length
                          case measure => have := Hk.out; simp at this; omega
                          case rel => exact ⟨ps ++ [m], rest, _, by rw [Hst.out]; simp, by simp; exact ⟨Hnp.out, fun e => Hmn.out e.symm⟩, (List.mem_cons.1 Hnr.out).resolve_left (fun e => Hmn.out e.symm), rfl, HmC.out⟩
                      | false =>
                        have hmC : Mem w wX w.heap.size G.N bg (Tj.popping G t (ps ++ [m]) rest tl) (.slice (some ⟨gs, 0, none⟩) rest.length cs) (.slice (some ⟨g, 0, none⟩) tl.length cap) (.slice (some ⟨gz, 0, none⟩) (t.size.length + 1) cz2) := by
                          rw [← Tj.popping_off t ps rest tl hpl]; exact hmA
                        have HmC := hide hmC
                        have Hpl := hide hpl
                        clear hmA hmC hpl
                        by_cases hmn : m = n
                        · have hmnb : ((m : Int) == (n : Int)) = true := beq_iff_eq.2 (by omega)
                          have Hmn := hide hmn
                          clear hmn
                          go_wp2
                          go_roundg (Tj.mu G (Tj.popping G t (ps ++ [m]) rest tl))
                          case measure => exact Nat.lt_of_lt_of_le (Tj.mu_done Hp.out rfl rfl) Hmu.out
                          case rel =>
                            have hpop := Tj.inv_pop (ps := ps) (rest := rest) Hinv.out Hp.out Hfin.out Hl.out (by rw [Hst.out, Hmn.out])
                            rw [← Hmn.out] at hpop
                            exact ⟨_, hpop, Nat.le_refl _, Hvis.out, _, _, HmC.out⟩
                        · have hmnb : ((m : Int) == (n : Int)) = false := beq_eq_false_iff_ne.2 (by omega)
                          have Hmn := hide hmn
                          clear hmn
                          go_wp2
                          go_roundg rest.length
                          case measure => have := Hk.out; simp at this; omega
                          case rel => exact ⟨ps ++ [m], rest, _, by rw [Hst.out]; simp, by simp; exact ⟨Hnp.out, fun e => Hmn.out e.symm⟩, (List.mem_cons.1 Hnr.out).resolve_left (fun e => Hmn.out e.symm), rfl, HmC.out⟩
                · have hneb : ((t.low n : Int) != (t.idx n : Int)) = true := bne_iff_ne.2 (by omega)
                  have Hl := hide hl
                  clear hl
                  go_upto_region 31 with fail
                  go_quiet (fail)
                  go_wp2
                  go_roundg (Tj.mu G { t with path := tl, low := Tj.leaveLow t n tl })
                  case measure => exact Nat.lt_of_lt_of_le (Tj.mu_done Hp.out rfl rfl) Hmu.out
                  case rel => exact ⟨_, Hinv.out.leave Hp.out Hfin.out Hl.out, Nat.le_refl _, Hvis.out, _, _, Hm.out.grown ⟨rfl, rfl, rfl, Nat.le_refl _, fun _ _ _ => rfl⟩⟩
      · have hnb : ((s.idx root : Int) != 0) = true := bne_iff_ne.2 (by omega)
        have Hall := hide (And.intro hinv (And.intro hpath (And.intro hvis hm)))
        clear hinv hpath hvis hm
        have Hi0 := hide hi0
        clear hi0
        go_wp2
        go_roundg (gk - 1)
        case measure => omega
        case rel =>
          refine ⟨root + 1, by omega, by go_num, s, Hall.out.1, Hall.out.2.1, fun v hv => ?_, vS, vP, Hall.out.2.2.2⟩
          by_cases h : v = root
          · rw [h]; exact Hi0.out
          · exact Hall.out.2.2.1 v (by omega)
    · have hfin := hinv.good hpath (fun v hv => hvis v (by omega))
      have Hall := hide (And.intro hfin hm)
      clear hinv hpath hvis hm hfin
      go_wp2
      go_ret2
      exact ⟨s.cmp, s.size, _, rfl, Hall.out.1.1, Hall.out.1.2, Hall.out.2.b1, Hall.out.2.oZ, Hall.out.2.below⟩
end Go.Proofs.Qxb6602044a
