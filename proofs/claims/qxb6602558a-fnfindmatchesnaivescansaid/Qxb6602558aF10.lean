/-
  copySetsB1.
-/
import Derived.Test.Qxb6602558aF9
import Derived.Deep.WholeRow
import Derived.Laws.CopyOwn
namespace Go.Proofs.Qxb6602558a
open Go.RowKit
set_option linter.unusedVariables false

theorem Try.nfo52 : (Try.prog.info? 52).map (fun i => (i.zero, i.size)) = some (some (.agg (Array.replicate 256 (.bool false))), 256) := by kernel_rfl
theorem Try.nfo51 : (Try.prog.info? 51).map (fun i => (i.zero, i.size, i.bytes)) = some (some (.pointer none), 1, 8) := by kernel_rfl

theorem mk_ptrs (n : Nat) (hn : n ≤ 1048576) (w : World) : (Instr.makeSlice 30 (.int .i64 (n : Int)) (.int .i64 (n : Int))).run Try.prog w =
    .ok (.slice (some ⟨w.heap.size, 0, none⟩) n n) (w.alloc (.cells (List.replicate n (.pointer none)).toArray 51)) := by
  obtain ⟨i0, hi, hz0, hz1, hz2⟩ := info_parts Try.nfo51
  have h := run_make (P := Try.prog) w 30 51 i0 _ Try.underlying30 hi hz0 .i64 .i64 (n : Int) (n : Int) (by omega) (Int.le_refl _) (by rw [hz2]; omega) (by omega)
  rw [h, hz1, Nat.mul_one, Int.toNat_natCast, madeCells_replicate _ _ rfl]

/-- a whole set out of wherever it lies -/
theorem load_set {w : World} {b off : Nat} {f : Nat → Bool} (h : ∀ c, c < 256 → w.cell? ⟨b, off + c, none⟩ = some (.bool (f c))) :
    (loadVar 52 ⟨b, off, none⟩).run Try.prog w = .ok (.agg (Tab 256 (fun c => .bool (f c))).toArray) w := by
  have hl : (loadCells ⟨b, off, none⟩ (Tab 256 (fun c => Value.bool (f c))).length).run Try.prog w = .ok (Tab 256 (fun c => Value.bool (f c))).toArray w :=
    run_loadCells_list (P := Try.prog) w ⟨b, off, none⟩ _ (fun j v hv => by
      have hadd : (⟨b, off, none⟩ : Addr).add j = ⟨b, off + j, none⟩ := by unfold Addr.add; split <;> simp_all
      have hj : j < 256 := by
        have := (List.getElem?_eq_some_iff.1 hv).1
        rw [Tab.length] at this
        exact this
      rw [Tab.get _ _ _ hj] at hv
      injection hv with hv
      rw [hadd, h j hj, hv])
  have hagg : (isAgg 52).run Try.prog w = .ok true w := by
    unfold isAgg
    rw [Sem.run_bind, run_underlying Try.underlying52 w]
    rfl
  have hsz : (sizeOf 52).run Try.prog w = .ok 256 w := by
    have := (zero_of_info Try.nfo52).2
    cases hq : Try.prog.info? 52 with
    | none => simp [hq] at this
    | some i =>
      have hs : i.size = 256 := by simpa [hq] using this
      simp [sizeOf, typeInfo, hq, hs]
  rw [Tab.length] at hl
  unfold loadVar
  simp only [Sem.run_bind, hagg, Result.andThen, ↓reduceIte, hsz, hl, Sem.run_pure]

theorem run_load_op {P : Program} {ev : Operand → Value} {o : Oper} {t : TypeId} {x : Operand} {a : Addr} {v : Value} {w : World} (ho : o.op = .load t x) (hx : ev x = .pointer (some a)) (hl : (loadVar t a).run P w = .ok v w) :
    (execOp ev o).run P w = .ok (.value v) w := by
  simp [execOp, ho, hx, Instr.loadAt, Instr.sureAddr, hl, Result.andThen]

theorem run_store_op {P : Program} {ev : Operand → Value} {o : Oper} {t : TypeId} {x y : Operand} {a : Addr} {w w' : World} (ho : o.op = .store t x y) (hx : ev x = .pointer (some a)) (hl : (storeVar t a (ev y)).run P w = .ok () w') :
    (execOp ev o).run P w = .ok .skip w' := by
  simp [execOp, ho, hx, Instr.storeAt, Instr.sureAddr, hl, Result.andThen]

theorem store_cells {w : World} {b : Nat} {old cs : Array Value} (hg : w.heap[b]? = some (.cells old 52 (0, 0))) (hcs : cs.size = 256) (ho : old.size = 256) (h1 : cs.all (·.oneCell') = true) :
    (storeCells ⟨b, 0, none⟩ cs.toList).run Try.prog w = .ok () (w.setRow b cs) := by
  have hi := (zero_of_info Try.nfo52).2
  have := run_storeVar_row (P := Try.prog) w b 52 52 old cs hg (by rw [hi, hcs]) (by rw [ho, hcs]) h1
  cases hq : Try.prog.info? 52 with
  | none => simp [hq] at hi
  | some i =>
    have hs : cs.size = i.size := by simp [hq] at hi; omega
    simpa [storeVar, sizeOf, typeInfo, hq, Value.cells, hs] using this

/-- a set in a block above B -/
def SetNew (B : Nat) (w : World) (v : Value) (S : Option (Nat → Bool)) : Prop :=
  (v = .pointer none ∧ S = none) ∨ ∃ b off f, v = .pointer (some ⟨b, off, none⟩) ∧ S = some f ∧ B < b ∧ b < w.heap.size ∧ ∀ c, c < 256 → w.cell? ⟨b, off + c, none⟩ = some (.bool (f c))

theorem SetNew.setAt {B : Nat} {w : World} {v : Value} {S : Option (Nat → Bool)} (h : SetNew B w v S) : SetAt w v S := by
  rcases h with h | ⟨b, off, f, h1, h2, _, h3, h4⟩
  · exact .inl h
  · exact .inr ⟨b, off, f, h1, h2, h3, h4⟩

theorem SetNew.below {B : Nat} {w w' : World} {v : Value} {S : Option (Nat → Bool)} (h : SetNew B w v S) (hb : Below w.heap.size w w') : SetNew B w' v S := by
  rcases h with h | ⟨b, off, f, h1, h2, h5, h3, h4⟩
  · exact .inl h
  · exact .inr ⟨b, off, f, h1, h2, h5, Nat.lt_of_lt_of_le h3 hb.size, fun c hc => by rw [hb.cell (p := ⟨b, off + c, none⟩) h3]; exact h4 c hc⟩

theorem SetNew.set {B : Nat} {w : World} {v : Value} {S : Option (Nat → Bool)} (h : SetNew B w v S) (i : Nat) (u : Value) : SetNew B (w.setCell ⟨B, i, none⟩ u) v S := by
  rcases h with h | ⟨b, off, f, h1, h2, h5, h3, h4⟩
  · exact .inl h
  · exact .inr ⟨b, off, f, h1, h2, h5, by simpa [World.setCell] using h3, fun c hc => by rw [cell_setCell_other _ _ _ _ (by show b ≠ B; omega)]; exact h4 c hc⟩

set_option maxRecDepth 100000 in
set_option maxHeartbeats 1000000 in
theorem copySets_some (x : Addr) (len cap : Nat) (vs : List Value) (S : Nat → Option (Nat → Bool)) (w : World) (hlen : vs.length = len) (hsz : len ≤ 1048576)
    {lo : Nat} (hr : Reads lo w (some x) vs) (hn : ∀ i (h : i < vs.length), SetAt w vs[i] (S i)) :
    Calls Try.prog 18 #[.slice (some x) len cap] w fun e w' => e = .returned (.slice (some ⟨w.heap.size, 0, none⟩) len len) ∧ (∃ g : Nat → Value, Row w' w.heap.size 51 (Tab len g) ∧ ∀ i, i < len → SetAt w' (g i) (S i)) ∧ Below w.heap.size w w' := by
  have hmk := mk_ptrs len hsz
  have hnil := fun (w : World) (a : Option Addr) (n c : Nat) => Lib.run_eql_slice_nil (P := Try.prog) w 30 51 a n c 0 0 Try.underlying30
  have hz52 := (zero_of_info Try.nfo52).1
  have Hlen : Hid (vs.length = len) := hlen
  clear hlen
  go_enter Try.func18, Try.ntmps18
  go_wp2
  clear hmk hnil
  go_loopw [4] (fun i wr => ∃ k : Nat, k ≤ len ∧ i = .int .i64 k ∧ (∃ g : Nat → Value, Row wr w.heap.size 51 (Tab len (fun m => if m < k then g m else .pointer none)) ∧ ∀ i, i < k → SetNew w.heap.size wr (g i) (S i)) ∧ w.heap.size + 1 ≤ wr.heap.size ∧ Below w.heap.size w wr) (fun i _ => len - (intOf i).toNat)
  case atStart =>
    refine ⟨0, Nat.zero_le _, rfl, ⟨fun _ => .pointer none, row_at rfl ?_, fun i hi => absurd hi (Nat.not_lt_zero _)⟩, by simp, (Below.refl _ _).alloc (Nat.le_refl _) _⟩
    show (List.replicate len (Value.pointer none)).toArray = _
    rw [tab_replicate]
    congr 1
  case round =>
    obtain ⟨k, hk, rfl, ⟨g, hrow, hg⟩, hs, hb⟩ := hrel
    by_cases hlt : k < len
    · have hkz : k < vs.length := by have := Hlen.out; omega
      obtain ⟨b, off, he, _, hbl, hcell⟩ := hr k hkz
      injection he with he
      subst he
      have h1 : wr.cell? ⟨b, off + k, none⟩ = some vs[k] := by rw [hb.cell (p := ⟨b, off + k, none⟩) hbl, hcell]
      have hset := (hn k hkz).below hb
      have hki : (k : Int) < (len : Int) := by omega
      generalize vs[k] = v at h1 hset
      rcases hset with ⟨rfl, hS⟩ | ⟨b1, o1, f1, rfl, hS, hb1, hc1⟩
      · have HS := hide hS
        have Hrow := hide hrow
        have Hg := hide hg
        have Hs := hide hs
        have Hb := hide hb
        clear hS hrow hg hs hb
        go_wp2
        go_roundw
        case rel =>
          refine ⟨k + 1, by omega, by go_num, ⟨upd g k (.pointer none), Hrow.out.tabEq (fun m _ => ?_), fun i hi => ?_⟩, Hs.out, Hb.out⟩
          · by_cases hm : m = k
            · subst hm; rw [if_neg (by omega), if_pos (by omega), upd_same]
            · rw [upd_other _ _ hm]
              by_cases h2 : m < k
              · rw [if_pos h2, if_pos (by omega)]
              · rw [if_neg h2, if_neg (by omega)]
          · by_cases hm : i = k
            · subst hm; rw [upd_same]; exact .inl ⟨rfl, HS.out⟩
            · rw [upd_other _ _ hm]; exact Hg.out i (by omega)
        case measure => simp [intOf]; omega
      · have HS := hide hS
        have hld := load_set (w := wr.alloc (.cells (Array.replicate 256 (.bool false)) 52)) (b := b1) (off := o1) (f := f1) (fun c hc => by
          rw [((Below.refl wr.heap.size wr).alloc (Nat.le_refl _) _).cell (p := ⟨b1, o1 + c, none⟩) hb1]; exact hc1 c hc)
        have h1a : (wr.alloc (.cells (Array.replicate 256 (.bool false)) 52)).cell? ⟨b, off + k, none⟩ = some (.pointer (some ⟨b1, o1, none⟩)) := by
          rw [((Below.refl wr.heap.size wr).alloc (Nat.le_refl _) _).cell (p := ⟨b, off + k, none⟩) (Nat.lt_of_lt_of_le hbl hb.size)]; exact h1
        have hnew : (wr.alloc (.cells (Array.replicate 256 (.bool false)) 52)).heap[wr.heap.size]? = some (.cells (Array.replicate 256 (.bool false)) 52 (0, 0)) := heap_alloc_new _ _
        have hcs : (Tab 256 (fun c => Value.bool (f1 c))).toArray.size = 256 := by simp [Tab.length]
        have hst := store_cells hnew hcs (by simp) (by simp [Tab, Value.oneCell'])
        clear hS
        go_upto_region 9 with fail
        clear h1 hz52
        have hb2 : Below wr.heap.size wr (wr.alloc (.cells (Array.replicate 256 (.bool false)) 52)) := (Below.refl _ _).alloc (Nat.le_refl _) _
        have hb3 : Below wr.heap.size wr ((wr.alloc (.cells (Array.replicate 256 (.bool false)) 52)).setRow wr.heap.size (Tab 256 (fun c => Value.bool (f1 c))).toArray) := below_setRow hb2 (Nat.le_refl _) _
        have hn3 : Row ((wr.alloc (.cells (Array.replicate 256 (.bool false)) 52)).setRow wr.heap.size (Tab 256 (fun c => Value.bool (f1 c))).toArray) wr.heap.size 52 (Tab 256 (fun c => Value.bool (f1 c))) := setRow_heap _ _ _ _ _ _ hnew
        have Hb := hide hb
        have Hrow := hide hrow
        have Hg := hide hg
        have Hs := hide hs
        have Hn3 := hide hn3
        have Hb3 := hide hb3
        clear hb hrow hg hs hb2 hn3 hb3
        generalize (Tab 256 (fun c => Value.bool (f1 c))).toArray = cs at hld hst hcs Hn3 Hb3
        generalize wr.alloc (.cells (Array.replicate 256 (.bool false)) 52) = w2 at h1a hld hst hnew Hn3 Hb3
        go_wp2_with fail
        unfold Oper.wp
        rw [run_load_op rfl (by rfl) hld, Oper.upon_value]
        go_upto_region 10 with fail
        have hn3 := Hn3.out
        have hb3 := Hb3.out
        clear hld hst hnew h1a Hn3 Hb3
        generalize w2.setRow wr.heap.size cs = w3 at hn3 hb3
        have hrow3 := Hrow.out.below hb3 Hrow.out.lt
        obtain ⟨v0, h2⟩ : ∃ v0, w3.cell? ⟨w.heap.size, k, none⟩ = some v0 := ⟨_, hrow3.cellTab hlt⟩
        have h3 := hrow3.frozen k
        have Hrow3 := hide hrow3
        have Hn3 := hide hn3
        have Hb3 := hide hb3
        clear hrow3 hn3 hb3
        go_wp2
        go_roundw
        case rel =>
          have hs0 := Hs.out
          refine ⟨k + 1, by omega, by go_num, ⟨upd g k (.pointer (some ⟨wr.heap.size, 0, none⟩)), (Hrow3.out.setTab k (.pointer (some ⟨wr.heap.size, 0, none⟩))).tabEq (fun m _ => ?_), fun i hi => ?_⟩, by have := Hb3.out.size; simp [World.setCell]; omega, (Hb.out.trans (Hb3.out.mono (by omega))).setCell (by simp) _⟩
          · by_cases hm : m = k
            · subst hm; rw [if_pos rfl, if_pos (by omega), upd_same]
            · rw [if_neg hm, upd_other _ _ hm]
              by_cases h2 : m < k
              · rw [if_pos h2, if_pos (by omega)]
              · rw [if_neg h2, if_neg (by omega)]
          · by_cases hm : i = k
            · subst hm
              rw [upd_same]
              have hnew : SetNew w.heap.size w3 (.pointer (some ⟨wr.heap.size, 0, none⟩)) (S i) := .inr ⟨_, _, f1, rfl, HS.out, by omega, Hn3.out.lt, fun c hc => by rw [Nat.zero_add]; exact Hn3.out.cellTab hc⟩
              exact hnew.set _ _
            · rw [upd_other _ _ hm]
              exact ((Hg.out i (by omega)).below Hb3.out).set _ _
        case measure => simp [intOf]; omega
    · go_wp2
      go_ret
      exact ⟨rfl, ⟨g, hrow.tabEq (fun m hm => by rw [if_pos (by omega)]), fun i hi => (hg i (by omega)).setAt⟩, hb⟩

set_option maxRecDepth 100000 in
set_option maxHeartbeats 400000 in
theorem copySets_nil (w : World) :
    Calls Try.prog 18 #[.slice none 0 0] w fun e w' => e = .returned (.slice none 0 0) ∧ w' = w := by
  have hnil := fun (w : World) (a : Option Addr) (n c : Nat) => Lib.run_eql_slice_nil (P := Try.prog) w 30 51 a n c 0 0 Try.underlying30
  go_enter Try.func18, Try.ntmps18
  go_wp2
  go_ret
  exact ⟨rfl, rfl⟩

/-- what copySetsB1 hands back -/
def SetsOut (w : World) (len : Nat) (S : Nat → Option (Nat → Bool)) (e : Ending) (w' : World) : Prop :=
  ∃ a c, e = .returned (.slice a len c) ∧ (∀ l, l < len → ∃ b off, a = some ⟨b, off, none⟩ ∧ b < w'.heap.size ∧ ∃ v, w'.cell? ⟨b, off + l, none⟩ = some v ∧ SetAt w' v (S l)) ∧ Below w.heap.size w w'

theorem copySets_any (a : Option Addr) (len cap : Nat) (vs : List Value) (S : Nat → Option (Nat → Bool)) (w : World) (hlen : vs.length = len) (hsz : len ≤ 1048576) (ha : a = none → len = 0 ∧ cap = 0)
    {lo : Nat} (hr : Reads lo w a vs) (hn : ∀ i (h : i < vs.length), SetAt w vs[i] (S i)) : Calls Try.prog 18 #[.slice a len cap] w (SetsOut w len S) := by
  cases a with
  | none =>
    obtain ⟨rfl, rfl⟩ := ha rfl
    refine (copySets_nil w).mono ?_
    rintro e w' ⟨rfl, rfl⟩
    exact ⟨none, 0, rfl, fun l hl => absurd hl (Nat.not_lt_zero _), Below.refl _ _⟩
  | some x =>
    refine (copySets_some x len cap vs S w hlen hsz hr hn).mono ?_
    rintro e w' ⟨rfl, ⟨g, hrow, hg⟩, hb⟩
    refine ⟨_, len, rfl, fun l hl => ⟨_, _, rfl, hrow.lt, g l, ?_, hg l hl⟩, hb⟩
    rw [Nat.zero_add]
    exact hrow.cellTab hl
end Go.Proofs.Qxb6602558a
