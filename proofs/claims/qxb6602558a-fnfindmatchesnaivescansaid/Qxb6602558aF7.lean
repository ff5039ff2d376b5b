/-
  find.
-/
import Derived.Test.Qxb6602558aBt
import Derived.Deep.LoopGhost
import Derived.Deep.RegionWith
namespace Go.Proofs.Qxb6602558a
open Go.RowKit
set_option linter.unusedVariables false

theorem Try.nfo67 : (Try.prog.info? 67).map (fun i => (i.zero, i.size, i.bytes)) = some (some (.agg #[.slice none 0 0, .slice none 0 0]), 2, 48) := by kernel_rfl

theorem mk_found (n : Nat) (hn : n ≤ 1048576) (w : World) : (Instr.makeSlice 64 (.int .i64 (n : Int)) (.int .i64 (n : Int))).run Try.prog w =
    .ok (.slice (some ⟨w.heap.size, 0, none⟩) n n) (w.alloc (.cells (Tab (2 * n) (fun _ => .slice none 0 0)).toArray 67)) := by
  obtain ⟨i0, hi, hz0, hz1, hz2⟩ := info_parts Try.nfo67
  have h := run_make (P := Try.prog) w 64 67 i0 _ Try.underlying64 hi hz0 .i64 .i64 (n : Int) (n : Int) (by omega) (Int.le_refl _) (by rw [hz2]; omega) (by omega)
  rw [h, hz1, Int.toNat_natCast, madeCells_tab, Nat.mul_comm n 2]
  have he : (Tab (2 * n) (fun m => (Value.agg #[.slice none 0 0, .slice none 0 0]).cells[m % (Value.agg #[.slice none 0 0, .slice none 0 0]).cells.size]!)) = Tab (2 * n) (fun _ => .slice none 0 0) := by
    refine Tab.congr (fun m _ => ?_)
    have : m % 2 = 0 ∨ m % 2 = 1 := by omega
    show (#[Value.slice none 0 0, Value.slice none 0 0] : Array Value)[m % 2]! = _
    rcases this with h | h <;> rw [h] <;> rfl
  rw [he]

/-- the table as it lies in memory -/
structure Tabl (w : World) (J : Job) (bt : Nat) (P : Nat → Nat) : Prop where
  ok : J.Ok
  lt : bt < w.heap.size
  anc : ∃ aA cA, w.cell? ⟨bt, 0, none⟩ = some (.slice aA J.nA cA) ∧ ∀ k, k < J.nA → ∃ b off, aA = some ⟨b, off, none⟩ ∧ b < w.heap.size ∧ w.cell? ⟨b, off + k, none⟩ = some (.string (J.A k))
  into : ∃ ai ci, w.cell? ⟨bt, 1, none⟩ = some (.slice ai J.nA ci) ∧ ∀ k, k < J.nA → ∃ b off, ai = some ⟨b, off, none⟩ ∧ b < w.heap.size ∧ ∃ a c, w.cell? ⟨b, off + k, none⟩ = some (.slice a (J.n k) c) ∧
    ∀ j, j < J.n k → ∃ b' o', a = some ⟨b', o', none⟩ ∧ b' < w.heap.size ∧ w.cell? ⟨b', o' + j * 2, none⟩ = some (.int .i64 (J.il k j : Int)) ∧ w.cell? ⟨b', o' + j * 2 + 1, none⟩ = some (.int .i64 (J.ia k j))
  lists : w.cell? ⟨bt, 2, none⟩ = some (.int .i64 (J.L : Int))
  nb : ∃ an cn, w.cell? ⟨bt, 3, none⟩ = some (.slice an J.L cn) ∧ ∀ l, l < J.L → ∃ b off, an = some ⟨b, off, none⟩ ∧ b < w.heap.size ∧ ∃ v1 v2, w.cell? ⟨b, off + l * 2, none⟩ = some v1 ∧ w.cell? ⟨b, off + l * 2 + 1, none⟩ = some v2 ∧ SetAt w v1 (J.S1 l) ∧ SetAt w v2 (J.S2 l)
  pairs : ∀ i, i < 1024 → w.cell? ⟨bt, 4 + i, none⟩ = some (.int .u64 (P i : Int)) ∧ P i < 18446744073709551616
  bits : ∀ k, k < J.nA → (P ((byteAt (J.A k) 0 * 256 + byteAt (J.A k) 1) / 64)).testBit ((byteAt (J.A k) 0 * 256 + byteAt (J.A k) 1) % 64) = true
  start : ∀ c, c < 256 → ∃ a cap, w.cell? ⟨bt, 1028 + c, none⟩ = some (.slice a (J.ks J.nA c).length cap) ∧ ∀ t, t < (J.ks J.nA c).length → ∃ b off, a = some ⟨b, off, none⟩ ∧ b < w.heap.size ∧ w.cell? ⟨b, off + t, none⟩ = some (.int .i64 (J.upto c t : Int))
  rows : ∀ k, k < J.nA → J.n k ≤ 1048576
  work : J.T.size * J.W J.nA ≤ 16777216

def FindOut (w : World) (J : Job) (e : Ending) (w' : World) : Prop :=
  ∃ V, e = .returned (.slice (some ⟨w.heap.size, 0, none⟩) J.L J.L) ∧ FMem w w' w.heap.size J.L V (J.nP J.T.size)

theorem find_init (w : World) (L : Nat) : FMem w (w.alloc (.cells (Tab (2 * L) (fun _ => .slice none 0 0)).toArray 67)) w.heap.size L (fun _ => .slice none 0 0) (fun _ => []) :=
  ⟨row_at rfl rfl, ⟨fun i _ => World.ownsRow_nil _ _ _ _, fun i j _ _ _ g h => by simp [Value.ownBlock] at h⟩, (Below.refl _ _).alloc (Nat.le_refl _) _, by simp⟩

theorem not_at_of_bit {J : Job} {w : World} {bt : Nat} {P : Nat → Nat} (h : Tabl w J bt P) {p k : Nat} (hk : k < J.nA) (ha : At J.T p (J.A k)) : (P ((byteAt J.T p * 256 + byteAt J.T (p + 1)) / 64)).testBit ((byteAt J.T p * 256 + byteAt J.T (p + 1)) % 64) = true := by
  obtain ⟨h1, h2, _⟩ := at_first ha (h.ok.two k hk)
  have := h.bits k hk
  rw [h1, h2] at this
  exact this

theorem row_ne {w : World} {b base : Nat} {e e' : TypeId} {l : List Value} {v : Value} {n : Nat} {xs : List Value} (h : Row w b e l) (ho : w.ownsRow base e' 1 v n xs) (hne : e ≠ e') : v.ownBlock ≠ some b := by
  intro hb
  rcases ho.2 with ⟨rfl, _⟩ | ⟨g, cap, cur, rfl, _, hg, _⟩
  · simp [Value.ownBlock] at hb
  · simp [Value.ownBlock] at hb
    subst hb
    unfold Row at h
    rw [h] at hg
    injection hg with hg
    injection hg with _ hg
    exact hne hg

theorem FMem.keepR {w wr w1 : World} {B L i : Nat} {V : Nat → Value} {X : Fams} (h : FMem w wr B L V X) (hi : i < 2 * L) (hg : wr.grownBy w1 (V i).ownBlock) : Row w1 B 67 (Tab (2 * L) V) :=
  h.r.kept hg (fun e => by have := ((h.fam.own i hi).lt B e.symm).1; omega)

set_option maxRecDepth 100000 in
set_option maxHeartbeats 4000000 in
theorem find_any {w : World} {J : Job} {bt : Nat} {P : Nat → Nat} (h : Tabl w J bt P) :
    Calls Try.prog 26 #[.pointer (some ⟨bt, 0, none⟩), .string J.T] w (FindOut w J) := by
  have H := hide h
  have cL := h.lists
  have hL := h.ok.lists
  have hT := h.ok.text
  have hm := mk_found J.L (by omega)
  have Hf0 := hide (find_init w J.L)
  clear h
  by_cases h0 : J.T.size = 0
  · have hz : (J.T.toList == ([] : List UInt8)) = true := by
      rw [beq_iff_eq, ByteArray.toList_eq]
      exact List.length_eq_zero_iff.1 (by simpa using h0)
    have Hfin : Hid (FindOut w J (.returned (.slice (some ⟨w.heap.size, 0, none⟩) J.L J.L)) (w.alloc (.cells (Tab (2 * J.L) (fun _ => .slice none 0 0)).toArray 67))) := hide ⟨_, rfl, by rw [h0]; exact Hf0.out⟩
    clear h0
    go_enter Try.func26, Try.ntmps26
    go_wp2
    go_ret
    exact Hfin.out
  have hz : (J.T.toList == ([] : List UInt8)) = false := beq_eq_false_iff_ne.2 (fun h => by
    rw [ByteArray.toList_eq] at h
    exact h0 (by have := congrArg List.length h; simpa using this))
  have h0i : (0 : Int) < (J.T.size : Int) := by omega
  have hT0 : 0 < J.T.size := by omega
  have hb0 := byteAt_in hT0
  have hlt0 := byteAt_lt J.T 0
  rw [hb0] at hlt0
  have hw0 := wrap16 J.T[0].toNat (by omega)
  have Hb0 := hide hb0
  clear hb0
  go_enter Try.func26, Try.ntmps26
  go_wp2
  clear hm hz cL hw0
  go_loopg [6, 7] J.T.size (fun k x i wr => ∃ i' x' : Nat, i' + k = J.T.size + 1 ∧ i' ≤ J.T.size ∧ 1 ≤ i' ∧ i = .int .i64 (i' : Int) ∧ x = .int .u16 (x' : Int) ∧ x' < 65536 ∧ x' % 256 = byteAt J.T (i' - 1) ∧ ∃ V, FMem w wr w.heap.size J.L V (J.nP (i' - 1)))
  case atStart =>
    refine ⟨1, J.T[0].toNat, by omega, by omega, by omega, rfl, rfl, by omega, ?_, _, Hf0.out⟩
    show J.T[0].toNat % 256 = byteAt J.T 0
    rw [Hb0.out]
    omega
  case round =>
    clear Hf0
    obtain ⟨i, x, hik, hile, hi1, rfl, rfl, hx, hxm, V, hm⟩ := hrel
    by_cases hlt : i < J.T.size
    · have hlti : (i : Int) < (J.T.size : Int) := by omega
      have hbi := byteAt_in hlt
      have hlt8 := byteAt_lt J.T i
      rw [hbi] at hlt8
      have e1 := pair_or x J.T[i].toNat hlt8
      rw [wrap16 _ (by omega)] at e1
      obtain ⟨q, Hq⟩ : ∃ q, Hid (x % 256 * 256 + J.T[i].toNat = q) := ⟨_, hide rfl⟩
      rw [Hq.out] at e1
      have hq : q < 65536 := by have := Hq.out; omega
      have hd : q / 64 < 1024 := by omega
      obtain ⟨cP, hP⟩ := H.out.pairs (q / 64) hd
      rw [← hm.below.cell (p := ⟨bt, 4 + q / 64, none⟩) H.out.lt] at cP
      obtain ⟨p, Hp⟩ : ∃ p, Hid (i = p + 1) := ⟨i - 1, hide (by omega)⟩
      have hp1 : i - 1 = p := by have := Hp.out; omega
      rw [hp1] at hm hxm
      have hqc : q / 256 = byteAt J.T p ∧ q % 256 = byteAt J.T (p + 1) ∧ q = byteAt J.T p * 256 + byteAt J.T (p + 1) := by
        have h1 := Hq.out
        rw [← hbi] at h1
        rw [← Hp.out, ← hxm]
        omega
      have hpw := pow_wrap (r := q % 64) (by omega)
      cases hbit : (bits BinOp.and IntKind.u64 (P (q / 64) : Int) (IntKind.u64.wrap ((2 : Int) ^ (q % 64))) == 0) with
      | true =>
        have Hm : Hid (FMem w wr w.heap.size J.L V (J.nP (p + 1))) := hide (by
          show FMem w wr w.heap.size J.L V (J.nK p (J.nP p) J.nA)
          rw [Job.none_at p _ (fun k hk ha => ?_)]
          · exact hm
          · have h1 := not_at_of_bit H.out hk ha
            rw [← hqc.2.2] at h1
            have h2 := bit_and hP (by omega) h1
            rw [hpw, beq_iff_eq] at hbit
            exact h2 hbit)
        have Hqc := hide hqc
        clear hm hbi hxm hqc hpw hp1
        go_wp2
        go_roundg (J.T.size - i)
        case measure => omega
        case rel => exact ⟨i + 1, q, by omega, by omega, by omega, by go_num, rfl, hq, by have := Hqc.out; have := Hp.out; rw [show i + 1 - 1 = p + 1 by omega]; omega, V, by have := Hp.out; rw [show i + 1 - 1 = p + 1 by omega]; exact Hm.out⟩
      | false =>
        obtain ⟨aS, capS, cS, hS⟩ := H.out.start (q / 256) (by omega)
        rw [← hm.below.cell (p := ⟨bt, 1028 + q / 256, none⟩) H.out.lt] at cS
        obtain ⟨nk, Hnk⟩ : ∃ nk, Hid ((J.ks J.nA (q / 256)).length = nk) := ⟨_, hide rfl⟩
        rw [Hnk.out] at cS hS
        have hnk : nk ≤ 65536 := by
          rw [← Hnk.out]
          exact Nat.le_trans (List.length_filter_le _ _) (by simp; exact H.out.ok.ancs)
        have Hm : Hid (FMem w wr w.heap.size J.L V (J.nK p (J.nP p) (J.upto (q / 256) 0))) := hide (by rw [hqc.1, Job.first_upto H.out.ok]; exact hm)
        have Hqc := hide hqc
        have HS := hide hS
        have hpi : (p : Int) < (J.T.size : Int) := by omega
        have hwr : IntKind.i64.wrap ((i : Int) - 1) = (p : Int) := by rw [IntKind.wrap_i64]; have := Hp.out; omega
        have Hwr := hide hwr
        clear hm hxm hqc hpw hp1 hS hwr
        have Hbi := hide hbi
        clear hbi
        go_wp2
        clear cS cP
        go_loopg [58] nk (fun kk t wr => ∃ t' : Nat, t' + kk = nk ∧ t = .int .i64 (t' : Int) ∧ ∃ V, FMem w wr w.heap.size J.L V (J.nK p (J.nP p) (J.upto (q / 256) t')))
        case atStart => exact ⟨0, by omega, rfl, V, Hm.out⟩
        case round =>
          clear Hm V
          obtain ⟨t, htk, rfl, V, hm⟩ := hrel
          by_cases ht : t < nk
          · have hti : (t : Int) < (nk : Int) := by omega
            obtain ⟨bS, oS, rfl, hbS, ck⟩ := HS.out t ht
            rw [← hm.below.cell (p := ⟨bS, oS + t, none⟩) hbS] at ck
            have hkn : J.upto (q / 256) t < J.nA := by
              have ht2 : t < (J.ks J.nA (q / 256)).length := by rw [Hnk.out]; exact ht
              unfold Job.upto
              rw [List.getD_eq_getElem?_getD, List.getElem?_eq_getElem ht2, Option.getD_some]
              exact (Job.ks_mem.1 (List.getElem_mem ht2)).1
            have hnext : J.nK p (J.nP p) (J.upto (q / 256) (t + 1)) = J.nK p (J.nP p) (J.upto (q / 256) t + 1) := by
              rw [Hqc.out.1]
              exact Job.next_upto H.out.ok p (J.nP p) (by rw [← Hqc.out.1, Hnk.out]; exact ht)
            obtain ⟨k, Hk⟩ : ∃ k, Hid (J.upto (q / 256) t = k) := ⟨_, hide rfl⟩
            rw [Hk.out] at ck hkn hnext hm
            have Hnext := hide hnext
            obtain ⟨aA, cA, cA0, hanc⟩ := H.out.anc
            obtain ⟨bA, oA, rfl, hbA, cA1⟩ := hanc k hkn
            rw [← hm.below.cell (p := ⟨bt, 0, none⟩) H.out.lt] at cA0
            rw [← hm.below.cell (p := ⟨bA, oA + k, none⟩) hbA] at cA1
            have hki : (k : Int) < (J.nA : Int) := by omega
            have h2 := H.out.ok.two k hkn
            have hsz := H.out.ok.small k hkn
            have K30 := fun n => hasPrefix_any (wr.drewN n) (J.T.extract p J.T.size) (J.A k) (by rw [size_cut _ _ _ (Nat.le_refl _)]; omega) hsz
            have hatc := at_cut (T := J.T) (a := J.A k) (p := p) (by omega)
            have hfst : At J.T p (J.A k) → byteAt (J.A k) 1 = byteAt J.T i := fun ha => by rw [Hp.out]; exact (at_first ha h2).2.1
            have Hm := hide hm
            clear hm hanc hnext
            obtain ⟨a, Ha⟩ : ∃ a, Hid (J.A k = a) := ⟨_, hide rfl⟩
            rw [Ha.out] at cA1 h2 hsz K30 hatc hfst
            have h1s : (1 : Int) < (a.size : Int) := by omega
            have h1n : 1 < a.size := by omega
            rw [byteAt_in h1n, Hbi.out] at hfst
            have hwr := Hwr.out
            by_cases he1 : a[1].toNat = J.T[i].toNat
            · have hneb : ((a[1].toNat : Int) != (J.T[i].toNat : Int)) = false := by rw [he1]; simp
              by_cases hat : At J.T p a
              · have K30t := hide (fun n => Calls.mono (K30 n) (fun e w' (h : Tells _ _ e w') => show e = .returned (.bool true) ∧ ∃ m, w' = (wr.drewN n).drewN m from by
                  obtain ⟨b, h1, h3, h4⟩ := h
                  rw [h3.2 (hatc.2 hat)] at h1
                  exact ⟨h1, h4⟩))
                have Hat := hide (show At J.T p (J.A k) by rw [Ha.out]; exact hat)
                have hsum : p + a.size ≤ J.T.size := hat.1
                clear K30 hatc hfst hat he1
                go_upto_region 14 with fail
                go_quiet ((go_at_call 30; refine Calls.mono (Hid.out K30t _) ?_; rintro e1 w5 ⟨rfl, k5, rfl⟩; exact ⟨rfl, drews _ _ _⟩))
                clear K30t
                have hm1 := Hm.out.drewN nq
                clear Hm ck cA0 cA1
                generalize wr.drewN nq = w1 at hm1
                obtain ⟨ai, ci, cI0, hinto⟩ := H.out.into
                obtain ⟨bI, oI, rfl, hbI, a', c', cI1, hrow⟩ := hinto k hkn
                rw [← hm1.below.cell (p := ⟨bt, 1, none⟩) H.out.lt] at cI0
                rw [← hm1.below.cell (p := ⟨bI, oI + k, none⟩) hbI] at cI1
                have Hrow := hide hrow
                have Hm := hide hm1
                have hnk1 := H.out.rows k hkn
                obtain ⟨en, Hen⟩ : ∃ en, Hid (p + a.size = en) := ⟨_, hide rfl⟩
                rw [Hen.out] at hsum
                clear hm1 hinto hrow
                go_wp2
                clear cI0 cI1
                go_loopg [92] (J.n k) (fun kj j wr => ∃ j' : Nat, j' + kj = J.n k ∧ j = .int .i64 (j' : Int) ∧ ∃ V, FMem w wr w.heap.size J.L V (J.hit p k (J.nK p (J.nP p) k) j'))
                case atStart => exact ⟨0, by omega, rfl, V, Hm.out⟩
                case round =>
                  clear Hm V
                  obtain ⟨j, hjk, rfl, V, hm⟩ := hrel
                  by_cases hj : j < J.n k
                  · have hji : (j : Int) < (J.n k : Int) := by omega
                    obtain ⟨bj, oj, rfl, hbj, cj0, cj1⟩ := Hrow.out j hj
                    rw [← hm.below.cell (p := ⟨bj, oj + j * 2, none⟩) hbj] at cj0
                    rw [← hm.below.cell (p := ⟨bj, oj + j * 2 + 1, none⟩) hbj] at cj1
                    have hl := H.out.ok.list k j hkn hj
                    have hkeep : J.keeps p k j ↔ Hold J.T (J.S1 (J.il k j)) (J.S2 (J.il k j)) p (p + (J.A k).size) := Iff.rfl
                    rw [Ha.out, Hen.out] at hkeep
                    have hlen := J.mid_len (show p < J.T.size by omega) hkn (Nat.le_of_lt hj) H.out.work
                    have hyes : J.keeps p k j → J.hit p k (J.nK p (J.nP p) k) (j + 1) = put (J.hit p k (J.nK p (J.nP p) k) j) (J.il k j) p (IntKind.u8.wrap (J.ia k j)) := fun h => Job.hit_yes h
                    have hno : ¬ J.keeps p k j → J.hit p k (J.nK p (J.nP p) k) (j + 1) = J.hit p k (J.nK p (J.nP p) k) j := fun h => Job.hit_no h
                    have Hyes := hide hyes
                    have Hno := hide hno
                    have Hkeep := hide hkeep
                    have Hlen := hide hlen
                    have Hm := hide hm
                    clear hm hyes hno hkeep hlen
                    obtain ⟨l, Hl⟩ : ∃ l, Hid (J.il k j = l) := ⟨_, hide rfl⟩
                    rw [Hl.out] at cj0 hl Hkeep Hyes
                    obtain ⟨z, Hz⟩ : ∃ z, Hid (J.ia k j = z) := ⟨_, hide rfl⟩
                    rw [Hz.out] at cj1 Hyes
                    have hli : (l : Int) < (J.L : Int) := by omega
                    go_upto_region 18 with fail
                    have hm2 := Hm.out.alloc (.cells #[.int .i64 (l : Int), .int .i64 z] 56)
                    have hnew : Row (wr.alloc (.cells #[.int .i64 (l : Int), .int .i64 z] 56)) wr.heap.size 56 [.int .i64 (l : Int), .int .i64 z] := Row.new wr 56 [.int .i64 (l : Int), .int .i64 z]
                    have hBr : w.heap.size + 1 ≤ wr.heap.size := Hm.out.room
                    clear cj0 cj1 Hm
                    generalize wr.alloc (.cells #[.int .i64 (l : Int), .int .i64 z] 56) = w2 at hm2 hnew
                    obtain ⟨an, cn, cN0, hnb⟩ := H.out.nb
                    obtain ⟨bn, on, rfl, hbn, v1, v2, cn1, cn2, hs1, hs2⟩ := hnb l hl
                    rw [← hm2.below.cell (p := ⟨bt, 3, none⟩) H.out.lt] at cN0
                    rw [← hm2.below.cell (p := ⟨bn, on + l * 2, none⟩) hbn] at cn1
                    rw [← hm2.below.cell (p := ⟨bn, on + l * 2 + 1, none⟩) hbn] at cn2
                    have ct0 : w2.cell? ⟨wr.heap.size, 0, none⟩ = some (.int .i64 (l : Int)) := by rw [hnew.cell]; rfl
                    have hwr2 : IntKind.i64.wrap ((p : Int) + (a.size : Int)) = (en : Int) := by rw [IntKind.wrap_i64]; have := Hen.out; omega
                    have hwr := Hwr.out
                    have K31 := hold_any w2.drew J.T p en v1 v2 (J.S1 l) (J.S2 l) (hs1.below hm2.below.drew) (hs2.below hm2.below.drew) (by have := Hen.out; omega) (by have := Hen.out; omega) hsum hT
                    by_cases hkp : J.keeps p k j
                    · have K31t := hide (Calls.mono K31 (fun e w' (h : Tells2 _ _ e w') => show e = .returned (.bool true) ∧ w2.drew.grownBy w' none from by
                        obtain ⟨b, h1, h3, h4⟩ := h
                        rw [h3.2 (Hkeep.out.1 hkp)] at h1
                        exact ⟨h1, h4⟩))
                      have HX := hide (Hyes.out hkp)
                      have Hm2 := hide hm2
                      have Hnew := hide hnew
                      clear K31 hkp hm2 hnew hs1 hs2 hnb
                      go_cut [113] (fun v wx => v = .bool false ∧ Row wx wr.heap.size 56 [.int .i64 (l : Int), .int .i64 z] ∧ FMem w wx w.heap.size J.L V (J.hit p k (J.nK p (J.nP p) k) j))
                      case first =>
                        go_region_with (go_at_call 31; refine Calls.mono (Hid.out K31t) ?_; rintro e1 w5 ⟨rfl, hg5⟩)
                        all_goals
                          have Hg5 := hide hg5
                          clear hg5
                          go_wp2_with fail
                          go_meet
                          exact ⟨rfl, (Hnew.out.drew).kept Hg5.out (fun e => by cases e), (Hm2.out.grown (grownBy_drew _ _)).grown Hg5.out⟩
                      case rest =>
                        obtain ⟨rfl, hnew3, hm3⟩ := hcut
                        clear Hm2 Hnew K31t cN0 cn1 cn2 ct0
                        have ct0 : wc.cell? ⟨wr.heap.size, 0, none⟩ = some (.int .i64 (l : Int)) := by rw [hnew3.cell]; rfl
                        generalize J.hit p k (J.nK p (J.nP p) k) j = X at hm3 HX Hlen
                        have hlen1 : (X (2 * l)).length ≤ 16777216 := Hlen.out _
                        have hlen2 : (X (2 * l + 1)).length ≤ 16777216 := Hlen.out _
                        obtain ⟨a3, c3, hV3⟩ : ∃ a c, V (2 * l) = .slice a (X (2 * l)).length c := owns_form (hm3.fam.own (2 * l) (by omega))
                        have hown3 : wc.ownsRow (w.heap.size + 1) 3 1 (.slice a3 (X (2 * l)).length c3) (X (2 * l)).length (X (2 * l)) := by
                          have := hm3.fam.own (2 * l) (by omega); rw [hV3, ety_even] at this; exact this
                        have cS : wc.cell? ⟨w.heap.size, l * 2, none⟩ = some (.slice a3 (X (2 * l)).length c3) := by
                          rw [← hV3, Nat.mul_comm l 2]; exact hm3.r.cellTab (by omega)
                        have K32 := hide (appI wc (w.heap.size + 1) (.slice a3 (X (2 * l)).length c3) (X (2 * l)).length (X (2 * l)) (p : Int) hown3 (by omega) hm3.room)
                        have hwr := Hwr.out
                        have Hm3 := hide hm3
                        have HV3 := hide hV3
                        have Hnew3 := hide hnew3
                        have hne3 : (Value.slice a3 (X (2 * l)).length c3).ownBlock ≠ some wr.heap.size := fun e => row_ne hnew3 hown3 (by decide) e
                        have Hne3 := hide hne3
                        clear hm3 hV3 hnew3 hown3 hne3
                        go_wp2_with fail
                        refine Calls.mono (Hid.out K32) ?_
                        rintro e1 w5 ⟨g, cap, rfl, hown5, hgrow5, hloc5⟩
                        have hg5 : wc.grownBy w5 (V (2 * l)).ownBlock := by rw [HV3.out]; exact hgrow5
                        have hk5 := Hm3.out.keepR (i := 2 * l) (by omega) hg5
                        have d1 : w5.cell? ⟨w.heap.size, l * 2, none⟩ = some (V (l * 2)) := hk5.cellTab (by omega)
                        have f1 := hk5.frozen (l * 2)
                        have hm6 := Hm3.out.app (x := nv p) (show 2 * l < 2 * J.L by omega) hg5 (by rw [ety_even]; exact hown5) (by rw [HV3.out]; exact hloc5)
                        have hnew6 : Row (w5.setCell ⟨w.heap.size, 2 * l, none⟩ (.slice (some ⟨g, 0, none⟩) ((X (2 * l)).length + 1) cap)) wr.heap.size 56 [.int .i64 (l : Int), .int .i64 z] :=
                          (Hnew3.out.kept hgrow5 (fun e => Hne3.out e.symm)).other _ _ (by show wr.heap.size ≠ w.heap.size; omega)
                        rw [Nat.mul_comm 2 l] at hm6 hnew6
                        have Hm6 := hide hm6
                        have Hnew6 := hide hnew6
                        clear hm6 hnew6 hk5 hg5 hown5 hgrow5 hloc5 K32 cS ct0
                        rw [Nat.mul_comm 2 l]
                        go_upto_region 21 with fail
                        have hm6 := Hm6.out
                        have hnew6 := Hnew6.out
                        clear Hm6 Hnew6 d1 f1
                        rw [Nat.mul_comm 2 l] at hlen1 hlen2
                        generalize w5.setCell ⟨w.heap.size, l * 2, none⟩ (.slice (some ⟨g, 0, none⟩) ((X (l * 2)).length + 1) cap) = w6 at hm6 hnew6
                        have hV6 : (upd V (l * 2) (.slice (some ⟨g, 0, none⟩) ((X (l * 2)).length + 1) cap)) (l * 2 + 1) = V (l * 2 + 1) := upd_other _ _ (by omega)
                        have hX6 : (upd X (l * 2) (X (l * 2) ++ [nv p])) (l * 2 + 1) = X (l * 2 + 1) := upd_other _ _ (by omega)
                        have hety : ety (l * 2 + 1) = 5 := by rw [Nat.mul_comm l 2]; exact ety_odd l
                        obtain ⟨a5, c5, hV5⟩ : ∃ a c, V (l * 2 + 1) = .slice a (X (l * 2 + 1)).length c := owns_form (by have := hm6.fam.own (l * 2 + 1) (by omega); rw [hV6, hX6] at this; exact this)
                        have cP : w6.cell? ⟨w.heap.size, l * 2 + 1, none⟩ = some (.slice a5 (X (l * 2 + 1)).length c5) := by
                          have := hm6.r.cellTab (show l * 2 + 1 < 2 * J.L by omega)
                          rw [hV6, hV5] at this
                          exact this
                        have ct1 : w6.cell? ⟨wr.heap.size, 1, none⟩ = some (.int .i64 z) := by rw [hnew6.cell]; rfl
                        have hm6d := hm6.grown (grownBy_drew _ none)
                        have hown6 : w6.drew.ownsRow (w.heap.size + 1) 5 1 (.slice a5 (X (l * 2 + 1)).length c5) (X (l * 2 + 1)).length (X (l * 2 + 1)) := by
                          have := hm6d.fam.own (l * 2 + 1) (by omega)
                          rw [hV6, hX6, hV5, hety] at this
                          exact this
                        obtain ⟨x8, Hx8⟩ : ∃ x8, Hid (IntKind.u8.wrap z = x8) := ⟨_, hide rfl⟩
                        have hwx := Hx8.out
                        have K33 := hide (appB w6.drew (w.heap.size + 1) (.slice a5 (X (l * 2 + 1)).length c5) (X (l * 2 + 1)).length (X (l * 2 + 1)) x8 hown6 (by omega) hm6d.room)
                        have hput : put X l p x8 = upd (upd X (l * 2) (X (l * 2) ++ [nv p])) (l * 2 + 1) (X (l * 2 + 1) ++ [.int .u8 x8]) := by unfold put; rw [Nat.mul_comm 2 l]
                        have Hput := hide hput
                        have Hm6 := hide hm6d
                        have HV := hide (And.intro hV6 (And.intro hX6 (And.intro hV5 hety)))
                        clear hm6 hnew6 hm6d hown6 hput hV6 hX6 hV5 hety
                        go_region_with (go_at_call 33; refine Calls.mono (Hid.out K33) ?_; rintro e1 w7 ⟨g7, cap7, rfl, hown7, hgrow7, hloc7⟩; have hg7 := (show w6.drew.grownBy w7 ((upd V (l * 2) (.slice (some ⟨g, 0, none⟩) ((X (l * 2)).length + 1) cap)) (l * 2 + 1)).ownBlock by rw [HV.out.1, HV.out.2.2.1]; exact hgrow7); have hk7 := hide (Hm6.out.keepR (i := l * 2 + 1) (by omega) hg7); have d7 := hk7.out.cellTab (show l * 2 + 1 < 2 * J.L by omega); have f7 := hk7.out.frozen (l * 2 + 1); have Hp7 := hide (Hm6.out.app (x := .int .u8 x8) (g := g7) (cap := cap7) (show l * 2 + 1 < 2 * J.L by omega) hg7 (by rw [HV.out.2.2.2, HV.out.2.1]; exact hown7) (by rw [HV.out.1, HV.out.2.2.1]; exact hloc7)); clear hown7 hgrow7 hloc7 hg7 hk7)
                        all_goals
                          have Hm8 : Hid (∃ V', FMem w (w7.setCell ⟨w.heap.size, l * 2 + 1, none⟩ (.slice (some ⟨g7, 0, none⟩) ((X (l * 2 + 1)).length + 1) cap7)) w.heap.size J.L V' (J.hit p k (J.nK p (J.nP p) k) (j + 1))) := by
                            have h8 := Hp7.out
                            rw [HV.out.2.1] at h8
                            rw [HX.out, Hx8.out, Hput.out]
                            exact hide ⟨_, h8⟩
                          clear Hp7
                          go_wp2
                          go_roundg (J.n k - j - 1)
                          case measure => omega
                          case rel => exact ⟨j + 1, by omega, by go_num, Hm8.out⟩
                    · have K31f := hide (Calls.mono K31 (fun e w' (h : Tells2 _ _ e w') => show e = .returned (.bool false) ∧ w2.drew.grownBy w' none from by
                        obtain ⟨b, h1, h3, h4⟩ := h
                        cases b with
                        | false => exact ⟨h1, h4⟩
                        | true => exact absurd (Hkeep.out.2 (h3.1 rfl)) hkp))
                      have HX := hide (Hno.out hkp)
                      have Hm2 := hide hm2
                      clear K31 hkp hm2 hnew hs1 hs2 hnb
                      go_cut [113] (fun v wx => v = .bool true ∧ FMem w wx w.heap.size J.L V (J.hit p k (J.nK p (J.nP p) k) j))
                      case first =>
                        go_region_with (go_at_call 31; refine Calls.mono (Hid.out K31f) ?_; rintro e1 w5 ⟨rfl, hg5⟩)
                        all_goals
                          have Hg5 := hide hg5
                          clear hg5
                          go_wp2_with fail
                          go_meet
                          exact ⟨rfl, (Hm2.out.grown (grownBy_drew _ _)).grown Hg5.out⟩
                      case rest =>
                        obtain ⟨rfl, hm3⟩ := hcut
                        have Hm3 : Hid (FMem w wc w.heap.size J.L V (J.hit p k (J.nK p (J.nP p) k) (j + 1))) := hide (by rw [HX.out]; exact hm3)
                        clear hm3 Hm2 K31f cN0 cn1 cn2 ct0
                        go_wp2
                        go_roundg (J.n k - j - 1)
                        case measure => omega
                        case rel => exact ⟨j + 1, by omega, by go_num, V, Hm3.out⟩
                  · have hji : ¬ ((j : Int) < (J.n k : Int)) := by omega
                    have hje : j = J.n k := by omega
                    have Hm : Hid (FMem w wr w.heap.size J.L V (J.nK p (J.nP p) (J.upto (q / 256) (t + 1)))) := hide (by rw [Hnext.out, Job.nK_yes Hat.out, ← hje]; exact hm)
                    clear hm hje
                    go_wp2
                    go_roundg (nk - t - 1)
                    case measure => omega
                    case rel => exact ⟨t + 1, by omega, by go_num, V, Hm.out⟩
              · have K30f := hide (fun n => Calls.mono (K30 n) (fun e w' (h : Tells _ _ e w') => show e = .returned (.bool false) ∧ ∃ m, w' = (wr.drewN n).drewN m from by
                  obtain ⟨b, h1, h3, h4⟩ := h
                  cases b with
                  | false => exact ⟨h1, h4⟩
                  | true => exact absurd (hatc.1 (h3.1 rfl)) hat))
                have Hm2 : ∀ n, Hid (FMem w (wr.drewN n) w.heap.size J.L V (J.nK p (J.nP p) (J.upto (q / 256) (t + 1)))) := fun n => hide (by rw [Hnext.out, Job.nK_no (by rw [Ha.out]; exact hat)]; exact Hm.out.drewN n)
                clear K30 hatc hfst hat he1
                go_upto_region 14 with fail
                go_quiet ((go_at_call 30; refine Calls.mono (Hid.out K30f _) ?_; rintro e1 w5 ⟨rfl, k5, rfl⟩; exact ⟨rfl, drews _ _ _⟩))
                have Hm3 := Hm2 nq
                clear Hm2 K30f
                go_wp2
                go_roundg (nk - t - 1)
                case measure => omega
                case rel => exact ⟨t + 1, by omega, by go_num, V, Hm3.out⟩
            · have hneb : ((a[1].toNat : Int) != (J.T[i].toNat : Int)) = true := bne_iff_ne.2 (by omega)
              have Hm2 : ∀ n, Hid (FMem w (wr.drewN n) w.heap.size J.L V (J.nK p (J.nP p) (J.upto (q / 256) (t + 1)))) := fun n => hide (by rw [Hnext.out, Job.nK_no (by rw [Ha.out]; exact fun ha => he1 (hfst ha))]; exact Hm.out.drewN n)
              clear K30 hatc hfst he1
              go_upto_region 14 with fail
              go_quiet (fail)
              have Hm3 := Hm2 nq
              clear Hm2
              go_wp2
              go_roundg (nk - t - 1)
              case measure => omega
              case rel => exact ⟨t + 1, by omega, by go_num, V, Hm3.out⟩
          · have hti : ¬ ((t : Int) < (nk : Int)) := by omega
            have Hm : Hid (FMem w wr w.heap.size J.L V (J.nP (p + 1))) := hide (by
              rw [Job.end_upto _ (by rw [Hnk.out]; omega)] at hm
              exact hm)
            clear hm
            go_wp2
            go_roundg (J.T.size - i)
            case measure => omega
            case rel => exact ⟨i + 1, q, by omega, by omega, by omega, by go_num, rfl, hq, by have := Hqc.out; have := Hp.out; rw [show i + 1 - 1 = p + 1 by omega]; omega, V, by have := Hp.out; rw [show i + 1 - 1 = p + 1 by omega]; exact Hm.out⟩
    · have hlti : ¬ ((i : Int) < (J.T.size : Int)) := by omega
      have Hfin : Hid (FindOut w J (.returned (.slice (some ⟨w.heap.size, 0, none⟩) J.L J.L)) wr) := hide ⟨V, rfl, by
        rw [Job.nP_end H.out.ok (by omega)]
        rw [show J.T.size = i by omega]
        exact hm⟩
      clear hm
      go_wp2
      go_ret
      exact Hfin.out
end Go.Proofs.Qxb6602558a
