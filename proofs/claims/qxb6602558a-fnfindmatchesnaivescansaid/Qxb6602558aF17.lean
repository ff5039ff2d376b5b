/-
  THE LAW OVER ITS INPUT.
-/
import Derived.Test.Qxb6602558aF16
namespace Go.Proofs.Qxb6602558a
open Go.RowKit
set_option linter.unusedVariables false

theorem walk5 (w : World) (a0 a1 a2 a4 a5 : Option Addr) (l0 l1 l2 l4 l5 c0 c1 c2 c4 c5 : Nat) (zs : List ByteArray) (vs1 vs2 : List Value) (rows1 rows2 : List (List Int)) (vs4 vs5 : List Value) (S1 S2 : Nat → Option (Nat → Bool)) (L : Int) (T : ByteArray)
    (raw : Raw w a0 a1 a2 a4 a5 l0 l1 l2 l4 l5 c0 c1 c2 c4 c5 zs vs1 vs2 rows1 rows2 vs4 vs5 S1 S2) :
    Calls Try.prog 5 #[.slice a0 l0 c0, .slice a1 l1 c1, .slice a2 l2 c2, .int .i64 L, .slice a4 l4 c4, .slice a5 l5 c5, .string T] w (LawOut w) := by
  obtain ⟨n0, n1, n2, n4, n5, e0, e1, e2, e4, e5, r0, r1, v1, r2, v2, r4, s4, r5, s5⟩ := raw
  subst e0 e1 e2 e4 e5
  exact law_core w (job T L.toNat zs rows1 rows2 S1 S2) (nums rows1) (lens rows2) a0 a1 a2 a4 a5 rows1.length rows2.length vs4.length vs5.length c0 c1 c2 c4 c5 L
    (cells_str r0) (cells_row r1 v1) (cells_row r2 v2) (cells_set r4 s4) (cells_set r5 s5) (fun _ _ => rfl) rfl
    (fun h => copy16 n0 h r0) (fun h h' => copy17 n1 h (lens_le h') r1 v1) (fun h h' => copy17 n2 h (lens_le h') r2 v2) (fun h => copy18 n4 h r4 s4) (fun h => copy18 n5 h r5 s5)
end Go.Proofs.Qxb6602558a
