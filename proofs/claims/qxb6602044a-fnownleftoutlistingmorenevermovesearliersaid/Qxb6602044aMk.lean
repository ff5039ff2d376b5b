import Derived.Test.Qxb6602044aProg
import Derived.Test.Qxb6602044aMp
namespace Go.Proofs.Qxb6602044a
open Go.RowKit
set_option linter.unusedVariables false
set_option linter.unusedSimpArgs false

def encTP (x : Int × ByteArray) : Value := .agg #[.int .i64 x.1, .string x.2]
def encTPI (x : Int × ByteArray × ByteArray) : Value := .agg #[.int .i64 x.1, .string x.2.1, .string x.2.2]
def encS (x : ByteArray) : Value := .string x

theorem find_asking {κ : Type} [DecidableEq κ] (enc : κ → Value) (P : Program) (kt : TypeId) (hE : ∀ x y (w : World), (Op.equal kt (enc x) (enc y)).run P w = .ok (decide (x = y)) w) (x : κ) (L : List (κ × Value)) :
    ∀ (n i : Nat) (w : World), (Instr.findAsking kt (enc x) (ents enc n L) i).run P w = .ok (assocFind x L i) w := by
  induction L with
  | nil => intro n i w; simp [ents, Instr.findAsking, assocFind]
  | cons p l ih =>
    intro n i w
    unfold ents Instr.findAsking assocFind
    simp only [Sem.run_bind, hE, Result.andThen_ok]
    by_cases h : x = p.1
    · simp [h]
    · simp [h, ih]

theorem tl_inj {a b : ByteArray} (h : a.toList = b.toList) : a = b := by
  rw [ByteArray.toList_eq, ByteArray.toList_eq] at h
  exact ByteArray.ext (Array.toList_inj.mp h)

theorem tl_eq (a b : ByteArray) : (a.toList == b.toList) = decide (a = b) := by
  by_cases h : a = b
  · subst h; simp
  · have : ¬ a.toList = b.toList := fun e => h (tl_inj e)
    simp [h, this]

theorem ba_eq (a b : ByteArray) : (a == b) = decide (a = b) := by rw [beq_toListBytes, tl_eq]

set_option maxRecDepth 100000 in
theorem eq_TP (x y : Int × ByteArray) (w : World) : (Op.equal 99 (encTP x) (encTP y)).run Try.prog w = .ok (decide (x = y)) w := by
  have hs : Try.prog.stoodInHeld 99 = false := by kernel_rfl
  obtain ⟨t, p⟩ := x
  obtain ⟨t', p'⟩ := y
  have e : decide ((t, p) = (t', p')) = (decide (t = t') && decide (p = p')) := by
    by_cases h1 : t = t' <;> by_cases h2 : p = p' <;> simp [h1, h2]
  rw [e]
  unfold Op.equal Op.maxDepth encTP
  simp [go_sem, Try.underlying99, Try.underlying3, Try.underlying9, hs, tl_eq]
  by_cases h1 : t = t' <;> by_cases h2 : p = p' <;> simp [h1, h2]

set_option maxRecDepth 100000 in
theorem eq_TPI (x y : Int × ByteArray × ByteArray) (w : World) : (Op.equal 101 (encTPI x) (encTPI y)).run Try.prog w = .ok (decide (x = y)) w := by
  have hs : Try.prog.stoodInHeld 99 = false := by kernel_rfl
  have hs1 : Try.prog.stoodInHeld 101 = false := by kernel_rfl
  obtain ⟨t, p, i⟩ := x
  obtain ⟨t', p', i'⟩ := y
  have e : decide ((t, p, i) = (t', p', i')) = (decide (t = t') && decide (p = p') && decide (i = i')) := by
    by_cases h1 : t = t' <;> by_cases h2 : p = p' <;> by_cases h3 : i = i' <;> simp [h1, h2, h3]
  rw [e]
  unfold Op.equal Op.maxDepth encTPI
  simp [go_sem, Try.underlying101, Try.underlying99, Try.underlying3, Try.underlying9, hs, hs1, tl_eq]
  by_cases h1 : t = t' <;> by_cases h2 : p = p' <;> by_cases h3 : i = i' <;> simp [h1, h2, h3]

theorem bits_S (n : Nat) (x : ByteArray) : Instr.sameBits n (encS x) (encS x) = true := by
  unfold encS; cases n <;> simp [Instr.sameBits, ba_eq]
theorem bits_str (n : Nat) (x : ByteArray) : Instr.sameBits n (.string x) (.string x) = true := bits_S n x
theorem bits_int (n : Nat) (x : Int) : Instr.sameBits n (.int .i64 x) (.int .i64 x) = true := by cases n <;> simp [Instr.sameBits]
theorem bits_TP (n : Nat) (x : Int × ByteArray) : Instr.sameBits (n + 1) (encTP x) (encTP x) = true := by
  unfold encTP; simp [Instr.sameBits, bits_str, bits_int]
theorem bits_TPI (n : Nat) (x : Int × ByteArray × ByteArray) : Instr.sameBits (n + 1) (encTPI x) (encTPI x) = true := by
  unfold encTPI; simp [Instr.sameBits, bits_str, bits_int]

theorem check_int (e : Bool) (n : Nat) (t : Int) (w : World) : (Instr.checkKey e (n + 1) 3 (.int .i64 t)).run Try.prog w = .ok () w := MapKept.run_checkKey Try.underlying3 (by simp [MapKept.IsKey]) e n
theorem check_str (e : Bool) (n : Nat) (t : ByteArray) (w : World) : (Instr.checkKey e (n + 1) 9 (.string t)).run Try.prog w = .ok () w := MapKept.run_checkKey Try.underlying9 (by simp [MapKept.IsKey]) e n

theorem check_TP (e : Bool) (n : Nat) (x : Int × ByteArray) (w : World) : (Instr.checkKey e (n + 2) 99 (encTP x)).run Try.prog w = .ok () w := by
  unfold encTP Instr.checkKey
  simp only [Sem.run_bind, run_underlying Try.underlying99, Result.andThen_ok]
  simp [go_sem, check_int, check_str]

theorem check_TPI (e : Bool) (n : Nat) (x : Int × ByteArray × ByteArray) (w : World) : (Instr.checkKey e (n + 3) 101 (encTPI x)).run Try.prog w = .ok () w := by
  have h := check_TP e n (x.1, x.2.1) w
  unfold encTP at h
  unfold encTPI Instr.checkKey
  simp only [Sem.run_bind, run_underlying Try.underlying101, Result.andThen_ok]
  simp [go_sem, check_int, check_str, h]

set_option maxRecDepth 100000 in
theorem key_TP : KeyOk encTP Try.prog 99 where
  find x L n w := by
    refine (run_findKey_eq (P := Try.prog) (w := w) (k := 99) (by rw [Try.underlying99]) _ _).trans ?_
    exact find_asking encTP Try.prog 99 eq_TP x L n 0 w
  check e x w := check_TP e 9998 x w
  stays x w := by
    have h := bits_TP 9999 x
    simp [Instr.keyThatStays, h]

set_option maxRecDepth 100000 in
theorem key_TPI : KeyOk encTPI Try.prog 101 where
  find x L n w := by
    refine (run_findKey_eq (P := Try.prog) (w := w) (k := 101) (by rw [Try.underlying101]) _ _).trans ?_
    exact find_asking encTPI Try.prog 101 eq_TPI x L n 0 w
  check e x w := check_TPI e 9997 x w
  stays x w := by
    have h := bits_TPI 9999 x
    simp [Instr.keyThatStays, h]

theorem find_now (x : ByteArray) (L : List (ByteArray × Value)) : ∀ (n i : Nat), Instr.findNow .string (encS x) (ents encS n L) i = some (assocFind x L i) := by
  induction L with
  | nil => intro n i; simp [ents, Instr.findNow, assocFind]
  | cons p l ih =>
    intro n i
    unfold ents Instr.findNow assocFind
    by_cases h : x = p.1
    · simp [Instr.sameNow, encS, ba_eq, h]
    · have := ih (n + 1) (i + 1)
      simp only [encS] at this
      simp [Instr.sameNow, encS, ba_eq, h, this]

theorem key_S : KeyOk encS Try.prog 9 where
  find x L n w := MapKept.run_findKey Try.underlying9 (find_now x L n 0)
  check e x w := check_str e 9999 x w
  stays x w := by
    have h := bits_S 10000 x
    simp [Instr.keyThatStays, h]
end Go.Proofs.Qxb6602044a
