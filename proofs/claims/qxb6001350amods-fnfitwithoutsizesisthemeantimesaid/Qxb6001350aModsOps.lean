/-
  Floats in a walk: what '+', '-', '*', '/' leave, told as a plain value and a plain world, whether the result is a number or a NaN whose bits the tape gives.
-/
import Derived.Test.Qxb6001350aModsArith
import Derived.WalkKit
import Derived.WalkLawsBesides
import Derived.Deep.Draws
namespace Go.Proofs.Qxb6001350aMods.Fl
open Ieee

def IsNaN (x : Nat) : Prop := ∃ s f, double.read x = .nan s f

/-- The word x is what o says: 'some v': that very word; 'none': some NaN. -/
def Opt (o : Option Nat) (x : Nat) : Prop := match o with
  | some v => x = v
  | none => IsNaN x

def fval (o : Option Nat) (n : Nat) : Nat := o.getD n
def fcnt (o : Option Nat) : Nat := if o.isSome then 0 else 1
def nanAt (w : World) (x y : Nat) : Nat := (Question.nanBits .f64 x y).cut (w.tape w.drawn (Question.nanBits .f64 x y))

theorem nan_word (a b : Nat) (hb : b < 2 ^ 52 - 1) : IsNaN (a * 2 ^ 63 + 0x7ff0000000000000 + 1 + b) := by
  unfold IsNaN Format.read
  rw [d_sign, d_binade, d_inf, d_least]
  have e : (a * 2 ^ 63 + 0x7ff0000000000000 + 1 + b) % 2 ^ 63 = 0x7ff0000000000000 + 1 + b := by omega
  simp only [e]
  rw [if_neg (by omega), if_neg (by omega), if_neg (by omega)]
  exact ⟨_, _, rfl⟩

theorem nanAt_nan (w : World) (x y : Nat) : IsNaN (nanAt w x y) := by
  unfold nanAt
  simp only [Question.cut]
  exact nan_word _ _ (Nat.mod_lt _ (by omega))

theorem opt_fval (o : Option Nat) (w : World) (x y : Nat) : Opt o (fval o (nanAt w x y)) := by
  cases o with
  | none => exact nanAt_nan w x y
  | some v => rfl

section
variable (P : Program) (w : World) (t : TypeId) (x y : Nat)
theorem run_fadd : (binOp .add t (.float .f64 x) (.float .f64 y)).run P w = .ok (.float .f64 (fval (double.add x y) (nanAt w x y))) (w.drewN (fcnt (double.add x y))) := by
  have e : FloatKind.f64.format.add x y = double.add x y := rfl
  simp only [binOp, Op.floatArith, e]
  cases h : double.add x y <;> simp [fval, fcnt, Question.forced, nanAt] <;> rfl
theorem run_fsub : (binOp .sub t (.float .f64 x) (.float .f64 y)).run P w = .ok (.float .f64 (fval (double.sub x y) (nanAt w x y))) (w.drewN (fcnt (double.sub x y))) := by
  have e : FloatKind.f64.format.sub x y = double.sub x y := rfl
  simp only [binOp, Op.floatArith, e]
  cases h : double.sub x y <;> simp [fval, fcnt, Question.forced, nanAt] <;> rfl
theorem run_fmul : (binOp .mul t (.float .f64 x) (.float .f64 y)).run P w = .ok (.float .f64 (fval (double.mul x y) (nanAt w x y))) (w.drewN (fcnt (double.mul x y))) := by
  have e : FloatKind.f64.format.mul x y = double.mul x y := rfl
  simp only [binOp, Op.floatArith, e]
  cases h : double.mul x y <;> simp [fval, fcnt, Question.forced, nanAt] <;> rfl
theorem run_fdiv : (binOp .quo t (.float .f64 x) (.float .f64 y)).run P w = .ok (.float .f64 (fval (double.div x y) (nanAt w x y))) (w.drewN (fcnt (double.div x y))) := by
  have e : FloatKind.f64.format.div x y = double.div x y := rfl
  simp only [binOp, Op.floatArith, e]
  cases h : double.div x y <;> simp [fval, fcnt, Question.forced, nanAt] <;> rfl
end

theorem run_store_float (P : Program) (w : World) (a : Addr) (m : Mode) (k : FloatKind) (b : Nat) : (store a (.float k b) m).run P w = stored P w a (.float k b) m := run_store P w a _ m rfl
theorem alloc_drewN (w : World) (n : Nat) (o : Obj) : (w.drewN n).alloc o = (w.alloc o).drewN n := rfl
theorem setCell_drewN (w : World) (n : Nat) (a : Addr) (v : Value) : (w.drewN n).setCell a v = (w.setCell a v).drewN n := rfl

/-! ### the same arithmetic with 'none' for every NaN -/
def addA (a b : Option Nat) : Option Nat := match a, b with | some x, some y => double.add x y | _, _ => none
def subA (a b : Option Nat) : Option Nat := match a, b with | some x, some y => double.sub x y | _, _ => none
def mulA (a b : Option Nat) : Option Nat := match a, b with | some x, some y => double.mul x y | _, _ => none
def divA (a b : Option Nat) : Option Nat := match a, b with | some x, some y => double.div x y | _, _ => none
def ordA (a b : Option Nat) : Option Ordering := match a, b with | some x, some y => double.order x y | _, _ => none

theorem add_nanL {x : Nat} (y : Nat) (h : IsNaN x) : double.add x y = none := by
  obtain ⟨s, f, e⟩ := h
  simp [Format.add, e, Datum.sum]
theorem add_nanR (x : Nat) {y : Nat} (h : IsNaN y) : double.add x y = none := by
  obtain ⟨s, f, e⟩ := h
  simp only [Format.add, e]
  cases double.read x <;> simp [Datum.sum]
theorem sub_nanL {x : Nat} (y : Nat) (h : IsNaN x) : double.sub x y = none := by
  obtain ⟨s, f, e⟩ := h
  simp [Format.sub, e, Datum.sum]
theorem sub_nanR (x : Nat) {y : Nat} (h : IsNaN y) : double.sub x y = none := by
  obtain ⟨s, f, e⟩ := h
  simp only [Format.sub, e]
  cases double.read x <;> simp [Datum.sum, Datum.opposite]
theorem mul_nanL {x : Nat} (y : Nat) (h : IsNaN x) : double.mul x y = none := by
  obtain ⟨s, f, e⟩ := h
  simp [Format.mul, e, Datum.product]
theorem mul_nanR (x : Nat) {y : Nat} (h : IsNaN y) : double.mul x y = none := by
  obtain ⟨s, f, e⟩ := h
  simp only [Format.mul, e]
  cases double.read x <;> simp [Datum.product]
theorem div_nanL {x : Nat} (y : Nat) (h : IsNaN x) : double.div x y = none := by
  obtain ⟨s, f, e⟩ := h
  simp [Format.div, e, Datum.quotient]
theorem div_nanR (x : Nat) {y : Nat} (h : IsNaN y) : double.div x y = none := by
  obtain ⟨s, f, e⟩ := h
  simp only [Format.div, e]
  cases double.read x <;> simp [Datum.quotient]
theorem ord_nanL {x : Nat} (y : Nat) (h : IsNaN x) : double.order x y = none := by
  obtain ⟨s, f, e⟩ := h
  simp [Format.order, e, Datum.order]
theorem ord_nanR (x : Nat) {y : Nat} (h : IsNaN y) : double.order x y = none := by
  obtain ⟨s, f, e⟩ := h
  simp only [Format.order, e]
  cases double.read x <;> simp [Datum.order]

theorem opt_add {a b : Option Nat} {x y : Nat} (ha : Opt a x) (hb : Opt b y) (w : World) : Opt (addA a b) (fval (double.add x y) (nanAt w x y)) := by
  have h := opt_fval (double.add x y) w x y
  cases a with
  | none => rw [add_nanL y ha] at h ⊢; exact h
  | some v =>
    cases b with
    | none => rw [add_nanR x hb] at h ⊢; exact h
    | some u => cases ha; cases hb; exact h
theorem opt_sub {a b : Option Nat} {x y : Nat} (ha : Opt a x) (hb : Opt b y) (w : World) : Opt (subA a b) (fval (double.sub x y) (nanAt w x y)) := by
  have h := opt_fval (double.sub x y) w x y
  cases a with
  | none => rw [sub_nanL y ha] at h ⊢; exact h
  | some v =>
    cases b with
    | none => rw [sub_nanR x hb] at h ⊢; exact h
    | some u => cases ha; cases hb; exact h
theorem opt_mul {a b : Option Nat} {x y : Nat} (ha : Opt a x) (hb : Opt b y) (w : World) : Opt (mulA a b) (fval (double.mul x y) (nanAt w x y)) := by
  have h := opt_fval (double.mul x y) w x y
  cases a with
  | none => rw [mul_nanL y ha] at h ⊢; exact h
  | some v =>
    cases b with
    | none => rw [mul_nanR x hb] at h ⊢; exact h
    | some u => cases ha; cases hb; exact h
theorem opt_div {a b : Option Nat} {x y : Nat} (ha : Opt a x) (hb : Opt b y) (w : World) : Opt (divA a b) (fval (double.div x y) (nanAt w x y)) := by
  have h := opt_fval (double.div x y) w x y
  cases a with
  | none => rw [div_nanL y ha] at h ⊢; exact h
  | some v =>
    cases b with
    | none => rw [div_nanR x hb] at h ⊢; exact h
    | some u => cases ha; cases hb; exact h
theorem opt_ord {a b : Option Nat} {x y : Nat} (ha : Opt a x) (hb : Opt b y) : double.order x y = ordA a b := by
  cases a with
  | none => rw [ord_nanL y ha]; cases b <;> rfl
  | some v =>
    cases b with
    | none => rw [ord_nanR x hb]; rfl
    | some u => cases ha; cases hb; rfl
theorem opt_some (x : Nat) : Opt (some x) x := rfl

/-! ### the functions of fit.go, as plain functions -/
theorem floatOfInt_F (n : Int) : floatOfInt FloatKind.f64 n = F n := rfl
def sumA (xs : List Nat) : Option Nat := xs.foldl (fun a x => addA a (some x)) (some 0)
def meanA (xs : List Nat) : Option Nat := divA (sumA xs) (some (F xs.length))
theorem sumA_snoc (xs : List Nat) (x : Nat) : sumA (xs ++ [x]) = addA (sumA xs) (some x) := by
  unfold sumA; rw [List.foldl_append]; rfl
theorem take_snoc (xs : List Nat) (k : Nat) (h : k < xs.length) : xs.take (k + 1) = xs.take k ++ [xs.getD k 0] := by
  rw [List.take_succ_eq_append_getElem h]; simp [h]
end Go.Proofs.Qxb6001350aMods.Fl
