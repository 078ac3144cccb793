import Derived.Test.YbulkftzuDoorRows
import Derived.WalkKit
import Derived.WalkLawsBesides
import Derived.WalkSpells
import Derived.BigRegion
import Derived.BigQuiet
import Derived.Deep.QuietTactic
import Derived.Deep.RegionHeld3
import Derived.Deep.LoopGhost
import Derived.Deep.DeepCutAuto
import Derived.Deep.Light
namespace Go.Proofs.YbulkftzuDoor
open Go.RowKit
set_option linter.unusedVariables false
set_option linter.unusedSimpArgs false

/-- The bits of a NaN. -/
def NaN (n : Nat) : Prop := n < 18446744073709551616 ∧ 9218868437227405312 < n % 9223372036854775808

theorem read_nan {n : Nat} (h : NaN n) : ∃ s f, Ieee.double.read n = .nan s f := by
  obtain ⟨h1, h2⟩ := h
  have e1 : Ieee.double.signWeight = 9223372036854775808 := by decide
  have e2 : Ieee.double.binade = 4503599627370496 := by decide
  have e3 : Ieee.double.infRung = 9218868437227405312 := by decide
  unfold Ieee.Format.read
  simp only [e1, e2, e3]
  rw [if_neg (by omega), if_neg (by omega), if_neg (by omega)]
  exact ⟨_, _, rfl⟩

/-- What an operation gives as a plain function: none: a NaN. -/
def fb (op : BinOp) (a b : Nat) : Option Nat := floatBits op .f64 a b
def mb (a b : Nat) : Option Nat := match Ieee.double.order a b with
  | none => none
  | some .lt => some a
  | some .gt => some b
  | some .eq => some (if (FloatKind.f64.decode a).neg then a else b)

theorem order_nan_left {a b : Nat} (h : NaN a) : Ieee.double.order a b = none := by
  obtain ⟨s, f, e⟩ := read_nan h
  simp [Ieee.Format.order, e, Ieee.Datum.order]
theorem order_nan_right {a b : Nat} (h : NaN b) : Ieee.double.order a b = none := by
  obtain ⟨s, f, e⟩ := read_nan h
  simp only [Ieee.Format.order, e]
  cases Ieee.double.read a <;> simp [Ieee.Datum.order]

theorem fb_nan_left {op : BinOp} {a b : Nat} (h : NaN a) : fb op a b = none := by
  obtain ⟨s, f, e⟩ := read_nan h
  cases op <;> simp [fb, floatBits, FloatKind.format, Ieee.Format.add, Ieee.Format.sub, Ieee.Format.mul, Ieee.Format.div, e, Ieee.Datum.sum, Ieee.Datum.product, Ieee.Datum.quotient]
theorem fb_nan_right {op : BinOp} {a b : Nat} (h : NaN b) : fb op a b = none := by
  obtain ⟨s, f, e⟩ := read_nan h
  cases op <;> simp [fb, floatBits, FloatKind.format, Ieee.Format.add, Ieee.Format.sub, Ieee.Format.mul, Ieee.Format.div, e] <;> (cases Ieee.double.read a <;> simp [Ieee.Datum.sum, Ieee.Datum.product, Ieee.Datum.quotient, Ieee.Datum.opposite])
theorem mb_nan_left {a b : Nat} (h : NaN a) : mb a b = none := by simp [mb, order_nan_left h]
theorem mb_nan_right {a b : Nat} (h : NaN b) : mb a b = none := by simp [mb, order_nan_right h]

/-- The value r is what o says: its bits; a NaN, whichever, where o is none. -/
def R (o : Option Nat) (r : Nat) : Prop := o = some r ∨ (o = none ∧ NaN r)
theorem R_self (r : Nat) : R (some r) r := .inl rfl

def lift (f : Nat → Nat → Option Nat) : Option Nat → Option Nat → Option Nat
  | some a, some b => f a b
  | _, _ => none
def cmpO : Option Nat → Option Nat → Option Ordering
  | some a, some b => Ieee.double.order a b
  | _, _ => none

theorem R.order {o p : Option Nat} {a b : Nat} (ha : R o a) (hb : R p b) : Ieee.double.order a b = cmpO o p := by
  rcases ha with rfl | ⟨rfl, hn⟩
  · rcases hb with rfl | ⟨rfl, hn⟩
    · rfl
    · rw [order_nan_right hn]; rfl
  · rw [order_nan_left hn]; rfl

theorem R.op {f : Nat → Nat → Option Nat} {o p : Option Nat} {a b r : Nat} (hl : ∀ a b, NaN a → f a b = none) (hr : ∀ a b, NaN b → f a b = none) (ha : R o a) (hb : R p b) (h : R (f a b) r) : R (lift f o p) r := by
  rcases ha with rfl | ⟨rfl, hn⟩
  · rcases hb with rfl | ⟨rfl, hn⟩
    · exact h
    · rw [hr a b hn] at h; exact h
  · rw [hl a b hn] at h; exact h

/-- The bits and the draws of an operation at a world. -/
def fval (op : BinOp) (a b : Nat) (w : World) : Nat := (fb op a b).getD (Question.cut (.nanBits .f64 a b) (w.tape w.drawn (.nanBits .f64 a b)))
def fcnt (op : BinOp) (a b : Nat) : Nat := if (fb op a b).isSome then 0 else 1
def mval (a b : Nat) (w : World) : Nat := (mb a b).getD (Question.cut (.nanMinMax .f64 false a b) (w.tape w.drawn (.nanMinMax .f64 false a b)))
def mcnt (a b : Nat) : Nat := if (mb a b).isSome then 0 else 1

theorem nan_form (s y : Nat) (hs : s < 2) (hy : y < 4503599627370495) : NaN (s * 2 ^ 63 + 0x7ff0000000000000 + 1 + y) := by
  have : s = 0 ∨ s = 1 := by omega
  unfold NaN
  rcases this with rfl | rfl
  · omega
  · omega

theorem cut_nan (a b t : Nat) : NaN (Question.cut (.nanBits .f64 a b) t) := by
  show NaN ((t % 2) * 2 ^ 63 + 0x7ff0000000000000 + 1 + (t / 2) % (2 ^ 52 - 1))
  exact nan_form _ _ (Nat.mod_lt _ (by decide)) (Nat.mod_lt _ (by decide))
theorem cut_nan2 (a b t : Nat) : NaN (Question.cut (.nanMinMax .f64 false a b) t) := by
  show NaN ((t % 2) * 2 ^ 63 + 0x7ff0000000000000 + 1 + (t / 2) % (2 ^ 52 - 1))
  exact nan_form _ _ (Nat.mod_lt _ (by decide)) (Nat.mod_lt _ (by decide))

theorem R_fval (op : BinOp) (a b : Nat) (w : World) : R (fb op a b) (fval op a b w) := by
  unfold fval
  cases h : fb op a b with
  | some r => exact .inl (by simp)
  | none => exact .inr ⟨rfl, by simpa using cut_nan a b _⟩
theorem R_mval (a b : Nat) (w : World) : R (mb a b) (mval a b w) := by
  unfold mval
  cases h : mb a b with
  | some r => exact .inl (by simp)
  | none => exact .inr ⟨rfl, by simpa using cut_nan2 a b _⟩

theorem R.f {o p : Option Nat} {a b : Nat} (ha : R o a) (hb : R p b) (op : BinOp) (w : World) : R (lift (fb op) o p) (fval op a b w) := R.op (fun _ _ h => fb_nan_left h) (fun _ _ h => fb_nan_right h) ha hb (R_fval op a b w)
theorem R.m {o p : Option Nat} {a b : Nat} (ha : R o a) (hb : R p b) (w : World) : R (lift mb o p) (mval a b w) := R.op (fun _ _ h => mb_nan_left h) (fun _ _ h => mb_nan_right h) ha hb (R_mval a b w)

theorem frun (op : BinOp) (hop : op = .add ∨ op = .sub ∨ op = .mul ∨ op = .quo) (t : TypeId) (a b : Nat) (w : World) : (binOp op t (.float .f64 a) (.float .f64 b)).run Ybad.prog w = .ok (.float .f64 (fval op a b w)) (w.drewN (fcnt op a b)) := by
  cases h : fb op a b with
  | some r =>
    have e : w.drewN (fcnt op a b) = w := by simp [fcnt, h, World.drewN_zero]
    rw [run_float_arith w op t .f64 a b r h, e]
    simp [fval, h]
  | none =>
    have e : w.drewN (fcnt op a b) = w.drew := by simp [fcnt, h, World.drew_is_drewN]
    rw [e]
    simp only [fval, h, Option.getD_none]
    rcases hop with rfl | rfl | rfl | rfl <;> simp [fb, floatBits] at h <;> simp [binOp, Op.floatArith, h, Question.forced]

theorem frun_add (t : TypeId) (a b : Nat) (w : World) : (binOp .add t (.float .f64 a) (.float .f64 b)).run Ybad.prog w = .ok (.float .f64 (fval .add a b w)) (w.drewN (fcnt .add a b)) := frun .add (by simp) t a b w
theorem frun_sub (t : TypeId) (a b : Nat) (w : World) : (binOp .sub t (.float .f64 a) (.float .f64 b)).run Ybad.prog w = .ok (.float .f64 (fval .sub a b w)) (w.drewN (fcnt .sub a b)) := frun .sub (by simp) t a b w
theorem frun_mul (t : TypeId) (a b : Nat) (w : World) : (binOp .mul t (.float .f64 a) (.float .f64 b)).run Ybad.prog w = .ok (.float .f64 (fval .mul a b w)) (w.drewN (fcnt .mul a b)) := frun .mul (by simp) t a b w
theorem frun_quo (t : TypeId) (a b : Nat) (w : World) : (binOp .quo t (.float .f64 a) (.float .f64 b)).run Ybad.prog w = .ok (.float .f64 (fval .quo a b w)) (w.drewN (fcnt .quo a b)) := frun .quo (by simp) t a b w

theorem mrun (ts : Array TypeId) (t : TypeId) (a b : Nat) (w : World) : (Builtin.min_ ts t #[.float .f64 a, .float .f64 b]).run Ybad.prog w = .ok (.float .f64 (mval a b w)) (w.drewN (mcnt a b)) := by
  have e0 : FloatKind.f64.format = Ieee.double := rfl
  cases h : Ieee.double.order a b with
  | none =>
    have hm : mb a b = none := by simp [mb, h]
    have e : w.drewN (mcnt a b) = w.drew := by simp [mcnt, hm, World.drew_is_drewN]
    rw [e]
    simp [mval, hm, Builtin.min_, Builtin.min2, e0, h, Question.forced]
  | some o =>
    cases o with
    | lt =>
      have hm : mb a b = some a := by simp [mb, h]
      simp [mval, mcnt, hm, Builtin.min_, Builtin.min2, e0, h, World.drewN_zero]
    | gt =>
      have hm : mb a b = some b := by simp [mb, h]
      simp [mval, mcnt, hm, Builtin.min_, Builtin.min2, e0, h, World.drewN_zero]
    | eq =>
      have hm : mb a b = some (if (FloatKind.f64.decode a).neg then a else b) := by simp [mb, h]
      simp [mval, mcnt, hm, Builtin.min_, Builtin.min2, e0, h, World.drewN_zero]

/-- Two numbers of which one order is told: each is equal to itself. -/
theorem order_self {a b : Nat} {x : Ordering} (h : Ieee.double.order a b = some x) : Ieee.double.order a a = some .eq := by
  simp only [Ieee.Format.order] at h ⊢
  cases hr : Ieee.double.read a with
  | nan s f => rw [hr] at h; simp [Ieee.Datum.order] at h
  | infinity s => simp [Ieee.Datum.order]
  | number s m i => simp [Ieee.Datum.order]

theorem order_one {a : Nat} (h : Ieee.double.order a 4607182418800017408 = none) : Ieee.double.order a a = none := by
  simp only [Ieee.Format.order] at h ⊢
  have h1 : Ieee.double.read 4607182418800017408 = .number false 4503599627370496 (-52) := by decide
  rw [h1] at h
  cases hr : Ieee.double.read a with
  | nan s f => simp [Ieee.Datum.order]
  | infinity s => rw [hr] at h; simp [Ieee.Datum.order] at h
  | number s m i => rw [hr] at h; simp [Ieee.Datum.order] at h
end Go.Proofs.YbulkftzuDoor
