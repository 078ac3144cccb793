import Derived.Test.YbulkftzuDoorFl
import Derived.Laws.BitsAllLaws
namespace Go.Proofs.YbulkftzuDoor
open Go.RowKit
set_option linter.unusedVariables false
set_option linter.unusedSimpArgs false
attribute [local go_sem] frun_add frun_sub frun_mul frun_quo mrun

theorem run_bits (m : Nat) (w : World) : (callFunc 14 #[.float .f64 m]).run Ybad.prog w = .ok (.value (.int .u64 m)) w := by kernel_rfl
theorem run_frombits (m : Int) (w : World) : (callFunc 12 #[.int .u64 m]).run Ybad.prog w = .ok (.value (.float .f64 m.toNat)) w := by kernel_rfl

set_option maxRecDepth 100000 in
set_option maxHeartbeats 1000000 in
theorem same_ (a : Nat) (w : World) : Calls Ybad.prog 8 #[.float .f64 a, .float .f64 a] w fun e w' => e = .returned (.bool true) ∧ w' = w := by
  have hb := run_bits
  have hh : ((a : Int) == (a : Int)) = true := by simp
  go_enter Ybad.func8, Ybad.ntmps8
  go_wp2
  go_ret
  exact ⟨rfl, rfl⟩

set_option maxRecDepth 100000 in
set_option maxHeartbeats 1000000 in
theorem inf_ (w : World) : Calls Ybad.prog 5 #[.int .i64 1] w fun e w' => e = .returned (.float .f64 9218868437227405312) ∧ w' = w := by
  have hb := run_frombits
  go_enter Ybad.func5, Ybad.ntmps5
  go_wp2
  go_ret
  exact ⟨rfl, rfl⟩

set_option maxRecDepth 100000 in
set_option maxHeartbeats 1000000 in
theorem yields_ (J s : Nat) (w : World) (hj : w.cell? ⟨J, 1, none⟩ = some (.float .f64 s)) : Calls Ybad.prog 9 #[.pointer (some ⟨J, 0, none⟩)] w fun e w' => e = .returned (.bool (Ieee.double.order s 4607182418800017408 == some .lt)) ∧ w' = w := by
  go_enter Ybad.func9, Ybad.ntmps9
  go_wp2
  go_ret
  exact ⟨rfl, rfl⟩

/-- The sign struck. -/
def absN (a : Nat) : Nat := (bits BinOp.andNot IntKind.u64 (a : Int) 9223372036854775808).toNat
def absO (o : Option Nat) : Option Nat := o.map absN

theorem abs_nan {a : Nat} (h : NaN a) : NaN (absN a) := by
  obtain ⟨h1, h2⟩ := h
  have e : absN a = a % 9223372036854775808 := by
    have h3 := u64_andNot_nat a 9223372036854775808 h1 (by omega)
    have h4 : a &&& (2 ^ 63 - 1) = a % 2 ^ 63 := Nat.and_two_pow_sub_one_eq_mod a 63
    unfold absN
    rw [show ((9223372036854775808 : Int)) = ((9223372036854775808 : Nat) : Int) from rfl, h3, Int.toNat_natCast]
    exact h4
  rw [e]
  exact ⟨by omega, by omega⟩

theorem R.abs {o : Option Nat} {a : Nat} (h : R o a) : R (absO o) (absN a) := by
  rcases h with rfl | ⟨rfl, hn⟩
  · exact .inl rfl
  · exact .inr ⟨rfl, abs_nan hn⟩

set_option maxRecDepth 100000 in
set_option maxHeartbeats 1000000 in
theorem abs_ (a : Nat) (w : World) : Calls Ybad.prog 7 #[.float .f64 a] w fun e w' => e = .returned (.float .f64 (absN a)) ∧ w' = w := by
  have hb := run_bits
  have hb2 := run_frombits
  go_enter Ybad.func7, Ybad.ntmps7
  go_wp2
  go_ret
  exact ⟨rfl, rfl⟩

/-- time.Duration's Seconds. -/
def secO (d : Int) : Option Nat := lift (fb .add) (some (floatOfInt FloatKind.f64 (wrap64 (d.tdiv 1000000000)))) (fb .quo (floatOfInt FloatKind.f64 (d.tmod 1000000000)) 4741671816366391296)
/-- limitSlack. -/
def slackO (i p : Int) : Option Nat := lift mb (lift (fb .quo) (lift (fb .quo) (secO p) (secO i)) (some 4611686018427387904)) (some 4591870180066957722)

set_option maxRecDepth 100000 in
set_option maxHeartbeats 1000000 in
theorem sec_ (d : Int) (w : World) : Calls Ybad.prog 6 #[.int .i64 d] w fun e w' => ∃ r, e = .returned (.float .f64 r) ∧ R (secO d) r ∧ ∃ k, w' = w.drewN k := by
  go_enter Ybad.func6, Ybad.ntmps6
  go_wp2
  go_ret
  exact ⟨_, rfl, (R_self _).f (R_fval _ _ _ _) _ _, _, rfl⟩

set_option maxRecDepth 100000 in
set_option maxHeartbeats 1000000 in
theorem slack_ (i p : Int) (w : World) : Calls Ybad.prog 11 #[.int .i64 i, .int .i64 p] w fun e w' => ∃ r, e = .returned (.float .f64 r) ∧ R (slackO i p) r ∧ ∃ k, w' = w.drewN k := by
  have HC1 : Hid (Calls _ _ _ _ _) := sec_ p w
  have HC2 : Hid (∀ q, Calls Ybad.prog 6 #[.int .i64 i] (w.drewN q) fun e w' => ∃ r, e = .returned (.float .f64 r) ∧ R (secO i) r ∧ ∃ k, w' = (w.drewN q).drewN k) := fun q => sec_ i (w.drewN q)
  go_enter Ybad.func11, Ybad.ntmps11
  go_wp2_with (first | (go_at_call 6; refine HC1.out.mono ?_; clear HC1; rintro e w1 ⟨r1, rfl, h1, q, rfl⟩) | (go_at_call 6; refine (HC2.out q).mono ?_; clear HC2; rintro e w2 ⟨r2, rfl, h2, q2, rfl⟩))
  go_ret
  exact ⟨_, rfl, (((h1.f h2 _ _).f (R_self _) _ _).m (R_self _) _), _, rfl⟩
end Go.Proofs.YbulkftzuDoor
