import Derived.Test.YbulkftzuDoorSm
namespace Go.Proofs.YbulkftzuDoor
open Go.RowKit
set_option linter.unusedVariables false
set_option linter.unusedSimpArgs false
attribute [local go_sem] frun_add frun_sub frun_mul frun_quo mrun

def gtB (a b : Nat) : Bool := FloatKind.f64.format.order a b == some .gt
def ltB (a b : Nat) : Bool := FloatKind.f64.format.order a b == some .lt
/-- How the two sides of heldLimit's test stand. -/
def sideC (so : Option Nat) (l h sh : Nat) (up dn : Bool) : Option Ordering :=
  cmpO (absO (fb .sub l h)) (lift (fb .mul) (if up = true then lift (fb .mul) so (some 4611686018427387904) else so) (if dn = true then lift mb (some h) (lift (fb .sub) (some sh) (some h)) else some h))
def leB (c : Option Ordering) : Bool := c == some .lt || c == some .eq
/-- heldLimit's answer. -/
def heldV (so : Option Nat) (l h sh : Nat) (risen : Bool) : Nat :=
  if (ltB h 9218868437227405312 && leB (sideC so l h sh (risen && gtB l h) (ltB l h))) = true then h else l
theorem heldV_no {so : Option Nat} {l h sh : Nat} {risen : Bool} (hE : ltB h 9218868437227405312 = false) : heldV so l h sh risen = l := by
  unfold heldV; rw [hE]; simp
theorem heldV_yes {so : Option Nat} {l h sh : Nat} {risen U D : Bool} (hup : (risen && gtB l h) = U) (hdn : ltB l h = D) (hE : ltB h 9218868437227405312 = true) (hF : leB (sideC so l h sh U D) = true) : heldV so l h sh risen = h := by
  unfold heldV; rw [hup, hdn, hE, hF]; simp
theorem heldV_far {so : Option Nat} {l h sh : Nat} {risen U D : Bool} (hup : (risen && gtB l h) = U) (hdn : ltB l h = D) (hE : ltB h 9218868437227405312 = true) (hF : leB (sideC so l h sh U D) = false) : heldV so l h sh risen = l := by
  unfold heldV; rw [hup, hdn, hE, hF]; simp
theorem side_ud {so : Option Nat} {s : Nat} (hs : R so s) (l h sh : Nat) : ∀ w0 w1 w2 w3 w4 : World, FloatKind.f64.format.order (absN (fval .sub l h w1)) (fval .mul (fval .mul s 4611686018427387904 w0) (mval h (fval .sub sh h w3) w4) w2) = sideC so l h sh true true := fun w0 w1 w2 w3 w4 => (R.abs (R_fval _ _ _ _)).order ((hs.f (R_self _) _ _).f ((R_self _).m ((R_self _).f (R_self _) _ _) _) _ _)
theorem side_un {so : Option Nat} {s : Nat} (hs : R so s) (l h sh : Nat) : ∀ w0 w1 w2 : World, FloatKind.f64.format.order (absN (fval .sub l h w1)) (fval .mul (fval .mul s 4611686018427387904 w0) h w2) = sideC so l h sh true false := fun w0 w1 w2 => (R.abs (R_fval _ _ _ _)).order ((hs.f (R_self _) _ _).f (R_self _) _ _)
theorem side_nd {so : Option Nat} {s : Nat} (hs : R so s) (l h sh : Nat) : ∀ w1 w2 w3 w4 : World, FloatKind.f64.format.order (absN (fval .sub l h w1)) (fval .mul s (mval h (fval .sub sh h w3) w4) w2) = sideC so l h sh false true := fun w1 w2 w3 w4 => (R.abs (R_fval _ _ _ _)).order (hs.f ((R_self _).m ((R_self _).f (R_self _) _ _) _) _ _)
theorem side_nn {so : Option Nat} {s : Nat} (hs : R so s) (l h sh : Nat) : ∀ w1 w2 : World, FloatKind.f64.format.order (absN (fval .sub l h w1)) (fval .mul s h w2) = sideC so l h sh false false := fun w1 w2 => (R.abs (R_fval _ _ _ _)).order (hs.f (R_self _) _ _)
set_option maxRecDepth 1000000 in
set_option maxHeartbeats 4000000 in
theorem held_ (so : Option Nat) (l h sh s : Nat) (risen : Bool) (w : World) (hs : R so s) (hg : w.cell? ⟨0, 0, none⟩ = some (.float .f64 9218868437227405312)) :
    Calls Ybad.prog 10 #[.float .f64 l, .float .f64 h, .float .f64 sh, .float .f64 s, .bool risen] w fun e w' => e = .returned (.float .f64 (heldV so l h sh risen)) ∧ ∃ k, w' = w.drewN k := by
  have HA : Hid (∀ (a : Nat) (w : World), Calls Ybad.prog 7 #[.float .f64 a] w fun e w' => e = .returned (.float .f64 (absN a)) ∧ w' = w) := abs_
  have u1 := side_ud hs l h sh
  have u2 := side_un hs l h sh
  have u3 := side_nd hs l h sh
  have u4 := side_nn hs l h sh
  by_cases hr : risen = true ∧ gtB l h = true
  · have hup : (risen && gtB l h) = true := by simp [hr.1, hr.2]
    cases hdn : ltB l h with
    | true =>
      have hD : (FloatKind.f64.format.order l h == some .lt) = true := hdn
      cases hE : (FloatKind.f64.format.order h 9218868437227405312 == some .lt) with
      | false =>
        have C0 := u1
        clear u1 u2 u3 u4
        have HV : Hid (heldV so l h sh risen = l) := heldV_no hE
        clear C0
        clear hup hdn
        obtain ⟨rfl, hG0⟩ := hr
        have hG : (FloatKind.f64.format.order l h == some .gt) = true := hG0
        clear hG0
        go_enter Ybad.func10, Ybad.ntmps10
        go_wp2_with (go_at_call 7; refine (HA.out _ _).mono ?_; rintro e w1 ⟨rfl, rfl⟩)
        go_ret
        exact ⟨by rw [HV.out]; rfl, by first | exact ⟨_, rfl⟩ | exact ⟨0, rfl⟩⟩
      | true =>
        cases hF : leB (sideC so l h sh true true) with
        | true =>
          have C0 := u1
          clear u1 u2 u3 u4
          have HV : Hid (heldV so l h sh risen = h) := heldV_yes hup hdn hE hF
          generalize sideC so l h sh true true = C at C0 hF
          have hF2 : (C == some .lt || C == some .eq) = true := hF
          clear hF
          clear hup hdn
          obtain ⟨rfl, hG0⟩ := hr
          have hG : (FloatKind.f64.format.order l h == some .gt) = true := hG0
          clear hG0
          go_enter Ybad.func10, Ybad.ntmps10
          go_wp2_with (go_at_call 7; refine (HA.out _ _).mono ?_; rintro e w1 ⟨rfl, rfl⟩)
          go_ret
          exact ⟨by rw [HV.out]; rfl, by first | exact ⟨_, rfl⟩ | exact ⟨0, rfl⟩⟩
        | false =>
          have C0 := u1
          clear u1 u2 u3 u4
          have HV : Hid (heldV so l h sh risen = l) := heldV_far hup hdn hE hF
          generalize sideC so l h sh true true = C at C0 hF
          have hF2 : (C == some .lt || C == some .eq) = false := hF
          clear hF
          clear hup hdn
          obtain ⟨rfl, hG0⟩ := hr
          have hG : (FloatKind.f64.format.order l h == some .gt) = true := hG0
          clear hG0
          go_enter Ybad.func10, Ybad.ntmps10
          go_wp2_with (go_at_call 7; refine (HA.out _ _).mono ?_; rintro e w1 ⟨rfl, rfl⟩)
          go_ret
          exact ⟨by rw [HV.out]; rfl, by first | exact ⟨_, rfl⟩ | exact ⟨0, rfl⟩⟩
    | false =>
      have hD : (FloatKind.f64.format.order l h == some .lt) = false := hdn
      cases hE : (FloatKind.f64.format.order h 9218868437227405312 == some .lt) with
      | false =>
        have C0 := u2
        clear u1 u2 u3 u4
        have HV : Hid (heldV so l h sh risen = l) := heldV_no hE
        clear C0
        clear hup hdn
        obtain ⟨rfl, hG0⟩ := hr
        have hG : (FloatKind.f64.format.order l h == some .gt) = true := hG0
        clear hG0
        go_enter Ybad.func10, Ybad.ntmps10
        go_wp2_with (go_at_call 7; refine (HA.out _ _).mono ?_; rintro e w1 ⟨rfl, rfl⟩)
        go_ret
        exact ⟨by rw [HV.out]; rfl, by first | exact ⟨_, rfl⟩ | exact ⟨0, rfl⟩⟩
      | true =>
        cases hF : leB (sideC so l h sh true false) with
        | true =>
          have C0 := u2
          clear u1 u2 u3 u4
          have HV : Hid (heldV so l h sh risen = h) := heldV_yes hup hdn hE hF
          generalize sideC so l h sh true false = C at C0 hF
          have hF2 : (C == some .lt || C == some .eq) = true := hF
          clear hF
          clear hup hdn
          obtain ⟨rfl, hG0⟩ := hr
          have hG : (FloatKind.f64.format.order l h == some .gt) = true := hG0
          clear hG0
          go_enter Ybad.func10, Ybad.ntmps10
          go_wp2_with (go_at_call 7; refine (HA.out _ _).mono ?_; rintro e w1 ⟨rfl, rfl⟩)
          go_ret
          exact ⟨by rw [HV.out]; rfl, by first | exact ⟨_, rfl⟩ | exact ⟨0, rfl⟩⟩
        | false =>
          have C0 := u2
          clear u1 u2 u3 u4
          have HV : Hid (heldV so l h sh risen = l) := heldV_far hup hdn hE hF
          generalize sideC so l h sh true false = C at C0 hF
          have hF2 : (C == some .lt || C == some .eq) = false := hF
          clear hF
          clear hup hdn
          obtain ⟨rfl, hG0⟩ := hr
          have hG : (FloatKind.f64.format.order l h == some .gt) = true := hG0
          clear hG0
          go_enter Ybad.func10, Ybad.ntmps10
          go_wp2_with (go_at_call 7; refine (HA.out _ _).mono ?_; rintro e w1 ⟨rfl, rfl⟩)
          go_ret
          exact ⟨by rw [HV.out]; rfl, by first | exact ⟨_, rfl⟩ | exact ⟨0, rfl⟩⟩
  · have hup : (risen && gtB l h) = false := by cases risen <;> simp_all
    cases hdn : ltB l h with
    | true =>
      have hD : (FloatKind.f64.format.order l h == some .lt) = true := hdn
      cases hE : (FloatKind.f64.format.order h 9218868437227405312 == some .lt) with
      | false =>
        have C0 := u3
        clear u1 u2 u3 u4
        have HV : Hid (heldV so l h sh risen = l) := heldV_no hE
        clear C0
        clear hup hdn
        cases risen with
        | false =>
          clear hr
          go_enter Ybad.func10, Ybad.ntmps10
          go_wp2_with (go_at_call 7; refine (HA.out _ _).mono ?_; rintro e w1 ⟨rfl, rfl⟩)
          go_ret
          exact ⟨by rw [HV.out]; rfl, by first | exact ⟨_, rfl⟩ | exact ⟨0, rfl⟩⟩
        | true =>
          have hG : (FloatKind.f64.format.order l h == some .gt) = false := by cases hq : (FloatKind.f64.format.order l h == some .gt) with | false => rfl | true => exact absurd ⟨rfl, hq⟩ hr
          clear hr
          go_enter Ybad.func10, Ybad.ntmps10
          go_wp2_with (go_at_call 7; refine (HA.out _ _).mono ?_; rintro e w1 ⟨rfl, rfl⟩)
          go_ret
          exact ⟨by rw [HV.out]; rfl, by first | exact ⟨_, rfl⟩ | exact ⟨0, rfl⟩⟩
      | true =>
        cases hF : leB (sideC so l h sh false true) with
        | true =>
          have C0 := u3
          clear u1 u2 u3 u4
          have HV : Hid (heldV so l h sh risen = h) := heldV_yes hup hdn hE hF
          generalize sideC so l h sh false true = C at C0 hF
          have hF2 : (C == some .lt || C == some .eq) = true := hF
          clear hF
          clear hup hdn
          cases risen with
          | false =>
            clear hr
            go_enter Ybad.func10, Ybad.ntmps10
            go_wp2_with (go_at_call 7; refine (HA.out _ _).mono ?_; rintro e w1 ⟨rfl, rfl⟩)
            go_ret
            exact ⟨by rw [HV.out]; rfl, by first | exact ⟨_, rfl⟩ | exact ⟨0, rfl⟩⟩
          | true =>
            have hG : (FloatKind.f64.format.order l h == some .gt) = false := by cases hq : (FloatKind.f64.format.order l h == some .gt) with | false => rfl | true => exact absurd ⟨rfl, hq⟩ hr
            clear hr
            go_enter Ybad.func10, Ybad.ntmps10
            go_wp2_with (go_at_call 7; refine (HA.out _ _).mono ?_; rintro e w1 ⟨rfl, rfl⟩)
            go_ret
            exact ⟨by rw [HV.out]; rfl, by first | exact ⟨_, rfl⟩ | exact ⟨0, rfl⟩⟩
        | false =>
          have C0 := u3
          clear u1 u2 u3 u4
          have HV : Hid (heldV so l h sh risen = l) := heldV_far hup hdn hE hF
          generalize sideC so l h sh false true = C at C0 hF
          have hF2 : (C == some .lt || C == some .eq) = false := hF
          clear hF
          clear hup hdn
          cases risen with
          | false =>
            clear hr
            go_enter Ybad.func10, Ybad.ntmps10
            go_wp2_with (go_at_call 7; refine (HA.out _ _).mono ?_; rintro e w1 ⟨rfl, rfl⟩)
            go_ret
            exact ⟨by rw [HV.out]; rfl, by first | exact ⟨_, rfl⟩ | exact ⟨0, rfl⟩⟩
          | true =>
            have hG : (FloatKind.f64.format.order l h == some .gt) = false := by cases hq : (FloatKind.f64.format.order l h == some .gt) with | false => rfl | true => exact absurd ⟨rfl, hq⟩ hr
            clear hr
            go_enter Ybad.func10, Ybad.ntmps10
            go_wp2_with (go_at_call 7; refine (HA.out _ _).mono ?_; rintro e w1 ⟨rfl, rfl⟩)
            go_ret
            exact ⟨by rw [HV.out]; rfl, by first | exact ⟨_, rfl⟩ | exact ⟨0, rfl⟩⟩
    | false =>
      have hD : (FloatKind.f64.format.order l h == some .lt) = false := hdn
      cases hE : (FloatKind.f64.format.order h 9218868437227405312 == some .lt) with
      | false =>
        have C0 := u4
        clear u1 u2 u3 u4
        have HV : Hid (heldV so l h sh risen = l) := heldV_no hE
        clear C0
        clear hup hdn
        cases risen with
        | false =>
          clear hr
          go_enter Ybad.func10, Ybad.ntmps10
          go_wp2_with (go_at_call 7; refine (HA.out _ _).mono ?_; rintro e w1 ⟨rfl, rfl⟩)
          go_ret
          exact ⟨by rw [HV.out]; rfl, by first | exact ⟨_, rfl⟩ | exact ⟨0, rfl⟩⟩
        | true =>
          have hG : (FloatKind.f64.format.order l h == some .gt) = false := by cases hq : (FloatKind.f64.format.order l h == some .gt) with | false => rfl | true => exact absurd ⟨rfl, hq⟩ hr
          clear hr
          go_enter Ybad.func10, Ybad.ntmps10
          go_wp2_with (go_at_call 7; refine (HA.out _ _).mono ?_; rintro e w1 ⟨rfl, rfl⟩)
          go_ret
          exact ⟨by rw [HV.out]; rfl, by first | exact ⟨_, rfl⟩ | exact ⟨0, rfl⟩⟩
      | true =>
        cases hF : leB (sideC so l h sh false false) with
        | true =>
          have C0 := u4
          clear u1 u2 u3 u4
          have HV : Hid (heldV so l h sh risen = h) := heldV_yes hup hdn hE hF
          generalize sideC so l h sh false false = C at C0 hF
          have hF2 : (C == some .lt || C == some .eq) = true := hF
          clear hF
          clear hup hdn
          cases risen with
          | false =>
            clear hr
            go_enter Ybad.func10, Ybad.ntmps10
            go_wp2_with (go_at_call 7; refine (HA.out _ _).mono ?_; rintro e w1 ⟨rfl, rfl⟩)
            go_ret
            exact ⟨by rw [HV.out]; rfl, by first | exact ⟨_, rfl⟩ | exact ⟨0, rfl⟩⟩
          | true =>
            have hG : (FloatKind.f64.format.order l h == some .gt) = false := by cases hq : (FloatKind.f64.format.order l h == some .gt) with | false => rfl | true => exact absurd ⟨rfl, hq⟩ hr
            clear hr
            go_enter Ybad.func10, Ybad.ntmps10
            go_wp2_with (go_at_call 7; refine (HA.out _ _).mono ?_; rintro e w1 ⟨rfl, rfl⟩)
            go_ret
            exact ⟨by rw [HV.out]; rfl, by first | exact ⟨_, rfl⟩ | exact ⟨0, rfl⟩⟩
        | false =>
          have C0 := u4
          clear u1 u2 u3 u4
          have HV : Hid (heldV so l h sh risen = l) := heldV_far hup hdn hE hF
          generalize sideC so l h sh false false = C at C0 hF
          have hF2 : (C == some .lt || C == some .eq) = false := hF
          clear hF
          clear hup hdn
          cases risen with
          | false =>
            clear hr
            go_enter Ybad.func10, Ybad.ntmps10
            go_wp2_with (go_at_call 7; refine (HA.out _ _).mono ?_; rintro e w1 ⟨rfl, rfl⟩)
            go_ret
            exact ⟨by rw [HV.out]; rfl, by first | exact ⟨_, rfl⟩ | exact ⟨0, rfl⟩⟩
          | true =>
            have hG : (FloatKind.f64.format.order l h == some .gt) = false := by cases hq : (FloatKind.f64.format.order l h == some .gt) with | false => rfl | true => exact absurd ⟨rfl, hq⟩ hr
            clear hr
            go_enter Ybad.func10, Ybad.ntmps10
            go_wp2_with (go_at_call 7; refine (HA.out _ _).mono ?_; rintro e w1 ⟨rfl, rfl⟩)
            go_ret
            exact ⟨by rw [HV.out]; rfl, by first | exact ⟨_, rfl⟩ | exact ⟨0, rfl⟩⟩
end Go.Proofs.YbulkftzuDoor
