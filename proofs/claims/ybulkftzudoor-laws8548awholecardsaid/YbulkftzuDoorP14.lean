import Derived.Test.YbulkftzuDoorP20
namespace Go.Proofs.YbulkftzuDoor
open Go.RowKit
set_option linter.unusedVariables false
set_option linter.unusedSimpArgs false
attribute [local go_sem] frun_add frun_sub frun_mul frun_quo mrun run_store_float
set_option maxRecDepth 1000000 in
set_option maxHeartbeats 4000000 in
theorem part14 (W w : World) (l held hsh share av Hb J V S sh t : Nat) (i p : Int) (so : Option Nat) (U : Bool)
    {u1 u8 u9 u10 u11 u12 u13 u14 u15 u16 u19 u23 u24 u26 u27 u28 u29 u30 u31 u32 u33 u34 u35 u36 u37 u38 u39 u40 u41 u42 u43 u44 u45 u46 u47 u48 u49 u50 u51 u52 u53 u54 u55 u56 u57 u58 u59 u60 u61 u62 u63 u64 u65 u66 u67 u68 u69 u70 u71 u72 u73 u74 u75 u76 u77 u78 u79 u80 u81 u82 u83 u84 u85 u86 u87 u88 u89 u90 u91 u92 u93 u94 u95 u96 u97 u98 u99 u100 u101 u102 u103 u104 u105 u106 u107 u108 u109 u110 u111 u112 u113 u114 u115 u116 u117 u118 u119 u120 u121 u122 u123 u124 u125 u126 u127 u128 u129 u130 u131 u132 u133 u134 u135 u136 u137 u138 u139 u140 u141 u142 u143 u144 u145 u146 u147 : Value}
    (hU : (gtB share hsh && gtB l held) = U) (ht : R (if U = true then lift (fb .mul) so (some 4611686018427387904) else so) t) (hV : V = heldV so l held sh (gtB share hsh))
    (hS : S = if (FloatKind.f64.format.order V held != some .eq) = true then share else hsh) (hst : LS W w Hb J V S share) :
    Code.wp Ybad.prog ((Ybad.f3.body.map (tailAt 14)).getD .skip) (bodyPost Ybad.prog Ybad.f3 fun e w' => e = .returned (.bool true) ∧ Below W.heap.size W w') ⟨#[.float .f64 l, u1, .float .f64 held, .float .f64 hsh, .float .f64 share, .float .f64 av, .int .i64 i, .int .i64 p, u8, u9, u10, u11, u12, u13, u14, u15, u16, .pointer (some ⟨Hb, 0, none⟩), .pointer (some ⟨J, 0, none⟩), u19, .float .f64 V, .float .f64 9218868437227405312, .float .f64 sh, u23, u24, .float .f64 t, u26, u27, u28, u29, u30, u31, u32, u33, u34, u35, u36, u37, u38, u39, u40, u41, u42, u43, u44, u45, u46, u47, u48, u49, u50, u51, u52, u53, u54, u55, u56, u57, u58, u59, u60, u61, u62, u63, u64, u65, u66, u67, u68, u69, u70, u71, u72, u73, u74, u75, u76, u77, u78, u79, u80, u81, u82, u83, u84, u85, u86, u87, u88, u89, u90, u91, u92, u93, u94, u95, u96, u97, u98, u99, u100, u101, u102, u103, u104, u105, u106, u107, u108, u109, u110, u111, u112, u113, u114, u115, u116, u117, u118, u119, u120, u121, u122, u123, u124, u125, u126, u127, u128, u129, u130, u131, u132, u133, u134, u135, u136, u137, u138, u139, u140, u141, u142, u143, u144, u145, u146, u147], []⟩ w := by
  conv => arg 2; whnf
  dsimp only
  have HA : Hid (∀ (a : Nat) (w : World), Calls Ybad.prog 7 #[.float .f64 a] w fun e w' => e = .returned (.float .f64 (absN a)) ∧ w' = w) := abs_
  have HL : Hid (∀ q, LS W (w.drewN q) Hb J V S share) := fun q => hst.draw q
  have HS : Hid (S = if (FloatKind.f64.format.order V held != some .eq) = true then share else hsh) := hS
  clear hst hS
  cases hdn : ltB l held with
  | true =>
    have C0 : ∀ w1 w2 w3 w4 : World, FloatKind.f64.format.order (absN (fval .sub l held w1)) (fval .mul t (mval held (fval .sub sh held w3) w4) w2) = sideC so l held sh U true := fun w1 w2 w3 w4 => (R.abs (R_fval _ _ _ _)).order (ht.f ((R_self _).m ((R_self _).f (R_self _) _ _) _) _ _)
    have hD : (FloatKind.f64.format.order l held == some .lt) = true := hdn
    cases hE : (FloatKind.f64.format.order held 9218868437227405312 == some .lt) with
    | false =>
      have HV : Hid (V = l) := by show V = l; rw [hV]; exact heldV_no hE
      clear C0 hV hU hdn ht
      refine wp_gen fun rc hrc => ?_
      go_wp2_with fail
      refine hrc _ _ ?_
      clear hrc rc
      refine wp_gen fun rc hrc => ?_
      go_wp2_with (fail)
      first
        | refine hrc _ _ ?_
        | (refine (‹∀ (a : Act) (w : World), Code.wp _ _ _ a w → _› _ _ ?_); refine hrc _ _ ?_)
      clear hrc rc
      refine wp_gen fun rc hrc => ?_
      go_wp2_with fail
      refine hrc _ _ ?_
      clear hrc rc
      refine wp_gen fun rc hrc => ?_
      go_wp2_with (go_at_call 7; refine (HA.out _ _).mono ?_; rintro e w1 ⟨rfl, rfl⟩)
      first
        | refine hrc _ _ ?_
        | (refine (‹∀ (a : Act) (w : World), Code.wp _ _ _ a w → _› _ _ ?_); refine hrc _ _ ?_)
      clear hrc rc
      obtain rfl := HV.out
      exact part20 W _ _ _ hsh share av Hb J _ S i p HS.out (by first | exact HL.out _ | exact HL.out 0)
    | true =>
      cases hF : leB (sideC so l held sh U true) with
      | true =>
        have HV : Hid (V = held) := by show V = held; rw [hV]; exact heldV_yes hU hdn hE hF
        generalize sideC so l held sh U true = C at C0 hF
        have hF2 : (C == some .lt || C == some .eq) = true := hF
        clear hF hV hU hdn ht
        refine wp_gen fun rc hrc => ?_
        go_wp2_with fail
        refine hrc _ _ ?_
        clear hrc rc
        refine wp_gen fun rc hrc => ?_
        go_wp2_with (fail)
        first
          | refine hrc _ _ ?_
          | (refine (‹∀ (a : Act) (w : World), Code.wp _ _ _ a w → _› _ _ ?_); refine hrc _ _ ?_)
        clear hrc rc
        refine wp_gen fun rc hrc => ?_
        go_wp2_with fail
        refine hrc _ _ ?_
        clear hrc rc
        refine wp_gen fun rc hrc => ?_
        go_wp2_with (go_at_call 7; refine (HA.out _ _).mono ?_; rintro e w1 ⟨rfl, rfl⟩)
        first
          | refine hrc _ _ ?_
          | (refine (‹∀ (a : Act) (w : World), Code.wp _ _ _ a w → _› _ _ ?_); refine hrc _ _ ?_)
        clear hrc rc
        obtain rfl := HV.out
        exact part20 W _ _ _ hsh share av Hb J _ S i p HS.out (by first | exact HL.out _ | exact HL.out 0)
      | false =>
        have HV : Hid (V = l) := by show V = l; rw [hV]; exact heldV_far hU hdn hE hF
        generalize sideC so l held sh U true = C at C0 hF
        have hF2 : (C == some .lt || C == some .eq) = false := hF
        clear hF hV hU hdn ht
        refine wp_gen fun rc hrc => ?_
        go_wp2_with fail
        refine hrc _ _ ?_
        clear hrc rc
        refine wp_gen fun rc hrc => ?_
        go_wp2_with (fail)
        first
          | refine hrc _ _ ?_
          | (refine (‹∀ (a : Act) (w : World), Code.wp _ _ _ a w → _› _ _ ?_); refine hrc _ _ ?_)
        clear hrc rc
        refine wp_gen fun rc hrc => ?_
        go_wp2_with fail
        refine hrc _ _ ?_
        clear hrc rc
        refine wp_gen fun rc hrc => ?_
        go_wp2_with (go_at_call 7; refine (HA.out _ _).mono ?_; rintro e w1 ⟨rfl, rfl⟩)
        first
          | refine hrc _ _ ?_
          | (refine (‹∀ (a : Act) (w : World), Code.wp _ _ _ a w → _› _ _ ?_); refine hrc _ _ ?_)
        clear hrc rc
        obtain rfl := HV.out
        exact part20 W _ _ _ hsh share av Hb J _ S i p HS.out (by first | exact HL.out _ | exact HL.out 0)
  | false =>
    have C0 : ∀ w1 w2 : World, FloatKind.f64.format.order (absN (fval .sub l held w1)) (fval .mul t held w2) = sideC so l held sh U false := fun w1 w2 => (R.abs (R_fval _ _ _ _)).order (ht.f (R_self _) _ _)
    have hD : (FloatKind.f64.format.order l held == some .lt) = false := hdn
    cases hE : (FloatKind.f64.format.order held 9218868437227405312 == some .lt) with
    | false =>
      have HV : Hid (V = l) := by show V = l; rw [hV]; exact heldV_no hE
      clear C0 hV hU hdn ht
      refine wp_gen fun rc hrc => ?_
      go_wp2_with fail
      refine hrc _ _ ?_
      clear hrc rc
      refine wp_gen fun rc hrc => ?_
      go_wp2_with (fail)
      first
        | refine hrc _ _ ?_
        | (refine (‹∀ (a : Act) (w : World), Code.wp _ _ _ a w → _› _ _ ?_); refine hrc _ _ ?_)
      clear hrc rc
      refine wp_gen fun rc hrc => ?_
      go_wp2_with fail
      refine hrc _ _ ?_
      clear hrc rc
      refine wp_gen fun rc hrc => ?_
      go_wp2_with (go_at_call 7; refine (HA.out _ _).mono ?_; rintro e w1 ⟨rfl, rfl⟩)
      first
        | refine hrc _ _ ?_
        | (refine (‹∀ (a : Act) (w : World), Code.wp _ _ _ a w → _› _ _ ?_); refine hrc _ _ ?_)
      clear hrc rc
      obtain rfl := HV.out
      exact part20 W _ _ _ hsh share av Hb J _ S i p HS.out (by first | exact HL.out _ | exact HL.out 0)
    | true =>
      cases hF : leB (sideC so l held sh U false) with
      | true =>
        have HV : Hid (V = held) := by show V = held; rw [hV]; exact heldV_yes hU hdn hE hF
        generalize sideC so l held sh U false = C at C0 hF
        have hF2 : (C == some .lt || C == some .eq) = true := hF
        clear hF hV hU hdn ht
        refine wp_gen fun rc hrc => ?_
        go_wp2_with fail
        refine hrc _ _ ?_
        clear hrc rc
        refine wp_gen fun rc hrc => ?_
        go_wp2_with (fail)
        first
          | refine hrc _ _ ?_
          | (refine (‹∀ (a : Act) (w : World), Code.wp _ _ _ a w → _› _ _ ?_); refine hrc _ _ ?_)
        clear hrc rc
        refine wp_gen fun rc hrc => ?_
        go_wp2_with fail
        refine hrc _ _ ?_
        clear hrc rc
        refine wp_gen fun rc hrc => ?_
        go_wp2_with (go_at_call 7; refine (HA.out _ _).mono ?_; rintro e w1 ⟨rfl, rfl⟩)
        first
          | refine hrc _ _ ?_
          | (refine (‹∀ (a : Act) (w : World), Code.wp _ _ _ a w → _› _ _ ?_); refine hrc _ _ ?_)
        clear hrc rc
        obtain rfl := HV.out
        exact part20 W _ _ _ hsh share av Hb J _ S i p HS.out (by first | exact HL.out _ | exact HL.out 0)
      | false =>
        have HV : Hid (V = l) := by show V = l; rw [hV]; exact heldV_far hU hdn hE hF
        generalize sideC so l held sh U false = C at C0 hF
        have hF2 : (C == some .lt || C == some .eq) = false := hF
        clear hF hV hU hdn ht
        refine wp_gen fun rc hrc => ?_
        go_wp2_with fail
        refine hrc _ _ ?_
        clear hrc rc
        refine wp_gen fun rc hrc => ?_
        go_wp2_with (fail)
        first
          | refine hrc _ _ ?_
          | (refine (‹∀ (a : Act) (w : World), Code.wp _ _ _ a w → _› _ _ ?_); refine hrc _ _ ?_)
        clear hrc rc
        refine wp_gen fun rc hrc => ?_
        go_wp2_with fail
        refine hrc _ _ ?_
        clear hrc rc
        refine wp_gen fun rc hrc => ?_
        go_wp2_with (go_at_call 7; refine (HA.out _ _).mono ?_; rintro e w1 ⟨rfl, rfl⟩)
        first
          | refine hrc _ _ ?_
          | (refine (‹∀ (a : Act) (w : World), Code.wp _ _ _ a w → _› _ _ ?_); refine hrc _ _ ?_)
        clear hrc rc
        obtain rfl := HV.out
        exact part20 W _ _ _ hsh share av Hb J _ S i p HS.out (by first | exact HL.out _ | exact HL.out 0)
end Go.Proofs.YbulkftzuDoor
