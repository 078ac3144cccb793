import Derived.Test.YbulkftzuDoorLaw
import Derived.Test.YbulkftzuDoorTie
import Derived.Test.YbulkftzuDoorCards
import Derived.WalkKit
import Derived.ProofKit
import Derived.OpenShut
import Derived.OpenVars
import Derived.ShutString
import Derived.ChangeOld
import Derived.ChangeVars
import Derived.Below
import Derived.LaidLaws
import Derived.SevenTiedAt
namespace Go.Proofs.YbulkftzuDoor
open Go.ChangeShapes Go.WideShapes Go.ChangeAt Go.RowKit
set_option linter.unusedVariables false
set_option linter.unusedSimpArgs false

theorem own : ownKnob Ybad.prog.godebug = none := by kernel_rfl
theorem laidOut : laidOutB Ybad.prog = true := by kernel_rfl
/-- The listed variable's name, off the row. -/
def gnm : String := Rows.lawS8548AWholeSpec.vars.headD ""
theorem gN : Ybad.prog.globalNamed gnm = some 0 := by kernel_rfl
theorem gT : (Ybad.prog.globals[0]?).map (·.type) = some 22 := by kernel_rfl

theorem okWide_float {P : Program} {w : World} {r : Reach} {base : Nat} {t : TypeId} {v : Value} {k : FloatKind} (ht : P.underlying t = some (.float k)) (h : Value.okWide P w r base t v) : ∃ n, v = .float k n := by
  simp only [Value.okWide, ht, Cell.okWide] at h
  cases v <;> simp_all [Cell.ok]

theorem trod_float {H : Type} {enc : TypeId × Value → H} {P : Program} {w : World} {base : Nat} {spare : Nat → Bool} {held : Bool} {fuel : Nat} {t : TypeId} {cs : List Value} {x : DataW H × List MemPlace} {k : FloatKind} (ht : P.underlying t = some (.float k)) (h : DataW.trod enc P w base spare held fuel t cs = some x) : ∃ n, cs = [.float k n] ∧ x = (.lit (.float k n), []) ∧ (Lit.float k n).wf = true := by
  cases fuel with
  | zero => simp [DataW.trod] at h
  | succ n =>
    unfold DataW.trod at h
    rw [ht] at h
    split at h <;> simp_all

/-- What the condition gives the walk: the variable's one cell. -/
theorem cell_of_laid {W : World} (h : laidMetH Ybad.prog Rows.lawS8548AWholeRow.laid W) : W.cell? ⟨0, 0, none⟩ = some (.float .f64 9218868437227405312) := by
  have h' : laidMet Ybad.prog Rows.lawS8548AWholeRow.laid W := h
  obtain ⟨ps, hl, _⟩ := h'
  obtain ⟨g, t, cs, fuel, p, q, h1, h2, h3, h4, _⟩ := hl
  have e1 : g = 0 := (Option.some.inj (gN.symm.trans h1)).symm
  subst e1
  have e2 : t = 22 := (Option.some.inj (gT.symm.trans h2)).symm
  subst e2
  obtain ⟨n, e3, e4, _⟩ := trod_float Ybad.underlying22 h4
  have e5 : n = 9218868437227405312 := by
    have := congrArg (fun x : DataW Unit × List MemPlace => x.1) e4
    simp [Rows.laid_example_com_epochwise_epochwise_pkg_policy_NoLimit] at this
    exact this.symm
  subst e5
  have h5 := World.var?_cell gN h3 0
  have h6 : cs[0]? = some (.float .f64 9218868437227405312) := by
    rw [← Array.getElem?_toList, e3]; rfl
  rw [h6] at h5
  exact h5

set_option maxRecDepth 100000 in
theorem lifted (os : Os) (started : os.Started) (H : Type) (enc : TypeId × Value → H) :
    ReturnsInHanded {} Ybad.checked os 3 .any (fun w args => (Rows.lawS8548AWholeSpec.pre enc Ybad.prog Ybad.f3 [] false w args ∧ laidMetH Ybad.prog Rows.lawS8548AWholeRow.laid w) ∧ sizedMet enc Ybad.prog Ybad.f3 (OpenSpec.ofChange Rows.lawS8548AWholeSpec) false w args)
      (Rows.lawS8548AWholeSpec.post enc Ybad.prog Ybad.f3 false true false false) := by
  refine returnsInHanded_of_change_and (C := Ybad.checked) (X := fun w _ => laidMetH Ybad.prog Rows.lawS8548AWholeRow.laid w) (fun _ _ _ hh h => h.of_heap hh) own started (by kernel_rfl) Ybad.func3
    (ChangeSpec.witness_at (enc := enc) (C := Ybad.checked) (os := os) (X := fun w _ => laidMetH Ybad.prog Rows.lawS8548AWholeRow.laid w) false
      { World.holding Ybad.prog os ⟨#[], #[], []⟩ with heap := (World.holding Ybad.prog os ⟨#[], #[], []⟩).heap.modify 0 fun
        | .cells _ t frozen => .cells #[.float .f64 9218868437227405312] t frozen
        | o => o }
      #[.float .f64 0, .float .f64 0, .float .f64 0, .float .f64 0, .float .f64 0, .float .f64 0, .int .i64 0, .int .i64 0] 8 rfl (by kernel_rfl) (by kernel_rfl) (by kernel_rfl) (by kernel_rfl) (by kernel_rfl)
      (laidMet_of_run (ps := [.cell 0 0]) 8 (by kernel_rfl) (by kernel_rfl) (by kernel_rfl))) ?_
  intro W base args ds gs before hval0 hW _ _ hL _
  have hval : ∀ (j : Nat) t v, Ybad.f3.params[j]? = some t → args[j]? = some v → Value.okWide Ybad.prog W .any base t v := hval0
  have hW' := hW
  obtain ⟨p, q, hA0, hV0, rfl, hfz, hnd⟩ := hW
  have hA : DataW.TrodAll enc Ybad.prog W 0 (fun _ => true) true Ybad.f3.params.toList args.toList ds p := hA0
  rw [Ybad.params3] at hA hval
  obtain ⟨v0, vs0, d0, ds0, p0, q0, hargs, rfl, rfl, h0, r0⟩ := trodAll_cons hA
  obtain ⟨v1, vs1, d1, ds1, p1, q1, rfl, rfl, rfl, h1, r1⟩ := trodAll_cons r0
  obtain ⟨v2, vs2, d2, ds2, p2, q2, rfl, rfl, rfl, h2, r2⟩ := trodAll_cons r1
  obtain ⟨v3, vs3, d3, ds3, p3, q3, rfl, rfl, rfl, h3, r3⟩ := trodAll_cons r2
  obtain ⟨v4, vs4, d4, ds4, p4, q4, rfl, rfl, rfl, h4, r4⟩ := trodAll_cons r3
  obtain ⟨v5, vs5, d5, ds5, p5, q5, rfl, rfl, rfl, h5, r5⟩ := trodAll_cons r4
  obtain ⟨v6, vs6, d6, ds6, p6, q6, rfl, rfl, rfl, h6, r6⟩ := trodAll_cons r5
  obtain ⟨v7, vs7, d7, ds7, p7, q7, rfl, rfl, rfl, h7, r7⟩ := trodAll_cons r6
  obtain ⟨rfl, rfl, rfl⟩ := trodAll_nil r7
  obtain rfl : args = #[v0, v1, v2, v3, v4, v5, v6, v7] := by cases args; simp_all
  have lt0 : ∀ x ∈ p0, x.block < W.heap.size := by obtain ⟨m, hm⟩ := h0; exact DataW.trod_lt m _ _ _ hm
  have lt1 : ∀ x ∈ p1, x.block < W.heap.size := by obtain ⟨m, hm⟩ := h1; exact DataW.trod_lt m _ _ _ hm
  have lt2 : ∀ x ∈ p2, x.block < W.heap.size := by obtain ⟨m, hm⟩ := h2; exact DataW.trod_lt m _ _ _ hm
  have lt3 : ∀ x ∈ p3, x.block < W.heap.size := by obtain ⟨m, hm⟩ := h3; exact DataW.trod_lt m _ _ _ hm
  have lt4 : ∀ x ∈ p4, x.block < W.heap.size := by obtain ⟨m, hm⟩ := h4; exact DataW.trod_lt m _ _ _ hm
  have lt5 : ∀ x ∈ p5, x.block < W.heap.size := by obtain ⟨m, hm⟩ := h5; exact DataW.trod_lt m _ _ _ hm
  have lt6 : ∀ x ∈ p6, x.block < W.heap.size := by obtain ⟨m, hm⟩ := h6; exact DataW.trod_lt m _ _ _ hm
  have lt7 : ∀ x ∈ p7, x.block < W.heap.size := by obtain ⟨m, hm⟩ := h7; exact DataW.trod_lt m _ _ _ hm
  obtain ⟨l, rfl⟩ := okWide_float Ybad.underlying22 (hval 0 22 v0 rfl rfl)
  obtain ⟨wt, rfl⟩ := okWide_float Ybad.underlying22 (hval 1 22 v1 rfl rfl)
  obtain ⟨hd, rfl⟩ := okWide_float Ybad.underlying22 (hval 2 22 v2 rfl rfl)
  obtain ⟨hsh, rfl⟩ := okWide_float Ybad.underlying22 (hval 3 22 v3 rfl rfl)
  obtain ⟨share, rfl⟩ := okWide_float Ybad.underlying22 (hval 4 22 v4 rfl rfl)
  obtain ⟨av, rfl⟩ := okWide_float Ybad.underlying22 (hval 5 22 v5 rfl rfl)
  obtain ⟨i, rfl⟩ := okWide_int Ybad.underlying2 (hval 6 2 v6 rfl rfl)
  obtain ⟨pe, rfl⟩ := okWide_int Ybad.underlying2 (hval 7 2 v7 rfl rfl)
  have hg := cell_of_laid hL
  have hVW : DataW.TrodVars enc Ybad.prog W (fun _ => true) [gnm] gs q := hV0
  obtain ⟨gg, tt, ccs, ff, dd, pp, rfl, _⟩ := trodVars_one hVW
  clear hA0 hval0
  refine (law W l wt hd hsh share av i pe hg).mono fun e W' ⟨he, bel⟩ => ?_
  subst he
  exact ⟨_, rfl, _, _, _, [], _, _, hW', trodAll_mk1 (shut_bool Ybad.underlying4 _),
    (trodAll_cons_mk (Below.trod laidOut (by kernel_rfl) (of_decide_eq_true (by kernel_rfl)) h0 bel lt0) (trodAll_cons_mk (Below.trod laidOut (by kernel_rfl) (of_decide_eq_true (by kernel_rfl)) h1 bel lt1) (trodAll_cons_mk (Below.trod laidOut (by kernel_rfl) (of_decide_eq_true (by kernel_rfl)) h2 bel lt2)
      (trodAll_cons_mk (Below.trod laidOut (by kernel_rfl) (of_decide_eq_true (by kernel_rfl)) h3 bel lt3) (trodAll_cons_mk (Below.trod laidOut (by kernel_rfl) (of_decide_eq_true (by kernel_rfl)) h4 bel lt4) (trodAll_cons_mk (Below.trod laidOut (by kernel_rfl) (of_decide_eq_true (by kernel_rfl)) h5 bel lt5)
        (trodAll_cons_mk (Below.trod laidOut (by kernel_rfl) (of_decide_eq_true (by kernel_rfl)) h6 bel lt6) (trodAll_cons_mk (Below.trod laidOut (by kernel_rfl) (of_decide_eq_true (by kernel_rfl)) h7 bel lt7) trodAll_mk0)))))))),
    Below.trodVars laidOut bel (by kernel_rfl) hVW, bel.frame _, fun h => by cases h⟩

theorem over : Rows.LawS8548AWholeSaid :=
  OpenClaim.holds_of_wide 3 Ybad.f3 rfl rfl rfl rfl rfl rfl rfl ⟨rfl, rfl, rfl, rfl, rfl⟩ rfl rfl rfl rfl rfl (by kernel_rfl) Ybad.func3 (by kernel_rfl)
    (of_decide_eq_true (by kernel_rfl)) (by unfold Func.isWrapper; first | (rw [if_pos (by decide +kernel)]; kernel_rfl) | (rw [if_neg (by decide +kernel)]; exact ⟨rfl, rfl⟩))
    (fun os started H enc _ => lifted os started H enc)

/-- THE STATEMENT. -/
theorem proved : Rows.LawS8548AWholeCardSaid :=
  Claim7.holds_tied_plain_at .later [] [.called] true _ false
    over (fun _ h => by cases h) (by kernel_rfl) (fun _ h => by cases h) lawS8548AWhole_row_tie rfl ⟨rfl, rfl⟩ (by kernel_rfl) rfl
    (fun f fn hf hfn => by
      obtain rfl : f = 3 := Option.some.inj ((show Ybad.prog.funcNamed Rows.lawS8548AWholeRow.func = some 3 by kernel_rfl).symm.trans hf) |>.symm
      obtain rfl : fn = Ybad.f3 := (Option.some.inj (Ybad.func3.symm.trans hfn)).symm
      exact ⟨by kernel_rfl, fun j t ht => by
        rw [Ybad.params3] at ht
        have h3 : t = 22 ∨ t = 2 := by
          rcases j with _ | _ | _ | _ | _ | _ | _ | _ | j <;> simp at ht <;> simp [← ht]
        rcases h3 with rfl | rfl
        · exact (show Ybad.prog.wantsStandIn 22 = false by kernel_rfl)
        · exact (show Ybad.prog.wantsStandIn 2 = false by kernel_rfl)⟩)
    (by kernel_rfl)
end Go.Proofs.YbulkftzuDoor
