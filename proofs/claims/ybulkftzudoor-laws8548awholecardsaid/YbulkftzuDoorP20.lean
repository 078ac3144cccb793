import Derived.Test.YbulkftzuDoorLm
namespace Go.Proofs.YbulkftzuDoor
open Go.RowKit
set_option linter.unusedVariables false
set_option linter.unusedSimpArgs false
attribute [local go_sem] frun_add frun_sub frun_mul frun_quo mrun run_store_float

/-- The number of the first region of a piece of code. -/
def firstId : Code → Option Nat
  | .region i _ _ => some i
  | .seq a _ => firstId a
  | .block _ b => firstId b
  | .loop b => firstId b
  | .scope b => firstId b
  | _ => none
/-- What is left of a body from the statement on that opens with region 'id'. -/
def tailAt (id : Nat) : Code → Code
  | .seq a b => if firstId a == some id then .seq a b else tailAt id b
  | c => c
theorem wp_gen {P : Program} {a b : Code} {Q : Exit → Act → World → Prop} {act : Act} {w : World} (h : ∀ r : Code, (∀ (a' : Act) (w' : World), Code.wp P b Q a' w' → Code.wp P r Q a' w') → Code.wp P (.seq a r) Q act w) : Code.wp P (.seq a b) Q act w := h b (fun _ _ h => h)
theorem wp_gen_if {P : Program} {R0 : Code} {t : Operand} {a b c : Code} {Q : Exit → Act → World → Prop} {act : Act} {w : World} (h : ∀ ra rc : Code, (∀ (Q' : Exit → Act → World → Prop) (a' : Act) (w' : World), Code.wp P a Q' a' w' → Code.wp P ra Q' a' w') → (∀ (a' : Act) (w' : World), Code.wp P c Q a' w' → Code.wp P rc Q a' w') → Code.wp P (.seq (.seq R0 (.cond t ra b)) rc) Q act w) : Code.wp P (.seq (.seq R0 (.cond t a b)) c) Q act w := h a c (fun _ _ _ h => h) (fun _ _ h => h)

/-- The state behind Limit: the group, the job. -/
structure LS (W w : World) (Hb J V S share : Nat) : Prop where
  h0 : w.cell? ⟨Hb, 0, none⟩ = some (.float .f64 V)
  h1 : w.cell? ⟨Hb, 1, none⟩ = some (.float .f64 S)
  j0 : w.cell? ⟨J, 0, none⟩ = some (.string ⟨#[]⟩)
  j1 : w.cell? ⟨J, 1, none⟩ = some (.float .f64 share)
  j3 : w.cell? ⟨J, 3, none⟩ = some (.bool false)
  j15 : w.cell? ⟨J, 15, none⟩ = some (.bool false)
  below : Below W.heap.size W w
theorem LS.draw {W w : World} {Hb J V S share : Nat} (h : LS W w Hb J V S share) (q : Nat) : LS W (w.drewN q) Hb J V S share :=
  ⟨h.h0, h.h1, h.j0, h.j1, h.j3, h.j15, below_drewN h.below _⟩
set_option maxRecDepth 1000000 in
set_option maxHeartbeats 4000000 in
theorem part20 (W w : World) (l held hsh share av Hb J V S : Nat) (i p : Int)
    {u1 u8 u9 u10 u11 u12 u13 u14 u15 u16 u19 u21 u22 u23 u24 u25 u26 u28 u29 u30 u31 u32 u33 u34 u35 u36 u37 u38 u39 u40 u41 u42 u43 u44 u45 u46 u47 u48 u49 u50 u51 u52 u53 u54 u55 u56 u57 u58 u59 u60 u61 u62 u63 u64 u65 u66 u67 u68 u69 u70 u71 u72 u73 u74 u75 u76 u77 u78 u79 u80 u81 u82 u83 u84 u85 u86 u87 u88 u89 u90 u91 u92 u93 u94 u95 u96 u97 u98 u99 u100 u101 u102 u103 u104 u105 u106 u107 u108 u109 u110 u111 u112 u113 u114 u115 u116 u117 u118 u119 u120 u121 u122 u123 u124 u125 u126 u127 u128 u129 u130 u131 u132 u133 u134 u135 u136 u137 u138 u139 u140 u141 u142 u143 u144 u145 u146 u147 : Value}
    (hS : S = if (FloatKind.f64.format.order V held != some .eq) = true then share else hsh) (hst : LS W w Hb J V S share) :
    Code.wp Ybad.prog ((Ybad.f3.body.map (tailAt 20)).getD .skip) (bodyPost Ybad.prog Ybad.f3 fun e w' => e = .returned (.bool true) ∧ Below W.heap.size W w') ⟨#[.float .f64 l, u1, .float .f64 held, .float .f64 hsh, .float .f64 share, .float .f64 av, .int .i64 i, .int .i64 p, u8, u9, u10, u11, u12, u13, u14, u15, u16, .pointer (some ⟨Hb, 0, none⟩), .pointer (some ⟨J, 0, none⟩), u19, .float .f64 V, u21, u22, u23, u24, u25, u26, .float .f64 V, u28, u29, u30, u31, u32, u33, u34, u35, u36, u37, u38, u39, u40, u41, u42, u43, u44, u45, u46, u47, u48, u49, u50, u51, u52, u53, u54, u55, u56, u57, u58, u59, u60, u61, u62, u63, u64, u65, u66, u67, u68, u69, u70, u71, u72, u73, u74, u75, u76, u77, u78, u79, u80, u81, u82, u83, u84, u85, u86, u87, u88, u89, u90, u91, u92, u93, u94, u95, u96, u97, u98, u99, u100, u101, u102, u103, u104, u105, u106, u107, u108, u109, u110, u111, u112, u113, u114, u115, u116, u117, u118, u119, u120, u121, u122, u123, u124, u125, u126, u127, u128, u129, u130, u131, u132, u133, u134, u135, u136, u137, u138, u139, u140, u141, u142, u143, u144, u145, u146, u147], []⟩ w := by
  conv => arg 2; whnf
  dsimp only
  have HE : Hid (∀ (a : Nat) (w : World), Calls Ybad.prog 8 #[.float .f64 a, .float .f64 a] w fun e w' => e = .returned (.bool true) ∧ w' = w) := same_
  have e0 := hst.h0
  have e1 := hst.h1
  have e2 := hst.j0
  have e3 := hst.j1
  have e4 := hst.j3
  have e5 := hst.j15
  have HB : Hid (Below W.heap.size W w) := hst.below
  clear hst
  refine wp_gen_if fun ra rc hra hrc => ?_
  go_wp2_with (go_at_call 8; refine (HE.out _ _).mono ?_; rintro e w1 ⟨rfl, rfl⟩)
  first
    | refine hrc _ _ ?_
    | (refine (‹∀ (a : Act) (w : World), Code.wp _ _ _ a w → _› _ _ ?_); refine hrc _ _ ?_)
  clear hra hrc ra rc
  refine wp_gen_if fun ra rc hra hrc => ?_
  go_wp2_with (go_at_call 8; refine (HE.out _ _).mono ?_; rintro e w1 ⟨rfl, rfl⟩)
  first
    | refine hrc _ _ ?_
    | (refine (‹∀ (a : Act) (w : World), Code.wp _ _ _ a w → _› _ _ ?_); refine hrc _ _ ?_)
  clear hra hrc ra rc
  refine wp_gen fun rc hrc => ?_
  go_wp2_with fail
  refine hrc _ _ ?_
  clear hrc rc
  cases hN : (FloatKind.f64.format.order V held != some .eq) with
  | true =>
    obtain rfl : S = share := by rw [hN] at hS; simpa using hS
    clear hS
    refine wp_gen fun rc hrc => ?_
    go_wp2_with (fail)
    first
      | refine hrc _ _ ?_
      | (refine (‹∀ (a : Act) (w : World), Code.wp _ _ _ a w → _› _ _ ?_); refine hrc _ _ ?_)
    clear hrc rc
    refine wp_gen_if fun ra rc hra hrc => ?_
    go_wp2_with (go_at_call 8; refine (HE.out _ _).mono ?_; rintro e w1 ⟨rfl, rfl⟩)
    first
      | refine hrc _ _ ?_
      | (refine (‹∀ (a : Act) (w : World), Code.wp _ _ _ a w → _› _ _ ?_); refine hrc _ _ ?_)
    clear hra hrc ra rc
    refine wp_gen_if fun ra rc hra hrc => ?_
    go_wp2_with (go_at_call 8; refine (HE.out _ _).mono ?_; rintro e w1 ⟨rfl, rfl⟩)
    first
      | refine hrc _ _ ?_
      | (refine (‹∀ (a : Act) (w : World), Code.wp _ _ _ a w → _› _ _ ?_); refine hrc _ _ ?_)
    clear hra hrc ra rc
    go_wp2_with fail
    go_ret
    exact ⟨rfl, HB.out⟩
  | false =>
    obtain rfl : S = hsh := by rw [hN] at hS; simpa using hS
    clear hS
    refine wp_gen fun rc hrc => ?_
    go_wp2_with (fail)
    first
      | refine hrc _ _ ?_
      | (refine (‹∀ (a : Act) (w : World), Code.wp _ _ _ a w → _› _ _ ?_); refine hrc _ _ ?_)
    clear hrc rc
    refine wp_gen_if fun ra rc hra hrc => ?_
    go_wp2_with (go_at_call 8; refine (HE.out _ _).mono ?_; rintro e w1 ⟨rfl, rfl⟩)
    first
      | refine hrc _ _ ?_
      | (refine (‹∀ (a : Act) (w : World), Code.wp _ _ _ a w → _› _ _ ?_); refine hrc _ _ ?_)
    clear hra hrc ra rc
    refine wp_gen_if fun ra rc hra hrc => ?_
    go_wp2_with (go_at_call 8; refine (HE.out _ _).mono ?_; rintro e w1 ⟨rfl, rfl⟩)
    first
      | refine hrc _ _ ?_
      | (refine (‹∀ (a : Act) (w : World), Code.wp _ _ _ a w → _› _ _ ?_); refine hrc _ _ ?_)
    clear hra hrc ra rc
    go_wp2_with fail
    go_ret
    exact ⟨rfl, HB.out⟩
end Go.Proofs.YbulkftzuDoor
