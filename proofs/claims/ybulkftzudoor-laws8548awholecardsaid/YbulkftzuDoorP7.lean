import Derived.Test.YbulkftzuDoorP14
namespace Go.Proofs.YbulkftzuDoor
open Go.RowKit
set_option linter.unusedVariables false
set_option linter.unusedSimpArgs false
attribute [local go_sem] frun_add frun_sub frun_mul frun_quo mrun run_store_float
set_option maxRecDepth 1000000 in
set_option maxHeartbeats 4000000 in
theorem part12 (W w : World) (l held hsh share av Hb J V S sh s : Nat) (i p : Int) (so : Option Nat)
    {u1 u8 u9 u10 u11 u12 u13 u14 u15 u16 u19 u23 u24 u26 u27 u28 u29 u30 u31 u32 u33 u34 u35 u36 u37 u38 u39 u40 u41 u42 u43 u44 u45 u46 u47 u48 u49 u50 u51 u52 u53 u54 u55 u56 u57 u58 u59 u60 u61 u62 u63 u64 u65 u66 u67 u68 u69 u70 u71 u72 u73 u74 u75 u76 u77 u78 u79 u80 u81 u82 u83 u84 u85 u86 u87 u88 u89 u90 u91 u92 u93 u94 u95 u96 u97 u98 u99 u100 u101 u102 u103 u104 u105 u106 u107 u108 u109 u110 u111 u112 u113 u114 u115 u116 u117 u118 u119 u120 u121 u122 u123 u124 u125 u126 u127 u128 u129 u130 u131 u132 u133 u134 u135 u136 u137 u138 u139 u140 u141 u142 u143 u144 u145 u146 u147 : Value}
    (hs : R so s) (hV : V = heldV so l held sh (gtB share hsh)) (hS : S = if (FloatKind.f64.format.order V held != some .eq) = true then share else hsh) (hst : LS W w Hb J V S share) :
    Code.wp Ybad.prog ((Ybad.f3.body.map (tailAt 12)).getD .skip) (bodyPost Ybad.prog Ybad.f3 fun e w' => e = .returned (.bool true) ∧ Below W.heap.size W w') ⟨#[.float .f64 l, u1, .float .f64 held, .float .f64 hsh, .float .f64 share, .float .f64 av, .int .i64 i, .int .i64 p, u8, u9, u10, u11, u12, u13, u14, u15, u16, .pointer (some ⟨Hb, 0, none⟩), .pointer (some ⟨J, 0, none⟩), u19, .float .f64 V, .float .f64 9218868437227405312, .float .f64 sh, u23, u24, .float .f64 s, u26, u27, u28, u29, u30, u31, u32, u33, u34, u35, u36, u37, u38, u39, u40, u41, u42, u43, u44, u45, u46, u47, u48, u49, u50, u51, u52, u53, u54, u55, u56, u57, u58, u59, u60, u61, u62, u63, u64, u65, u66, u67, u68, u69, u70, u71, u72, u73, u74, u75, u76, u77, u78, u79, u80, u81, u82, u83, u84, u85, u86, u87, u88, u89, u90, u91, u92, u93, u94, u95, u96, u97, u98, u99, u100, u101, u102, u103, u104, u105, u106, u107, u108, u109, u110, u111, u112, u113, u114, u115, u116, u117, u118, u119, u120, u121, u122, u123, u124, u125, u126, u127, u128, u129, u130, u131, u132, u133, u134, u135, u136, u137, u138, u139, u140, u141, u142, u143, u144, u145, u146, u147], []⟩ w := by
  conv => arg 2; whnf
  dsimp only
  have HH : Hid (V = heldV so l held sh (gtB share hsh) ∧ (S = if (FloatKind.f64.format.order V held != some .eq) = true then share else hsh) ∧ ∀ q, LS W (w.drewN q) Hb J V S share) := ⟨hV, hS, fun q => hst.draw q⟩
  clear hV hS hst
  cases h1 : gtB share hsh with
  | true =>
    have h1' : (FloatKind.f64.format.order share hsh == some .gt) = true := h1
    cases h2 : gtB l held with
    | true =>
      have h2' : (FloatKind.f64.format.order l held == some .gt) = true := h2
      have hU : (gtB share hsh && gtB l held) = true := by rw [h1, h2]; rfl
      clear h1 h2
      refine wp_gen fun rc hrc => ?_
      go_wp2_with (fail)
      first
        | refine hrc _ _ ?_
        | (refine (‹∀ (a : Act) (w : World), Code.wp _ _ _ a w → _› _ _ ?_); refine hrc _ _ ?_)
      clear hrc rc
      exact part14 W _ l held hsh share av Hb J V S sh _ i p so true hU (hs.f (R_self _) _ _) HH.out.1 HH.out.2.1 (by first | exact HH.out.2.2 _ | exact HH.out.2.2 0)
    | false =>
      have h2' : (FloatKind.f64.format.order l held == some .gt) = false := h2
      have hU : (gtB share hsh && gtB l held) = false := by rw [h1, h2]; rfl
      clear h1 h2
      refine wp_gen fun rc hrc => ?_
      go_wp2_with (fail)
      first
        | refine hrc _ _ ?_
        | (refine (‹∀ (a : Act) (w : World), Code.wp _ _ _ a w → _› _ _ ?_); refine hrc _ _ ?_)
      clear hrc rc
      exact part14 W _ l held hsh share av Hb J V S sh _ i p so false hU hs HH.out.1 HH.out.2.1 (by first | exact HH.out.2.2 _ | exact HH.out.2.2 0)
  | false =>
    have h1' : (FloatKind.f64.format.order share hsh == some .gt) = false := h1
    have hU : (gtB share hsh && gtB l held) = false := by rw [h1]; rfl
    clear h1
    refine wp_gen fun rc hrc => ?_
    go_wp2_with (fail)
    first
      | refine hrc _ _ ?_
      | (refine (‹∀ (a : Act) (w : World), Code.wp _ _ _ a w → _› _ _ ?_); refine hrc _ _ ?_)
    clear hrc rc
    exact part14 W _ l held hsh share av Hb J V S sh _ i p so false hU hs HH.out.1 HH.out.2.1 (by first | exact HH.out.2.2 _ | exact HH.out.2.2 0)
set_option maxRecDepth 1000000 in
set_option maxHeartbeats 4000000 in
theorem part9 (W w : World) (l held hsh share av Hb J V S sh : Nat) (i p : Int)
    {u1 u8 u9 u10 u11 u12 u13 u14 u15 u16 u19 u23 u24 u25 u26 u27 u28 u29 u30 u31 u32 u33 u34 u35 u36 u37 u38 u39 u40 u41 u42 u43 u44 u45 u46 u47 u48 u49 u50 u51 u52 u53 u54 u55 u56 u57 u58 u59 u60 u61 u62 u63 u64 u65 u66 u67 u68 u69 u70 u71 u72 u73 u74 u75 u76 u77 u78 u79 u80 u81 u82 u83 u84 u85 u86 u87 u88 u89 u90 u91 u92 u93 u94 u95 u96 u97 u98 u99 u100 u101 u102 u103 u104 u105 u106 u107 u108 u109 u110 u111 u112 u113 u114 u115 u116 u117 u118 u119 u120 u121 u122 u123 u124 u125 u126 u127 u128 u129 u130 u131 u132 u133 u134 u135 u136 u137 u138 u139 u140 u141 u142 u143 u144 u145 u146 u147 : Value}
    (hV : V = heldV (slackO i p) l held sh (gtB share hsh)) (hS : S = if (FloatKind.f64.format.order V held != some .eq) = true then share else hsh) (hst : LS W w Hb J V S share) :
    Code.wp Ybad.prog ((Ybad.f3.body.map (tailAt 9)).getD .skip) (bodyPost Ybad.prog Ybad.f3 fun e w' => e = .returned (.bool true) ∧ Below W.heap.size W w') ⟨#[.float .f64 l, u1, .float .f64 held, .float .f64 hsh, .float .f64 share, .float .f64 av, .int .i64 i, .int .i64 p, u8, u9, u10, u11, u12, u13, u14, u15, u16, .pointer (some ⟨Hb, 0, none⟩), .pointer (some ⟨J, 0, none⟩), u19, .float .f64 V, .float .f64 9218868437227405312, .float .f64 sh, u23, u24, u25, u26, u27, u28, u29, u30, u31, u32, u33, u34, u35, u36, u37, u38, u39, u40, u41, u42, u43, u44, u45, u46, u47, u48, u49, u50, u51, u52, u53, u54, u55, u56, u57, u58, u59, u60, u61, u62, u63, u64, u65, u66, u67, u68, u69, u70, u71, u72, u73, u74, u75, u76, u77, u78, u79, u80, u81, u82, u83, u84, u85, u86, u87, u88, u89, u90, u91, u92, u93, u94, u95, u96, u97, u98, u99, u100, u101, u102, u103, u104, u105, u106, u107, u108, u109, u110, u111, u112, u113, u114, u115, u116, u117, u118, u119, u120, u121, u122, u123, u124, u125, u126, u127, u128, u129, u130, u131, u132, u133, u134, u135, u136, u137, u138, u139, u140, u141, u142, u143, u144, u145, u146, u147], []⟩ w := by
  conv => arg 2; whnf
  dsimp only
  have HH : Hid (V = heldV (slackO i p) l held sh (gtB share hsh) ∧ (S = if (FloatKind.f64.format.order V held != some .eq) = true then share else hsh) ∧ ∀ q, LS W (w.drewN q) Hb J V S share) := ⟨hV, hS, fun q => hst.draw q⟩
  clear hV hS hst
  have HC : Hid (∀ (d : Int) (w : World), Calls Ybad.prog 6 #[.int .i64 d] w fun e w' => ∃ r, e = .returned (.float .f64 r) ∧ R (secO d) r ∧ ∃ k, w' = w.drewN k) := sec_
  refine wp_gen fun rc hrc => ?_
  go_wp2_with (go_at_call 6; refine (HC.out _ _).mono ?_; rintro e w1 ⟨r1, rfl, h1, q1, rfl⟩)
  refine hrc _ _ ?_
  clear hrc rc
  refine wp_gen fun rc hrc => ?_
  go_wp2_with (go_at_call 6; refine (HC.out _ _).mono ?_; rintro e w1 ⟨r2, rfl, h2, q2, rfl⟩)
  refine hrc _ _ ?_
  clear hrc rc
  refine wp_gen fun rc hrc => ?_
  go_wp2_with fail
  refine hrc _ _ ?_
  clear hrc rc
  exact part12 W _ l held hsh share av Hb J V S sh _ i p (slackO i p) (((h1.f h2 _ _).f (R_self _) _ _).m (R_self _) _) HH.out.1 HH.out.2.1 (HH.out.2.2 _)
set_option maxRecDepth 1000000 in
set_option maxHeartbeats 4000000 in
theorem part7 (W w : World) (l held hsh share av Hb J V S : Nat) (i p : Int)
    {u1 u8 u9 u10 u11 u12 u13 u14 u15 u16 u19 u23 u24 u25 u26 u27 u28 u29 u30 u31 u32 u33 u34 u35 u36 u37 u38 u39 u40 u41 u42 u43 u44 u45 u46 u47 u48 u49 u50 u51 u52 u53 u54 u55 u56 u57 u58 u59 u60 u61 u62 u63 u64 u65 u66 u67 u68 u69 u70 u71 u72 u73 u74 u75 u76 u77 u78 u79 u80 u81 u82 u83 u84 u85 u86 u87 u88 u89 u90 u91 u92 u93 u94 u95 u96 u97 u98 u99 u100 u101 u102 u103 u104 u105 u106 u107 u108 u109 u110 u111 u112 u113 u114 u115 u116 u117 u118 u119 u120 u121 u122 u123 u124 u125 u126 u127 u128 u129 u130 u131 u132 u133 u134 u135 u136 u137 u138 u139 u140 u141 u142 u143 u144 u145 u146 u147 : Value}
    (hV : V = heldV (slackO i p) l held (sharedV share av) (gtB share hsh)) (hS : S = if (FloatKind.f64.format.order V held != some .eq) = true then share else hsh) (hst : LS W w Hb J V S share) :
    Code.wp Ybad.prog ((Ybad.f3.body.map (tailAt 7)).getD .skip) (bodyPost Ybad.prog Ybad.f3 fun e w' => e = .returned (.bool true) ∧ Below W.heap.size W w') ⟨#[.float .f64 l, u1, .float .f64 held, .float .f64 hsh, .float .f64 share, .float .f64 av, .int .i64 i, .int .i64 p, u8, u9, u10, u11, u12, u13, u14, u15, u16, .pointer (some ⟨Hb, 0, none⟩), .pointer (some ⟨J, 0, none⟩), u19, .float .f64 V, .float .f64 9218868437227405312, .float .f64 9218868437227405312, u23, u24, u25, u26, u27, u28, u29, u30, u31, u32, u33, u34, u35, u36, u37, u38, u39, u40, u41, u42, u43, u44, u45, u46, u47, u48, u49, u50, u51, u52, u53, u54, u55, u56, u57, u58, u59, u60, u61, u62, u63, u64, u65, u66, u67, u68, u69, u70, u71, u72, u73, u74, u75, u76, u77, u78, u79, u80, u81, u82, u83, u84, u85, u86, u87, u88, u89, u90, u91, u92, u93, u94, u95, u96, u97, u98, u99, u100, u101, u102, u103, u104, u105, u106, u107, u108, u109, u110, u111, u112, u113, u114, u115, u116, u117, u118, u119, u120, u121, u122, u123, u124, u125, u126, u127, u128, u129, u130, u131, u132, u133, u134, u135, u136, u137, u138, u139, u140, u141, u142, u143, u144, u145, u146, u147], []⟩ w := by
  conv => arg 2; whnf
  dsimp only
  have HH : Hid (V = heldV (slackO i p) l held (sharedV share av) (gtB share hsh) ∧ (S = if (FloatKind.f64.format.order V held != some .eq) = true then share else hsh) ∧ ∀ q, LS W (w.drewN q) Hb J V S share) := ⟨hV, hS, fun q => hst.draw q⟩
  clear hV hS hst
  cases ho : Ieee.double.order share 4607182418800017408 with
  | none =>
    have hsv : sharedV share av = av := by simp [sharedV, ltB, FloatKind.format, ho]
    have ho1 : FloatKind.f64.format.order share 4607182418800017408 = none := ho
    have ho2 : FloatKind.f64.format.order share share = none := order_one ho
    clear ho
    refine wp_gen fun rc hrc => ?_
    go_wp2_with (fail)
    first
      | refine hrc _ _ ?_
      | (refine (‹∀ (a : Act) (w : World), Code.wp _ _ _ a w → _› _ _ ?_); refine hrc _ _ ?_)
    clear hrc rc
    exact part9 W _ l held hsh share av Hb J V S av i p (by rw [← hsv]; exact HH.out.1) HH.out.2.1 (by first | exact HH.out.2.2 _ | exact HH.out.2.2 0)
  | some x =>
    have hself : FloatKind.f64.format.order share share = some .eq := order_self ho
    cases x with
    | lt =>
      have hsv : sharedV share av = 9218868437227405312 := by simp [sharedV, ltB, FloatKind.format, ho]
      have ho1 : FloatKind.f64.format.order share 4607182418800017408 = some .lt := ho
      clear ho
      refine wp_gen fun rc hrc => ?_
      go_wp2_with (fail)
      first
        | refine hrc _ _ ?_
        | (refine (‹∀ (a : Act) (w : World), Code.wp _ _ _ a w → _› _ _ ?_); refine hrc _ _ ?_)
      clear hrc rc
      exact part9 W _ l held hsh share av Hb J V S 9218868437227405312 i p (by rw [← hsv]; exact HH.out.1) HH.out.2.1 (by first | exact HH.out.2.2 _ | exact HH.out.2.2 0)
    | eq =>
      have hsv : sharedV share av = av := by simp [sharedV, ltB, FloatKind.format, ho]
      have ho1 : FloatKind.f64.format.order share 4607182418800017408 = some .eq := ho
      clear ho
      refine wp_gen fun rc hrc => ?_
      go_wp2_with (fail)
      first
        | refine hrc _ _ ?_
        | (refine (‹∀ (a : Act) (w : World), Code.wp _ _ _ a w → _› _ _ ?_); refine hrc _ _ ?_)
      clear hrc rc
      exact part9 W _ l held hsh share av Hb J V S av i p (by rw [← hsv]; exact HH.out.1) HH.out.2.1 (by first | exact HH.out.2.2 _ | exact HH.out.2.2 0)
    | gt =>
      have hsv : sharedV share av = av := by simp [sharedV, ltB, FloatKind.format, ho]
      have ho1 : FloatKind.f64.format.order share 4607182418800017408 = some .gt := ho
      clear ho
      refine wp_gen fun rc hrc => ?_
      go_wp2_with (fail)
      first
        | refine hrc _ _ ?_
        | (refine (‹∀ (a : Act) (w : World), Code.wp _ _ _ a w → _› _ _ ?_); refine hrc _ _ ?_)
      clear hrc rc
      exact part9 W _ l held hsh share av Hb J V S av i p (by rw [← hsv]; exact HH.out.1) HH.out.2.1 (by first | exact HH.out.2.2 _ | exact HH.out.2.2 0)
end Go.Proofs.YbulkftzuDoor
