import Derived.Test.YbulkftysCk
namespace Go.Proofs.Ybulkftys
open Go.RowKit
set_option linter.unusedVariables false
set_option linter.unusedSimpArgs false

/-- The number of the first region of a piece of code. -/
def firstId : Code → Option Nat
  | .region i _ _ => some i
  | .seq a _ => firstId a
  | .block _ b => firstId b
  | .loop b => firstId b
  | .scope b => firstId b
  | _ => none
/-- What is left of a body from the statement on that opens with region 'id'. -/
def tailAt (id : Nat) : Code → Code
  | .seq a b => if firstId a == some id then .seq a b else tailAt id b
  | c => c
/-- The one statement that opens with region 'id', wherever it lies. -/
def stmtAt (id : Nat) : Code → Option Code
  | .seq a b => if firstId a == some id then some a else match stmtAt id a with
    | some c => some c
    | none => stmtAt id b
  | .cond _ a b => match stmtAt id a with
    | some c => some c
    | none => stmtAt id b
  | .block _ b => stmtAt id b
  | .loop b => stmtAt id b
  | _ => none
theorem wp_gen {P : Program} {a b : Code} {Q : Exit → Act → World → Prop} {act : Act} {w : World} (h : ∀ r : Code, (∀ (a' : Act) (w' : World), Code.wp P b Q a' w' → Code.wp P r Q a' w') → Code.wp P (.seq a r) Q act w) : Code.wp P (.seq a b) Q act w := h b (fun _ _ h => h)
theorem wp_gen_if {P : Program} {R0 : Code} {t : Operand} {a b c : Code} {Q : Exit → Act → World → Prop} {act : Act} {w : World} (h : ∀ ra rc : Code, (∀ (Q' : Exit → Act → World → Prop) (a' : Act) (w' : World), Code.wp P a Q' a' w' → Code.wp P ra Q' a' w') → (∀ (a' : Act) (w' : World), Code.wp P c Q a' w' → Code.wp P rc Q a' w') → Code.wp P (.seq (.seq R0 (.cond t ra b)) rc) Q act w) : Code.wp P (.seq (.seq R0 (.cond t a b)) c) Q act w := h a c (fun _ _ _ h => h) (fun _ _ h => h)
set_option maxRecDepth 1000000 in
set_option maxHeartbeats 4000000 in
theorem loop26 (W w : World) (wa ca : Option Addr) (vb vo n vc wb wo wn wc m k g1 c1 g2 c2 g3 c3 : Nat) (fv fw f : Nat → Int) (Q : Exit → Act → World → Prop)
    {u1 u3 u4 u5 u6 u12 u13 u14 u15 u16 u17 u18 u19 u20 u21 u22 u23 u24 u25 u26 u27 u28 u29 u30 u31 u32 u33 u34 u35 u36 u37 u38 u39 u40 u41 u42 u43 u44 u45 u46 u47 u48 u49 u50 u51 u52 u53 u54 u55 u56 u57 u58 u59 u60 u61 u62 u63 u64 u65 u66 u67 u68 u69 u70 u71 u72 u73 u74 u75 u76 u77 u78 u79 u80 u81 u82 u83 u84 u85 u86 u87 u88 u89 u90 u91 u92 u93 u94 u95 u96 u97 u98 u99 u100 u101 u102 u103 u104 u105 u106 u107 u108 u109 u110 u111 u112 u113 u114 u115 u116 u117 u118 u119 u120 u121 u122 u123 u124 u125 u126 u127 u128 : Value}
    (hn : n ≤ 1048576) (hwn : wn ≤ 1048576) (hm : m ≤ wn) (hk : k < n) (hwa : 0 < wn → wa = some ⟨wb, wo, none⟩) (hca : 0 < wn → ca = some ⟨g2, 0, none⟩) (hcn : ca.isNone = wa.isNone) (d1 : vb ≠ g3) (d2 : 0 < wn → wb ≠ g3) (d3 : g1 ≠ g3) (d4 : 0 < wn → g2 ≠ g3) (d5 : W.heap.size ≤ g3) (hst : LS W w vb vo n wb wo wn g1 g2 g3 fv fw f)
    (hQ : ∀ (v14 v107 v108 v109 v110 v111 v112 v113 v114 v115 v116 v117 v118 v119 v120 : Value) (w' : World) (f' : Nat → Int), LS W w' vb vo n wb wo wn g1 g2 g3 fv fw f' → Q .normal ⟨#[.slice (some ⟨vb, vo, none⟩) n vc, u1, .slice wa wn wc, u3, u4, u5, u6, .int .i64 (k : Int), .slice wa m wc, .slice (some ⟨g1, 0, none⟩) n c1, .slice ca wn c2, .slice (some ⟨g3, 0, none⟩) n c3, u12, u13, v14, u15, u16, u17, u18, u19, u20, u21, u22, u23, u24, u25, u26, u27, u28, u29, u30, u31, u32, u33, u34, u35, u36, u37, u38, u39, u40, u41, u42, u43, u44, u45, u46, u47, u48, u49, u50, u51, u52, u53, u54, u55, u56, u57, u58, u59, u60, u61, u62, u63, u64, u65, u66, u67, u68, u69, u70, u71, u72, u73, u74, u75, u76, u77, u78, u79, u80, u81, u82, u83, u84, u85, u86, u87, u88, u89, u90, u91, u92, u93, u94, u95, u96, u97, u98, u99, u100, u101, u102, u103, u104, u105, u106, v107, v108, v109, v110, v111, v112, v113, v114, v115, v116, v117, v118, v119, v120, u121, u122, u123, u124, u125, u126, u127, u128], []⟩ w') :
    Code.wp Yba.prog ((Yba.f4.body.bind (stmtAt 26)).getD .skip) Q ⟨#[.slice (some ⟨vb, vo, none⟩) n vc, u1, .slice wa wn wc, u3, u4, u5, u6, .int .i64 (k : Int), .slice wa m wc, .slice (some ⟨g1, 0, none⟩) n c1, .slice ca wn c2, .slice (some ⟨g3, 0, none⟩) n c3, u12, u13, u14, u15, u16, u17, u18, u19, u20, u21, u22, u23, u24, u25, u26, u27, u28, u29, u30, u31, u32, u33, u34, u35, u36, u37, u38, u39, u40, u41, u42, u43, u44, u45, u46, u47, u48, u49, u50, u51, u52, u53, u54, u55, u56, u57, u58, u59, u60, u61, u62, u63, u64, u65, u66, u67, u68, u69, u70, u71, u72, u73, u74, u75, u76, u77, u78, u79, u80, u81, u82, u83, u84, u85, u86, u87, u88, u89, u90, u91, u92, u93, u94, u95, u96, u97, u98, u99, u100, u101, u102, u103, u104, u105, u106, u107, u108, u109, u110, u111, u112, u113, u114, u115, u116, u117, u118, u119, u120, u121, u122, u123, u124, u125, u126, u127, u128], []⟩ w := by
  conv => arg 2; whnf
  dsimp only
  have HQ : Hid _ := hQ
  clear hQ
  go_wp2_with fail
  go_loopg [14] n (fun q i wr => ∃ j : Nat, j + q = n ∧ i = .int .i64 j ∧ ∃ f', LS W wr vb vo n wb wo wn g1 g2 g3 fv fw f')
  case atStart => exact ⟨0, by omega, rfl, f, hst⟩
  case round =>
    obtain ⟨j, hj, rfl, f', hs⟩ := hrel
    by_cases hlt : j < n
    · have e1 := hs.cv j hlt
      rw [Nat.zero_add] at e1
      obtain ⟨e2, e3⟩ := hs.row.cell hlt
      have hjlt : (j : Int) < (n : Int) := by omega
      have hj0 : (0 : Int) ≤ (j : Int) := by omega
      have HS : Hid (∀ x : Int, ∃ f'', LS W (wr.setCell ⟨g3, j, none⟩ (.int .u64 x)) vb vo n wb wo wn g1 g2 g3 fv fw f'') := fun x => hs.set hlt x d1 d2 d3 d4 d5
      clear hs hst
      go_wp2_with fail
      go_roundg (gk - 1)
      case measure => omega
      case rel => exact ⟨j + 1, by omega, by go_num, HS.out _⟩
    · have : j = n := by omega
      subst this
      go_wp2_with fail
      exact HQ.out _ _ _ _ _ _ _ _ _ _ _ _ _ _ _ _ _ hs
set_option maxRecDepth 1000000 in
set_option maxHeartbeats 4000000 in
theorem part30 (W w : World) (wa ca : Option Addr) (vb vo n vc wb wo wn wc m k g1 c1 g2 c2 g3 c3 : Nat) (fv fw f : Nat → Int)
    {u1 u3 u4 u5 u6 u12 u13 u14 u15 u16 u17 u18 u19 u20 u21 u22 u23 u24 u25 u26 u27 u28 u29 u30 u31 u32 u33 u34 u35 u36 u37 u38 u39 u40 u41 u42 u43 u44 u45 u46 u47 u48 u49 u50 u51 u52 u53 u54 u55 u56 u57 u58 u59 u60 u61 u62 u63 u64 u65 u66 u67 u68 u69 u70 u71 u72 u73 u74 u75 u76 u77 u78 u79 u80 u81 u82 u83 u84 u85 u86 u87 u88 u89 u90 u91 u92 u93 u94 u95 u96 u97 u98 u99 u100 u101 u102 u103 u104 u105 u106 u107 u108 u109 u110 u111 u112 u113 u114 u115 u116 u117 u118 u119 u120 u121 u122 u123 u124 u125 u126 u127 u128 : Value}
    (hn : n ≤ 1048576) (hwn : wn ≤ 1048576) (hm : m ≤ wn) (hk : k < n) (hwa : 0 < wn → wa = some ⟨wb, wo, none⟩) (hca : 0 < wn → ca = some ⟨g2, 0, none⟩) (hcn : ca.isNone = wa.isNone) (d1 : vb ≠ g3) (d2 : 0 < wn → wb ≠ g3) (d3 : g1 ≠ g3) (d4 : 0 < wn → g2 ≠ g3) (d5 : W.heap.size ≤ g3) (hst : LS W w vb vo n wb wo wn g1 g2 g3 fv fw f) :
    Code.wp Yba.prog ((Yba.f4.body.map (tailAt 30)).getD .skip) (bodyPost Yba.prog Yba.f4 fun e w' => e = .returned (.bool true) ∧ Below W.heap.size W w') ⟨#[.slice (some ⟨vb, vo, none⟩) n vc, u1, .slice wa wn wc, u3, u4, u5, u6, .int .i64 (k : Int), .slice wa m wc, .slice (some ⟨g1, 0, none⟩) n c1, .slice ca wn c2, .slice (some ⟨g3, 0, none⟩) n c3, u12, u13, u14, u15, u16, u17, u18, u19, u20, u21, u22, u23, u24, u25, u26, u27, u28, u29, u30, u31, u32, u33, u34, u35, u36, u37, u38, u39, u40, u41, u42, u43, u44, u45, u46, u47, u48, u49, u50, u51, u52, u53, u54, u55, u56, u57, u58, u59, u60, u61, u62, u63, u64, u65, u66, u67, u68, u69, u70, u71, u72, u73, u74, u75, u76, u77, u78, u79, u80, u81, u82, u83, u84, u85, u86, u87, u88, u89, u90, u91, u92, u93, u94, u95, u96, u97, u98, u99, u100, u101, u102, u103, u104, u105, u106, u107, u108, u109, u110, u111, u112, u113, u114, u115, u116, u117, u118, u119, u120, u121, u122, u123, u124, u125, u126, u127, u128], []⟩ w := by
  conv => arg 2; whnf
  dsimp only
  have HC1 : Hid (Calls _ _ _ _ _) := equal11 (some ⟨vb, vo, none⟩) (some ⟨g1, 0, none⟩) vb vo g1 0 n vc c1 fv w hn (fun _ => rfl) (fun _ => rfl) hst.v hst.cv
  have HC2 : Hid (∀ q, Calls Yba.prog 11 #[.slice wa wn wc, .slice ca wn c2] (w.drewN q) fun e w' => e = .returned (.bool true) ∧ ∃ k, w' = (w.drewN q).drewN k) := fun q => equal11 wa ca wb wo g2 0 wn wc c2 fw (w.drewN q) hwn hwa hca (hst.draw q).w_ (hst.draw q).cw
  have HB : Hid (∀ q, Below W.heap.size W (w.drewN q)) := fun q => below_drewN hst.below _
  clear hst
  go_wp2_with (first | (go_at_call 11; refine HC1.out.mono ?_; clear HC1; rintro e w1 ⟨rfl, q, rfl⟩) | (go_at_call 11; refine (HC2.out q).mono ?_; rintro e w2 ⟨rfl, r, rfl⟩))
  go_ret
  exact ⟨rfl, HB.out _⟩
set_option maxRecDepth 1000000 in
set_option maxHeartbeats 4000000 in
theorem part26 (W w : World) (wa ca : Option Addr) (vb vo n vc wb wo wn wc m k g1 c1 g2 c2 g3 c3 : Nat) (fv fw f : Nat → Int)
    {u1 u3 u4 u5 u6 u12 u13 u14 u15 u16 u17 u18 u19 u20 u21 u22 u23 u24 u25 u26 u27 u28 u29 u30 u31 u32 u33 u34 u35 u36 u37 u38 u39 u40 u41 u42 u43 u44 u45 u46 u47 u48 u49 u50 u51 u52 u53 u54 u55 u56 u57 u58 u59 u60 u61 u62 u63 u64 u65 u66 u67 u68 u69 u70 u71 u72 u73 u74 u75 u76 u77 u78 u79 u80 u81 u82 u83 u84 u85 u86 u87 u88 u89 u90 u91 u92 u93 u94 u95 u96 u97 u98 u99 u100 u101 u102 u103 u104 u105 u106 u107 u108 u109 u110 u111 u112 u113 u114 u115 u116 u117 u118 u119 u120 u121 u122 u123 u124 u125 u126 u127 u128 : Value}
    (hn : n ≤ 1048576) (hwn : wn ≤ 1048576) (hm : m ≤ wn) (hk : k < n) (hwa : 0 < wn → wa = some ⟨wb, wo, none⟩) (hca : 0 < wn → ca = some ⟨g2, 0, none⟩) (hcn : ca.isNone = wa.isNone) (d1 : vb ≠ g3) (d2 : 0 < wn → wb ≠ g3) (d3 : g1 ≠ g3) (d4 : 0 < wn → g2 ≠ g3) (d5 : W.heap.size ≤ g3) (hst : LS W w vb vo n wb wo wn g1 g2 g3 fv fw f) :
    Code.wp Yba.prog ((Yba.f4.body.map (tailAt 26)).getD .skip) (bodyPost Yba.prog Yba.f4 fun e w' => e = .returned (.bool true) ∧ Below W.heap.size W w') ⟨#[.slice (some ⟨vb, vo, none⟩) n vc, u1, .slice wa wn wc, u3, u4, u5, u6, .int .i64 (k : Int), .slice wa m wc, .slice (some ⟨g1, 0, none⟩) n c1, .slice ca wn c2, .slice (some ⟨g3, 0, none⟩) n c3, u12, u13, u14, u15, u16, u17, u18, u19, u20, u21, u22, u23, u24, u25, u26, u27, u28, u29, u30, u31, u32, u33, u34, u35, u36, u37, u38, u39, u40, u41, u42, u43, u44, u45, u46, u47, u48, u49, u50, u51, u52, u53, u54, u55, u56, u57, u58, u59, u60, u61, u62, u63, u64, u65, u66, u67, u68, u69, u70, u71, u72, u73, u74, u75, u76, u77, u78, u79, u80, u81, u82, u83, u84, u85, u86, u87, u88, u89, u90, u91, u92, u93, u94, u95, u96, u97, u98, u99, u100, u101, u102, u103, u104, u105, u106, u107, u108, u109, u110, u111, u112, u113, u114, u115, u116, u117, u118, u119, u120, u121, u122, u123, u124, u125, u126, u127, u128], []⟩ w := by
  conv => arg 2; whnf
  dsimp only
  refine wp_gen fun rc hrc => ?_
  refine wp_seq (loop26 W w wa ca vb vo n vc wb wo wn wc m k g1 c1 g2 c2 g3 c3 fv fw f _ hn hwn hm hk hwa hca hcn d1 d2 d3 d4 d5 hst (fun _ _ _ _ _ _ _ _ _ _ _ _ _ _ _ w' f' hs' => ?_))
  refine hrc _ _ ?_
  exact part30 W w' wa ca vb vo n vc wb wo wn wc m k g1 c1 g2 c2 g3 c3 fv fw f' hn hwn hm hk hwa hca hcn d1 d2 d3 d4 d5 hs'
set_option maxRecDepth 1000000 in
set_option maxHeartbeats 4000000 in
theorem part24 (W w : World) (wa ca : Option Addr) (vb vo n vc wb wo wn wc m k g1 c1 g2 c2 g3 c3 : Nat) (fv fw f : Nat → Int)
    {u1 u3 u4 u5 u6 u12 u13 u14 u15 u16 u17 u18 u19 u20 u21 u22 u23 u24 u25 u26 u27 u28 u29 u30 u31 u32 u33 u34 u35 u36 u37 u38 u39 u40 u41 u42 u43 u44 u45 u46 u47 u48 u49 u50 u51 u52 u53 u54 u55 u56 u57 u58 u59 u60 u61 u62 u63 u64 u65 u66 u67 u68 u69 u70 u71 u72 u73 u74 u75 u76 u77 u78 u79 u80 u81 u82 u83 u84 u85 u86 u87 u88 u89 u90 u91 u92 u93 u94 u95 u96 u97 u98 u99 u100 u101 u102 u103 u104 u105 u106 u107 u108 u109 u110 u111 u112 u113 u114 u115 u116 u117 u118 u119 u120 u121 u122 u123 u124 u125 u126 u127 u128 : Value}
    (hn : n ≤ 1048576) (hwn : wn ≤ 1048576) (hm : m ≤ wn) (hk : k < n) (hwa : 0 < wn → wa = some ⟨wb, wo, none⟩) (hca : 0 < wn → ca = some ⟨g2, 0, none⟩) (hcn : ca.isNone = wa.isNone) (d1 : vb ≠ g3) (d2 : 0 < wn → wb ≠ g3) (d3 : g1 ≠ g3) (d4 : 0 < wn → g2 ≠ g3) (d5 : W.heap.size ≤ g3) (hst : LS W w vb vo n wb wo wn g1 g2 g3 fv fw f) :
    Code.wp Yba.prog ((Yba.f4.body.map (tailAt 24)).getD .skip) (bodyPost Yba.prog Yba.f4 fun e w' => e = .returned (.bool true) ∧ Below W.heap.size W w') ⟨#[.slice (some ⟨vb, vo, none⟩) n vc, u1, .slice wa wn wc, u3, u4, u5, u6, .int .i64 (k : Int), .slice wa m wc, .slice (some ⟨g1, 0, none⟩) n c1, .slice ca wn c2, .slice (some ⟨g3, 0, none⟩) n c3, u12, u13, u14, u15, u16, u17, u18, u19, u20, u21, u22, u23, u24, u25, u26, u27, u28, u29, u30, u31, u32, u33, u34, u35, u36, u37, u38, u39, u40, u41, u42, u43, u44, u45, u46, u47, u48, u49, u50, u51, u52, u53, u54, u55, u56, u57, u58, u59, u60, u61, u62, u63, u64, u65, u66, u67, u68, u69, u70, u71, u72, u73, u74, u75, u76, u77, u78, u79, u80, u81, u82, u83, u84, u85, u86, u87, u88, u89, u90, u91, u92, u93, u94, u95, u96, u97, u98, u99, u100, u101, u102, u103, u104, u105, u106, u107, u108, u109, u110, u111, u112, u113, u114, u115, u116, u117, u118, u119, u120, u121, u122, u123, u124, u125, u126, u127, u128], []⟩ w := by
  conv => arg 2; whnf
  dsimp only
  have s56 := fun w a n c n' c' => Lib.run_eql_slice_nil (P := Yba.prog) w 56 _ a n c n' c' Yba.underlying56
  have HC1 : Hid (Calls _ _ _ _ _) := equal11 (some ⟨vb, vo, none⟩) (some ⟨g1, 0, none⟩) vb vo g1 0 n vc c1 fv w hn (fun _ => rfl) (fun _ => rfl) hst.v hst.cv
  have HC2 : Hid (∀ q, Calls Yba.prog 11 #[.slice wa wn wc, .slice ca wn c2] (w.drewN q) fun e w' => e = .returned (.bool true) ∧ ∃ k, w' = (w.drewN q).drewN k) := fun q => equal11 wa ca wb wo g2 0 wn wc c2 fw (w.drewN q) hwn hwa hca (hst.draw q).w_ (hst.draw q).cw
  have HS : Hid (∀ q, LS W (w.drewN q) vb vo n wb wo wn g1 g2 g3 fv fw f) := fun q => hst.draw q
  have HH : Hid (ca.isNone = wa.isNone) := hcn
  clear hst
  refine wp_gen_if fun ra rc hra hrc => ?_
  go_wp2_with (first | (go_at_call 11; refine HC1.out.mono ?_; clear HC1; rintro e w1 ⟨rfl, q, rfl⟩) | (go_at_call 11; refine (HC2.out q).mono ?_; rintro e w2 ⟨rfl, r, rfl⟩))
  first
    | refine hrc _ _ ?_
    | (refine (‹∀ (a : Act) (w : World), Code.wp _ _ _ a w → _› _ _ ?_); refine hrc _ _ ?_)
  exact part26 W _ wa ca vb vo n vc wb wo wn wc m k g1 c1 g2 c2 g3 c3 fv fw f hn hwn hm hk hwa hca HH.out d1 d2 d3 d4 d5 (HS.out _)
end Go.Proofs.Ybulkftys
