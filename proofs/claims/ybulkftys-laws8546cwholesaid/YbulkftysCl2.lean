import Derived.Test.YbulkftysCl1
namespace Go.Proofs.Ybulkftys
open Go.RowKit
set_option linter.unusedVariables false
set_option linter.unusedSimpArgs false
set_option maxRecDepth 1000000 in
set_option maxHeartbeats 4000000 in
theorem loop14 (W w : World) (wa ca : Option Addr) (vb vo n vc wb wo wn wc m k g1 c1 g2 c2 g3 c3 : Nat) (fv fw : Nat → Int) (Q : Exit → Act → World → Prop)
    {u1 u3 u4 u5 u6 u12 u13 u14 u15 u16 u17 u18 u19 u20 u21 u22 u23 u24 u25 u26 u27 u28 u29 u30 u31 u32 u33 u34 u35 u36 u37 u38 u39 u40 u41 u42 u43 u44 u45 u46 u47 u48 u49 u50 u51 u52 u53 u54 u55 u56 u57 u58 u59 u60 u61 u62 u63 u64 u65 u66 u67 u68 u69 u70 u71 u72 u73 u74 u75 u76 u77 u78 u79 u80 u81 u82 u83 u84 u85 u86 u87 u88 u89 u90 u91 u92 u93 u94 u95 u96 u97 u98 u99 u100 u101 u102 u103 u104 u105 u106 u107 u108 u109 u110 u111 u112 u113 u114 u115 u116 u117 u118 u119 u120 u121 u122 u123 u124 u125 u126 u127 u128 : Value}
    (hn : n ≤ 1048576) (hwn : wn ≤ 1048576) (hm : m ≤ wn) (hk : k < n) (hwa : 0 < wn → wa = some ⟨wb, wo, none⟩) (hca : 0 < wn → ca = some ⟨g2, 0, none⟩) (hcn : ca.isNone = wa.isNone) (d1 : vb ≠ g3) (d2 : 0 < wn → wb ≠ g3) (d3 : g1 ≠ g3) (d4 : 0 < wn → g2 ≠ g3) (d5 : W.heap.size ≤ g3) (hmn : m ≤ n) (hst : LS W w vb vo n wb wo wn g1 g2 g3 fv fw (tk fv fw m k))
    (hQ : ∀ (v6 v12 v13 v53 v54 v55 v56 v57 v58 v59 v60 v61 v62 v63 v64 v65 v66 v67 v68 v69 v70 v71 v72 v73 v74 v75 v76 v77 v78 v79 v80 v81 v82 v83 v84 v85 v86 v87 v88 v89 : Value), Q .normal ⟨#[.slice (some ⟨vb, vo, none⟩) n vc, u1, .slice wa wn wc, u3, u4, u5, v6, .int .i64 (k : Int), .slice wa m wc, .slice (some ⟨g1, 0, none⟩) n c1, .slice ca wn c2, .slice (some ⟨g3, 0, none⟩) n c3, v12, v13, u14, u15, u16, u17, u18, u19, u20, u21, u22, u23, u24, u25, u26, u27, u28, u29, u30, u31, u32, u33, u34, u35, u36, u37, u38, u39, u40, u41, u42, u43, u44, u45, u46, u47, u48, u49, u50, u51, u52, v53, v54, v55, v56, v57, v58, v59, v60, v61, v62, v63, v64, v65, v66, v67, v68, v69, v70, v71, v72, v73, v74, v75, v76, v77, v78, v79, v80, v81, v82, v83, v84, v85, v86, v87, v88, v89, u90, u91, u92, u93, u94, u95, u96, u97, u98, u99, u100, u101, u102, u103, u104, u105, u106, u107, u108, u109, u110, u111, u112, u113, u114, u115, u116, u117, u118, u119, u120, u121, u122, u123, u124, u125, u126, u127, u128], []⟩ w) :
    Code.wp Yba.prog ((Yba.f4.body.bind (stmtAt 14)).getD .skip) Q ⟨#[.slice (some ⟨vb, vo, none⟩) n vc, u1, .slice wa wn wc, u3, u4, u5, u6, .int .i64 (k : Int), .slice wa m wc, .slice (some ⟨g1, 0, none⟩) n c1, .slice ca wn c2, .slice (some ⟨g3, 0, none⟩) n c3, u12, u13, u14, u15, u16, u17, u18, u19, u20, u21, u22, u23, u24, u25, u26, u27, u28, u29, u30, u31, u32, u33, u34, u35, u36, u37, u38, u39, u40, u41, u42, u43, u44, u45, u46, u47, u48, u49, u50, u51, u52, u53, u54, u55, u56, u57, u58, u59, u60, u61, u62, u63, u64, u65, u66, u67, u68, u69, u70, u71, u72, u73, u74, u75, u76, u77, u78, u79, u80, u81, u82, u83, u84, u85, u86, u87, u88, u89, u90, u91, u92, u93, u94, u95, u96, u97, u98, u99, u100, u101, u102, u103, u104, u105, u106, u107, u108, u109, u110, u111, u112, u113, u114, u115, u116, u117, u118, u119, u120, u121, u122, u123, u124, u125, u126, u127, u128], []⟩ w := by
  conv => arg 2; whnf
  dsimp only
  have HQ : Hid _ := hQ
  clear hQ
  go_wp2_with fail
  go_loopg [12] n (fun q i wr => ∃ j : Nat, j + q = n ∧ i = .int .i64 j ∧ wr = w)
  case atStart => exact ⟨0, by omega, rfl, rfl⟩
  case round =>
    obtain ⟨j, hj, rfl, rfl⟩ := hrel
    by_cases hlt : j < n
    · have e1 := hst.cv j hlt
      rw [Nat.zero_add] at e1
      have e2 := (hst.row.cell hlt).1
      have hjlt : (j : Int) < (n : Int) := by omega
      have hj0 : (0 : Int) ≤ (j : Int) := by omega
      by_cases hjm : j < m
      · have e3 := hst.cw j (by omega)
        rw [Nat.zero_add] at e3
        obtain rfl := hca (by omega)
        have hjm2 : (j : Int) < (m : Int) := by omega
        have hjw : (j : Int) < (wn : Int) := by omega
        clear hst
        by_cases hmx : fv j < fw j
        · by_cases hjk : j = k
          · have hr : tk fv fw m k j = IntKind.u64.wrap (fw j + 1) := by subst hjk; simp [tk, mx, hjm, hmx]
            rw [hr] at e2
            have hne : (IntKind.u64.wrap (fw j + 1) != IntKind.u64.wrap (fw j + 1)) = false := by simp
            have hjk2 : ((j : Int) == (k : Int)) = true := by simp [hjk]
            clear hr hjk
            go_wp2_with fail
            go_roundg (gk - 1)
            case measure => omega
            case rel => exact ⟨j + 1, by omega, by go_num, rfl⟩
          · have hr : tk fv fw m k j = fw j := by simp [tk, mx, hjk, hjm, hmx]
            rw [hr] at e2
            have hne : (fw j != fw j) = false := by simp
            have hjk2 : ((j : Int) == (k : Int)) = false := by simp; omega
            clear hr hjk
            go_wp2_with fail
            go_roundg (gk - 1)
            case measure => omega
            case rel => exact ⟨j + 1, by omega, by go_num, rfl⟩
        · skip
          by_cases hjk : j = k
          · have hr : tk fv fw m k j = IntKind.u64.wrap (fv j + 1) := by subst hjk; simp [tk, mx, hjm, hmx]
            rw [hr] at e2
            have hne : (IntKind.u64.wrap (fv j + 1) != IntKind.u64.wrap (fv j + 1)) = false := by simp
            have hjk2 : ((j : Int) == (k : Int)) = true := by simp [hjk]
            clear hr hjk
            go_wp2_with fail
            go_roundg (gk - 1)
            case measure => omega
            case rel => exact ⟨j + 1, by omega, by go_num, rfl⟩
          · have hr : tk fv fw m k j = fv j := by simp [tk, mx, hjk, hjm, hmx]
            rw [hr] at e2
            have hne : (fv j != fv j) = false := by simp
            have hjk2 : ((j : Int) == (k : Int)) = false := by simp; omega
            clear hr hjk
            go_wp2_with fail
            go_roundg (gk - 1)
            case measure => omega
            case rel => exact ⟨j + 1, by omega, by go_num, rfl⟩
      · have hjm2 : ¬ (j : Int) < (m : Int) := by omega
        have hjm3 : decide ((j : Int) < (m : Int)) = false := decide_eq_false hjm2
        clear hst
        by_cases hjk : j = k
        · have hr : tk fv fw m k j = IntKind.u64.wrap (fv j + 1) := by subst hjk; simp [tk, mx, hjm]
          rw [hr] at e2
          have hne : (IntKind.u64.wrap (fv j + 1) != IntKind.u64.wrap (fv j + 1)) = false := by simp
          have hjk2 : ((j : Int) == (k : Int)) = true := by simp [hjk]
          clear hr hjk
          go_wp2_with fail
          go_roundg (gk - 1)
          case measure => omega
          case rel => exact ⟨j + 1, by omega, by go_num, rfl⟩
        · have hr : tk fv fw m k j = fv j := by simp [tk, mx, hjk, hjm]
          rw [hr] at e2
          have hne : (fv j != fv j) = false := by simp
          have hjk2 : ((j : Int) == (k : Int)) = false := by simp; omega
          clear hr hjk
          go_wp2_with fail
          go_roundg (gk - 1)
          case measure => omega
          case rel => exact ⟨j + 1, by omega, by go_num, rfl⟩
    · have : j = n := by omega
      subst this
      clear hst
      go_wp2_with fail
      exact HQ.out _ _ _ _ _ _ _ _ _ _ _ _ _ _ _ _ _ _ _ _ _ _ _ _ _ _ _ _ _ _ _ _ _ _ _ _ _ _ _ _
set_option maxRecDepth 1000000 in
set_option maxHeartbeats 4000000 in
theorem part12 (W w : World) (wa ca : Option Addr) (vb vo n vc wb wo wn wc m k g1 c1 g2 c2 g3 c3 : Nat) (fv fw : Nat → Int)
    {u1 u3 u4 u5 u6 u12 u13 u14 u15 u16 u17 u18 u19 u20 u21 u22 u23 u24 u25 u26 u27 u28 u29 u30 u31 u32 u33 u34 u35 u36 u37 u38 u39 u40 u41 u42 u43 u44 u45 u46 u47 u48 u49 u50 u51 u52 u53 u54 u55 u56 u57 u58 u59 u60 u61 u62 u63 u64 u65 u66 u67 u68 u69 u70 u71 u72 u73 u74 u75 u76 u77 u78 u79 u80 u81 u82 u83 u84 u85 u86 u87 u88 u89 u90 u91 u92 u93 u94 u95 u96 u97 u98 u99 u100 u101 u102 u103 u104 u105 u106 u107 u108 u109 u110 u111 u112 u113 u114 u115 u116 u117 u118 u119 u120 u121 u122 u123 u124 u125 u126 u127 u128 : Value}
    (hn : n ≤ 1048576) (hwn : wn ≤ 1048576) (hm : m ≤ wn) (hk : k < n) (hwa : 0 < wn → wa = some ⟨wb, wo, none⟩) (hca : 0 < wn → ca = some ⟨g2, 0, none⟩) (hcn : ca.isNone = wa.isNone) (d1 : vb ≠ g3) (d2 : 0 < wn → wb ≠ g3) (d3 : g1 ≠ g3) (d4 : 0 < wn → g2 ≠ g3) (d5 : W.heap.size ≤ g3) (hmn : m ≤ n) (hst : LS W w vb vo n wb wo wn g1 g2 g3 fv fw (tk fv fw m k)) :
    Code.wp Yba.prog ((Yba.f4.body.map (tailAt 12)).getD .skip) (bodyPost Yba.prog Yba.f4 fun e w' => e = .returned (.bool true) ∧ Below W.heap.size W w') ⟨#[.slice (some ⟨vb, vo, none⟩) n vc, u1, .slice wa wn wc, u3, u4, u5, u6, .int .i64 (k : Int), .slice wa m wc, .slice (some ⟨g1, 0, none⟩) n c1, .slice ca wn c2, .slice (some ⟨g3, 0, none⟩) n c3, u12, u13, u14, u15, u16, u17, u18, u19, u20, u21, u22, u23, u24, u25, u26, u27, u28, u29, u30, u31, u32, u33, u34, u35, u36, u37, u38, u39, u40, u41, u42, u43, u44, u45, u46, u47, u48, u49, u50, u51, u52, u53, u54, u55, u56, u57, u58, u59, u60, u61, u62, u63, u64, u65, u66, u67, u68, u69, u70, u71, u72, u73, u74, u75, u76, u77, u78, u79, u80, u81, u82, u83, u84, u85, u86, u87, u88, u89, u90, u91, u92, u93, u94, u95, u96, u97, u98, u99, u100, u101, u102, u103, u104, u105, u106, u107, u108, u109, u110, u111, u112, u113, u114, u115, u116, u117, u118, u119, u120, u121, u122, u123, u124, u125, u126, u127, u128], []⟩ w := by
  conv => arg 2; whnf
  dsimp only
  have hnn : ((n : Int) != (n : Int)) = false := by simp
  have HS : Hid (LS W w vb vo n wb wo wn g1 g2 g3 fv fw (tk fv fw m k)) := hst
  clear hst
  refine wp_gen_if fun ra rc hra hrc => ?_
  go_wp2_with fail
  first
    | refine hrc _ _ ?_
    | (refine (‹∀ (a : Act) (w : World), Code.wp _ _ _ a w → _› _ _ ?_); refine hrc _ _ ?_)
  clear hra hrc ra rc
  refine wp_gen fun rc hrc => ?_
  refine wp_seq (loop14 W w wa ca vb vo n vc wb wo wn wc m k g1 c1 g2 c2 g3 c3 fv fw _ hn hwn hm hk hwa hca hcn d1 d2 d3 d4 d5 hmn HS.out (fun _ _ _ _ _ _ _ _ _ _ _ _ _ _ _ _ _ _ _ _ _ _ _ _ _ _ _ _ _ _ _ _ _ _ _ _ _ _ _ _ => ?_))
  refine hrc _ _ ?_
  exact part24 W w wa ca vb vo n vc wb wo wn wc m k g1 c1 g2 c2 g3 c3 fv fw (tk fv fw m k) hn hwn hm hk hwa hca hcn d1 d2 d3 d4 d5 HS.out
end Go.Proofs.Ybulkftys
