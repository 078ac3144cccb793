import Derived.Test.YbulkftysV2
namespace Go.Proofs.Ybulkftys
open Go.RowKit
set_option linter.unusedVariables false
set_option linter.unusedSimpArgs false
set_option maxRecDepth 1000000 in
set_option maxHeartbeats 4000000 in
theorem body50 (w : World) (A P R L j fr size : Nat) (m U : Int) (ca pa : Option Addr) (n pc cn cc : Nat) (z : Bool) (es : Es) (ok okp okc : Nat → Prop) (add : Nat → Bool) (pz : Bool) (px : List Int) (Q : Exit → Act → World → Prop)
    {u1 u2 u3 u4 u5 u6 u7 u8 u9 u10 u11 u12 u13 u14 u15 u16 u19 u20 u21 u22 u23 u24 u25 u26 u27 u28 u32 u33 u34 u35 u36 u37 u38 u39 u40 u41 u42 u43 u44 u45 u46 u47 u48 u49 u50 u51 u52 u53 u54 u55 u56 u57 u58 u59 u60 u61 u62 u63 u64 u65 u66 u67 u68 u69 u70 u71 u72 u73 u74 u75 u76 u77 u78 u79 u80 u81 u82 u83 u84 u85 u86 u87 u88 u89 u90 u91 u92 u93 u94 u95 u96 u97 u98 u99 u100 u101 u102 u103 u104 u105 u106 u107 u108 u109 u110 u111 u112 u113 u114 u115 u116 u117 u118 u119 u120 u121 u122 u123 u124 u125 u126 u127 u128 u129 u130 u131 u132 u133 u134 u135 u136 u137 u138 u139 u140 u141 u142 u143 u144 u145 u146 u147 u148 u149 u150 u151 u152 u153 u154 u155 u156 u157 u158 u159 u160 u161 u162 u163 u164 u165 u166 u167 u168 u169 u170 u171 u172 u173 u174 u175 u176 u177 u178 u179 u180 u181 u182 u183 u184 u185 u186 u187 u188 u189 u190 u191 u192 u193 u194 u195 u196 u197 u198 u199 u200 u201 u202 u203 u204 u205 u206 u207 u208 u209 u210 u211 u212 u213 u214 u215 u216 u217 u218 u219 u220 u221 u222 u223 u224 u225 u226 u227 u228 u229 u230 u231 u232 u233 u234 u235 u236 u237 u238 u239 u240 u241 u242 u243 u244 u245 u246 u247 u248 u249 u250 u251 u252 u253 u254 u255 u256 u257 u258 u259 u260 u261 u262 u263 u264 u265 u266 u267 u268 u269 u270 u271 u272 u273 u274 u275 u276 u277 u278 u279 u280 u281 u282 u283 u284 u285 u286 u287 u288 u289 u290 u291 u292 u293 u294 u295 u296 u297 : Value}
    (hadd0 : add = fun j => decide (U ≠ 0) && (decide (j = fr) && bitOf m fr)) (hj : j < size) (hsz : size ≤ 8) (hfr : fr < size) (hl : es.length = n) (hn : n ≤ 140737488355328)
    (c0 : w.cell? ⟨A, 0, none⟩ = some (.int .u16 m)) (c1 : w.cell? ⟨A, 1, none⟩ = some (.slice pa n pc)) (hs : Ss w okp (.slice pa n pc) z es) (hokp : ∀ b, okp b → b < w.heap.size)
    (hfp : Fp w ok size P R L (bitOf m) add z es pz px) (hok : ∀ b, ok b → b < w.heap.size) (hc : Bs w okc (.slice ca cn cc) pz px) (hokc : ∀ b, okc b → b < w.heap.size)
    (hQ : ∀ (v10 v32 v33 v34 v35 v36 v211 v212 v213 v214 v215 v216 v217 v218 v219 v220 v221 v222 v223 v224 v225 v226 v227 v228 v229 v230 v231 v232 v233 v234 v235 v236 v237 v238 v239 v240 v241 v242 v243 v244 v245 v246 v247 v248 v249 v250 v251 v252 v253 v254 v255 v256 v257 v258 v259 v260 v261 v262 v263 v264 v265 v266 v267 v268 v269 v270 v271 v272 v273 v274 v275 v276 v277 v278 v279 v280 v281 v282 v283 v284 v285 v286 v287 v288 v289 v290 v291 v292 v293 v294 v295 v296 : Value) (w' : World), Below w.heap.size w w' → Q .normal ⟨#[.int .i64 U, u1, u2, u3, u4, u5, u6, u7, u8, u9, v10, u11, u12, u13, u14, u15, u16, .int .i64 (fr : Int), .slice ca cn cc, u19, u20, u21, u22, u23, u24, u25, u26, u27, u28, .pointer (some ⟨A, 0, none⟩), .pointer (some ⟨P, 0, none⟩), .int .i64 (j : Int), v32, v33, v34, v35, v36, u37, u38, u39, u40, u41, u42, u43, u44, u45, u46, u47, u48, u49, u50, u51, u52, u53, u54, u55, u56, u57, u58, u59, u60, u61, u62, u63, u64, u65, u66, u67, u68, u69, u70, u71, u72, u73, u74, u75, u76, u77, u78, u79, u80, u81, u82, u83, u84, u85, u86, u87, u88, u89, u90, u91, u92, u93, u94, u95, u96, u97, u98, u99, u100, u101, u102, u103, u104, u105, u106, u107, u108, u109, u110, u111, u112, u113, u114, u115, u116, u117, u118, u119, u120, u121, u122, u123, u124, u125, u126, u127, u128, u129, u130, u131, u132, u133, u134, u135, u136, u137, u138, u139, u140, u141, u142, u143, u144, u145, u146, u147, u148, u149, u150, u151, u152, u153, u154, u155, u156, u157, u158, u159, u160, u161, u162, u163, u164, u165, u166, u167, u168, u169, u170, u171, u172, u173, u174, u175, u176, u177, u178, u179, u180, u181, u182, u183, u184, u185, u186, u187, u188, u189, u190, u191, u192, u193, u194, u195, u196, u197, u198, u199, u200, u201, u202, u203, u204, u205, u206, u207, u208, u209, u210, v211, v212, v213, v214, v215, v216, v217, v218, v219, v220, v221, v222, v223, v224, v225, v226, v227, v228, v229, v230, v231, v232, v233, v234, v235, v236, v237, v238, v239, v240, v241, v242, v243, v244, v245, v246, v247, v248, v249, v250, v251, v252, v253, v254, v255, v256, v257, v258, v259, v260, v261, v262, v263, v264, v265, v266, v267, v268, v269, v270, v271, v272, v273, v274, v275, v276, v277, v278, v279, v280, v281, v282, v283, v284, v285, v286, v287, v288, v289, v290, v291, v292, v293, v294, v295, v296, u297], []⟩ w') :
    Code.wp Yba.prog ((Yba.f3.body.bind (blockAt 50)).getD .skip) Q ⟨#[.int .i64 U, u1, u2, u3, u4, u5, u6, u7, u8, u9, u10, u11, u12, u13, u14, u15, u16, .int .i64 (fr : Int), .slice ca cn cc, u19, u20, u21, u22, u23, u24, u25, u26, u27, u28, .pointer (some ⟨A, 0, none⟩), .pointer (some ⟨P, 0, none⟩), .int .i64 (j : Int), u32, u33, u34, u35, u36, u37, u38, u39, u40, u41, u42, u43, u44, u45, u46, u47, u48, u49, u50, u51, u52, u53, u54, u55, u56, u57, u58, u59, u60, u61, u62, u63, u64, u65, u66, u67, u68, u69, u70, u71, u72, u73, u74, u75, u76, u77, u78, u79, u80, u81, u82, u83, u84, u85, u86, u87, u88, u89, u90, u91, u92, u93, u94, u95, u96, u97, u98, u99, u100, u101, u102, u103, u104, u105, u106, u107, u108, u109, u110, u111, u112, u113, u114, u115, u116, u117, u118, u119, u120, u121, u122, u123, u124, u125, u126, u127, u128, u129, u130, u131, u132, u133, u134, u135, u136, u137, u138, u139, u140, u141, u142, u143, u144, u145, u146, u147, u148, u149, u150, u151, u152, u153, u154, u155, u156, u157, u158, u159, u160, u161, u162, u163, u164, u165, u166, u167, u168, u169, u170, u171, u172, u173, u174, u175, u176, u177, u178, u179, u180, u181, u182, u183, u184, u185, u186, u187, u188, u189, u190, u191, u192, u193, u194, u195, u196, u197, u198, u199, u200, u201, u202, u203, u204, u205, u206, u207, u208, u209, u210, u211, u212, u213, u214, u215, u216, u217, u218, u219, u220, u221, u222, u223, u224, u225, u226, u227, u228, u229, u230, u231, u232, u233, u234, u235, u236, u237, u238, u239, u240, u241, u242, u243, u244, u245, u246, u247, u248, u249, u250, u251, u252, u253, u254, u255, u256, u257, u258, u259, u260, u261, u262, u263, u264, u265, u266, u267, u268, u269, u270, u271, u272, u273, u274, u275, u276, u277, u278, u279, u280, u281, u282, u283, u284, u285, u286, u287, u288, u289, u290, u291, u292, u293, u294, u295, u296, u297], []⟩ w := by
  conv => arg 2; whnf
  dsimp only
  have HQ : Hid _ := hQ
  obtain ⟨v, hv, hF⟩ := hfp.links j hj
  have e3 := hfp.p3
  have e4 := hfp.p4
  have er := hfp.rc j hj
  have hjlt : (j : Int) < (size : Int) := by omega
  have hj0 : (0 : Int) ≤ (j : Int) := by omega
  have hj8 : (j : Int) < 8 := by omega
  have hf0 : (0 : Int) ≤ (fr : Int) := by omega
  have hf8 : (fr : Int) < 8 := by omega
  obtain ⟨a, gc, g, hvv, hnil, hga, hel, had⟩ := hF
  subst hvv
  rw [hl] at hv hga had
  have hbb : (bitOf m j != bitOf m j) = false := by simp
  have hbb' : ((bits BinOp.and IntKind.u16 (m / 2 ^ j) 1 == 1) != (bits BinOp.and IntKind.u16 (m / 2 ^ j) 1 == 1)) = false := by simp
  have er' : w.cell? ⟨R, j, none⟩ = some (.bool (bits BinOp.and IntKind.u16 (m / 2 ^ j) 1 == 1)) := er
  have HB : Hid (∀ w', Below w.heap.size w w' → ∀ (ad : Bool), ad = add j → (0 < n + (if ad = true then 1 else 0) → a = some ⟨g, 0, none⟩) ∧ (ad = false → a.isNone = z) ∧ w'.cell? ⟨A, 1, none⟩ = some (.slice pa n pc) ∧ Ss w' okp (.slice pa n pc) z es ∧ (∀ (i : Nat) (e : Bool × List Int), es[i]? = some e → ∃ u : Value, w'.cell? ⟨g, i, none⟩ = some u ∧ Bs w' ok u e.1 e.2) ∧ (ad = true → ∃ u : Value, w'.cell? ⟨g, n, none⟩ = some u ∧ Bs w' ok u pz px) ∧ Bs w' okc (.slice ca cn cc) pz px) := by
    intro w' hb ad hae
    subst hae
    refine ⟨fun h => (hga h).1, hnil, (hb.cell (World.block_lt_of_cell? w _ c1)).trans c1, hs.mono (fun b h => hb.block b (hokp b h)) (fun _ h => h), fun i e he => ?_, fun ha => ?_, hc.mono (fun b h => hb.block b (hokc b h)) (fun _ h => h)⟩
    · obtain ⟨u, hu, hBu⟩ := hel i e he
      exact ⟨u, (hb.cell (World.block_lt_of_cell? w _ hu)).trans hu, hBu.mono (fun b h => hb.block b (hok b h)) (fun _ h => h)⟩
    · obtain ⟨u, hu, hBu⟩ := had ha
      exact ⟨u, (hb.cell (World.block_lt_of_cell? w _ hu)).trans hu, hBu.mono (fun b h => hb.block b (hok b h)) (fun _ h => h)⟩
  have HL : Hid (es.length = n) := hl
  have Hadd : Hid (add = fun j => decide (U ≠ 0) && (decide (j = fr) && bitOf m fr)) := hadd0
  clear hQ hfp hnil hga hel had hs hc hokp hok hokc er hl hadd0
  generalize hgn : n + (if add j = true then 1 else 0) = gn at hv
  have Hgn : Hid (n + (if add j = true then 1 else 0) = gn) := hgn
  clear hgn
  refine wp_gen_if fun ra rc hra hrc => ?_
  go_upto_region 50 with fail
  go_quiet (fail)
  go_wp2_with fail
  first
    | refine hrc _ _ ?_
    | (refine (‹∀ (a : Act) (w : World), Code.wp _ _ _ a w → _› _ _ ?_); refine hrc _ _ ?_)
  clear hra hrc ra rc
  have hbel : Below w.heap.size w (w.drewN nq) := below_drewN (Below.refl _ _) _
  have HF := HB.out _ hbel
  have f0 : (w.drewN nq).cell? ⟨A, 0, none⟩ = some (.int .u16 m) := by simpa using c0
  have f3 : (w.drewN nq).cell? ⟨P, 3, none⟩ = some (.slice (some ⟨L, 0, none⟩) size size) := by simpa using e3
  have fv : (w.drewN nq).cell? ⟨L, j, none⟩ = some (.slice a gn gc) := by simpa using hv
  generalize w.drewN nq = w2 at hbel HF f0 f3 fv ⊢
  have HF' : Hid _ := HF
  have HBel : Hid (Below w.heap.size w w2) := hbel
  clear HF hbel HB c0 c1 e3 e4 hv er' hbb hbb'
  refine wp_gen fun rc hrc => ?_
  go_wp2_with fail
  refine hrc _ _ ?_
  clear hrc rc f3 fv
  by_cases hU : U = 0
  · have hUb : (U != 0) = false := by simp [hU]
    have hA : Hid (false = add j) := by show false = add j; rw [Hadd.out]; simp [hU]
    clear hU
    refine wp_gen fun rc hrc => ?_
    go_wp2_with fail
    refine hrc _ _ ?_
    clear hrc rc
    obtain ⟨g1, g2, g3, g4, g5, g6, g7⟩ := HF'.out false hA.out
    have hgn := Hgn.out
    rw [← hA.out] at hgn
    exact part54 w2 A ca a pa g gn gc n pc cn cc z es okp ok okc false pz px Q HL.out hn hgn.symm g3 g4 (by rw [← hgn]; exact g1) g2 g5 g6 g7 (fun _ _ _ _ _ _ _ _ _ _ _ _ _ _ _ _ _ _ _ _ _ _ _ _ _ _ _ _ _ _ _ _ _ _ _ _ _ _ _ _ _ _ _ _ _ _ _ _ _ _ _ _ => HQ.out _ _ _ _ _ _ _ _ _ _ _ _ _ _ _ _ _ _ _ _ _ _ _ _ _ _ _ _ _ _ _ _ _ _ _ _ _ _ _ _ _ _ _ _ _ _ _ _ _ _ _ _ _ _ _ _ _ _ _ _ _ _ _ _ _ _ _ _ _ _ _ _ _ _ _ _ _ _ _ _ _ _ _ _ _ _ _ _ _ _ _ _ _ HBel.out)
  · have hUb : (U != 0) = true := by simp [hU]
    by_cases hjf : j = fr
    · have hA : Hid (bitOf m fr = add j) := by show bitOf m fr = add j; rw [Hadd.out]; simp [hU, hjf]
      have hjj : ((j : Int) == (fr : Int)) = true := by simp [hjf]
      clear hU hjf
      refine wp_gen fun rc hrc => ?_
      go_wp2_with fail
      refine hrc _ _ ?_
      clear hrc rc
      obtain ⟨g1, g2, g3, g4, g5, g6, g7⟩ := HF'.out (bitOf m fr) hA.out
      have hgn := Hgn.out
      rw [← hA.out] at hgn
      exact part54 w2 A ca a pa g gn gc n pc cn cc z es okp ok okc (bitOf m fr) pz px Q HL.out hn hgn.symm g3 g4 (by rw [← hgn]; exact g1) g2 g5 g6 g7 (fun _ _ _ _ _ _ _ _ _ _ _ _ _ _ _ _ _ _ _ _ _ _ _ _ _ _ _ _ _ _ _ _ _ _ _ _ _ _ _ _ _ _ _ _ _ _ _ _ _ _ _ _ => HQ.out _ _ _ _ _ _ _ _ _ _ _ _ _ _ _ _ _ _ _ _ _ _ _ _ _ _ _ _ _ _ _ _ _ _ _ _ _ _ _ _ _ _ _ _ _ _ _ _ _ _ _ _ _ _ _ _ _ _ _ _ _ _ _ _ _ _ _ _ _ _ _ _ _ _ _ _ _ _ _ _ _ _ _ _ _ _ _ _ _ _ _ _ _ HBel.out)
    · have hA : Hid (false = add j) := by show false = add j; rw [Hadd.out]; simp [hjf]
      have hjj : ((j : Int) == (fr : Int)) = false := by simp; omega
      clear hU hjf
      refine wp_gen fun rc hrc => ?_
      go_wp2_with fail
      refine hrc _ _ ?_
      clear hrc rc
      obtain ⟨g1, g2, g3, g4, g5, g6, g7⟩ := HF'.out false hA.out
      have hgn := Hgn.out
      rw [← hA.out] at hgn
      exact part54 w2 A ca a pa g gn gc n pc cn cc z es okp ok okc false pz px Q HL.out hn hgn.symm g3 g4 (by rw [← hgn]; exact g1) g2 g5 g6 g7 (fun _ _ _ _ _ _ _ _ _ _ _ _ _ _ _ _ _ _ _ _ _ _ _ _ _ _ _ _ _ _ _ _ _ _ _ _ _ _ _ _ _ _ _ _ _ _ _ _ _ _ _ _ => HQ.out _ _ _ _ _ _ _ _ _ _ _ _ _ _ _ _ _ _ _ _ _ _ _ _ _ _ _ _ _ _ _ _ _ _ _ _ _ _ _ _ _ _ _ _ _ _ _ _ _ _ _ _ _ _ _ _ _ _ _ _ _ _ _ _ _ _ _ _ _ _ _ _ _ _ _ _ _ _ _ _ _ _ _ _ _ _ _ _ _ _ _ _ _ HBel.out)
end Go.Proofs.Ybulkftys
