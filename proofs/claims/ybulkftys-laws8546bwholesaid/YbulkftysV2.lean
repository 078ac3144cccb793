import Derived.Test.YbulkftysV1
namespace Go.Proofs.Ybulkftys
open Go.RowKit
set_option linter.unusedVariables false
set_option linter.unusedSimpArgs false

theorem wp_gen_if {P : Program} {R0 : Code} {t : Operand} {a b c : Code} {Q : Exit → Act → World → Prop} {act : Act} {w : World} (h : ∀ ra rc : Code, (∀ (Q' : Exit → Act → World → Prop) (a' : Act) (w' : World), Code.wp P a Q' a' w' → Code.wp P ra Q' a' w') → (∀ (a' : Act) (w' : World), Code.wp P c Q a' w' → Code.wp P rc Q a' w') → Code.wp P (.seq (.seq R0 (.cond t ra b)) rc) Q act w) : Code.wp P (.seq (.seq R0 (.cond t a b)) c) Q act w := h a c (fun _ _ _ h => h) (fun _ _ h => h)
set_option maxRecDepth 1000000 in
set_option maxHeartbeats 4000000 in
theorem part54 (w : World) (A : Nat) (ca ga pa : Option Addr) (g gn gc n pc cn cc : Nat) (z : Bool) (es : Es) (ok ok' okc : Nat → Prop) (add pz : Bool) (px : List Int) (Q : Exit → Act → World → Prop)
    {u0 u1 u2 u3 u4 u5 u6 u7 u8 u9 u10 u11 u12 u13 u14 u15 u16 u17 u19 u20 u21 u22 u23 u24 u25 u26 u27 u28 u30 u31 u34 u35 u36 u37 u38 u39 u40 u41 u42 u43 u44 u45 u46 u47 u48 u49 u50 u51 u52 u53 u54 u55 u56 u57 u58 u59 u60 u61 u62 u63 u64 u65 u66 u67 u68 u69 u70 u71 u72 u73 u74 u75 u76 u77 u78 u79 u80 u81 u82 u83 u84 u85 u86 u87 u88 u89 u90 u91 u92 u93 u94 u95 u96 u97 u98 u99 u100 u101 u102 u103 u104 u105 u106 u107 u108 u109 u110 u111 u112 u113 u114 u115 u116 u117 u118 u119 u120 u121 u122 u123 u124 u125 u126 u127 u128 u129 u130 u131 u132 u133 u134 u135 u136 u137 u138 u139 u140 u141 u142 u143 u144 u145 u146 u147 u148 u149 u150 u151 u152 u153 u154 u155 u156 u157 u158 u159 u160 u161 u162 u163 u164 u165 u166 u167 u168 u169 u170 u171 u172 u173 u174 u175 u176 u177 u178 u179 u180 u181 u182 u183 u184 u185 u186 u187 u188 u189 u190 u191 u192 u193 u194 u195 u196 u197 u198 u199 u200 u201 u202 u203 u204 u205 u206 u207 u208 u209 u210 u211 u212 u213 u214 u215 u216 u217 u218 u219 u220 u221 u222 u223 u224 u225 u226 u227 u228 u229 u230 u231 u232 u233 u234 u235 u236 u237 u238 u239 u240 u241 u242 u243 u244 u245 u246 u247 u248 u249 u250 u251 u252 u253 u254 u255 u256 u257 u258 u259 u260 u261 u262 u263 u264 u265 u266 u267 u268 u269 u270 u271 u272 u273 u274 u275 u276 u277 u278 u279 u280 u281 u282 u283 u284 u285 u286 u287 u288 u289 u290 u291 u292 u293 u294 u295 u296 u297 : Value}
    (hl : es.length = n) (hn : n ≤ 140737488355328) (hgn : gn = n + if add = true then 1 else 0) (c1 : w.cell? ⟨A, 1, none⟩ = some (.slice pa n pc)) (hs : Ss w ok (.slice pa n pc) z es)
    (hg : 0 < gn → ga = some ⟨g, 0, none⟩) (hnil : add = false → ga.isNone = z) (hel : ∀ (i : Nat) (e : Bool × List Int), es[i]? = some e → ∃ u : Value, w.cell? ⟨g, i, none⟩ = some u ∧ Bs w ok' u e.1 e.2)
    (hadd : add = true → ∃ u : Value, w.cell? ⟨g, n, none⟩ = some u ∧ Bs w ok' u pz px) (hc : Bs w okc (.slice ca cn cc) pz px)
    (hQ : ∀ (v10 v34 v35 v36 v249 v250 v251 v252 v253 v254 v255 v256 v257 v258 v259 v260 v261 v262 v263 v264 v265 v266 v267 v268 v269 v270 v271 v272 v273 v274 v275 v276 v277 v278 v279 v280 v281 v282 v283 v284 v285 v286 v287 v288 v289 v290 v291 v292 v293 v294 v295 v296 : Value), Q .normal ⟨#[u0, u1, u2, u3, u4, u5, u6, u7, u8, u9, v10, u11, u12, u13, u14, u15, u16, u17, .slice ca cn cc, u19, u20, u21, u22, u23, u24, u25, u26, u27, u28, .pointer (some ⟨A, 0, none⟩), u30, u31, .slice ga gn gc, .bool add, v34, v35, v36, u37, u38, u39, u40, u41, u42, u43, u44, u45, u46, u47, u48, u49, u50, u51, u52, u53, u54, u55, u56, u57, u58, u59, u60, u61, u62, u63, u64, u65, u66, u67, u68, u69, u70, u71, u72, u73, u74, u75, u76, u77, u78, u79, u80, u81, u82, u83, u84, u85, u86, u87, u88, u89, u90, u91, u92, u93, u94, u95, u96, u97, u98, u99, u100, u101, u102, u103, u104, u105, u106, u107, u108, u109, u110, u111, u112, u113, u114, u115, u116, u117, u118, u119, u120, u121, u122, u123, u124, u125, u126, u127, u128, u129, u130, u131, u132, u133, u134, u135, u136, u137, u138, u139, u140, u141, u142, u143, u144, u145, u146, u147, u148, u149, u150, u151, u152, u153, u154, u155, u156, u157, u158, u159, u160, u161, u162, u163, u164, u165, u166, u167, u168, u169, u170, u171, u172, u173, u174, u175, u176, u177, u178, u179, u180, u181, u182, u183, u184, u185, u186, u187, u188, u189, u190, u191, u192, u193, u194, u195, u196, u197, u198, u199, u200, u201, u202, u203, u204, u205, u206, u207, u208, u209, u210, u211, u212, u213, u214, u215, u216, u217, u218, u219, u220, u221, u222, u223, u224, u225, u226, u227, u228, u229, u230, u231, u232, u233, u234, u235, u236, u237, u238, u239, u240, u241, u242, u243, u244, u245, u246, u247, u248, v249, v250, v251, v252, v253, v254, v255, v256, v257, v258, v259, v260, v261, v262, v263, v264, v265, v266, v267, v268, v269, v270, v271, v272, v273, v274, v275, v276, v277, v278, v279, v280, v281, v282, v283, v284, v285, v286, v287, v288, v289, v290, v291, v292, v293, v294, v295, v296, u297], []⟩ w) :
    Code.wp Yba.prog (((Yba.f3.body.bind (blockAt 50)).map (tailAt 54)).getD .skip) Q ⟨#[u0, u1, u2, u3, u4, u5, u6, u7, u8, u9, u10, u11, u12, u13, u14, u15, u16, u17, .slice ca cn cc, u19, u20, u21, u22, u23, u24, u25, u26, u27, u28, .pointer (some ⟨A, 0, none⟩), u30, u31, .slice ga gn gc, .bool add, u34, u35, u36, u37, u38, u39, u40, u41, u42, u43, u44, u45, u46, u47, u48, u49, u50, u51, u52, u53, u54, u55, u56, u57, u58, u59, u60, u61, u62, u63, u64, u65, u66, u67, u68, u69, u70, u71, u72, u73, u74, u75, u76, u77, u78, u79, u80, u81, u82, u83, u84, u85, u86, u87, u88, u89, u90, u91, u92, u93, u94, u95, u96, u97, u98, u99, u100, u101, u102, u103, u104, u105, u106, u107, u108, u109, u110, u111, u112, u113, u114, u115, u116, u117, u118, u119, u120, u121, u122, u123, u124, u125, u126, u127, u128, u129, u130, u131, u132, u133, u134, u135, u136, u137, u138, u139, u140, u141, u142, u143, u144, u145, u146, u147, u148, u149, u150, u151, u152, u153, u154, u155, u156, u157, u158, u159, u160, u161, u162, u163, u164, u165, u166, u167, u168, u169, u170, u171, u172, u173, u174, u175, u176, u177, u178, u179, u180, u181, u182, u183, u184, u185, u186, u187, u188, u189, u190, u191, u192, u193, u194, u195, u196, u197, u198, u199, u200, u201, u202, u203, u204, u205, u206, u207, u208, u209, u210, u211, u212, u213, u214, u215, u216, u217, u218, u219, u220, u221, u222, u223, u224, u225, u226, u227, u228, u229, u230, u231, u232, u233, u234, u235, u236, u237, u238, u239, u240, u241, u242, u243, u244, u245, u246, u247, u248, u249, u250, u251, u252, u253, u254, u255, u256, u257, u258, u259, u260, u261, u262, u263, u264, u265, u266, u267, u268, u269, u270, u271, u272, u273, u274, u275, u276, u277, u278, u279, u280, u281, u282, u283, u284, u285, u286, u287, u288, u289, u290, u291, u292, u293, u294, u295, u296, u297], []⟩ w := by
  conv => arg 2; whnf
  dsimp only
  have HQ : Hid _ := hQ
  have HL : Hid (es.length = n) := hl
  have HE : Hid (Ss w ok (.slice pa n pc) z es ∧ (∀ (i : Nat) (e : Bool × List Int), es[i]? = some e → ∃ u : Value, w.cell? ⟨g, i, none⟩ = some u ∧ Bs w ok' u e.1 e.2)) := ⟨hs, hel⟩
  have hpz : pa.isNone = z := by obtain ⟨a, c, h, h2⟩ := hs.form; cases h; exact h2
  have s25 := fun w a n c n' c' => Lib.run_eql_slice_nil (P := Yba.prog) w 25 _ a n c n' c' Yba.underlying25
  have hn0 : (0 : Int) ≤ (n : Int) := by omega
  clear hQ hl hs hel
  cases add with
  | false =>
    obtain rfl : gn = n := by simpa using hgn
    have hz := hnil rfl
    have hnn : ((gn : Int) != (gn : Int)) = false := by simp
    have hgs := hg
    clear hadd hnil hgn hc hg
    refine wp_gen fun rc hrc => ?_
    go_wp2_with fail
    first
      | refine hrc _ _ ?_
      | (refine (‹∀ (a : Act) (w : World), Code.wp _ _ _ a w → _› _ _ ?_); refine hrc _ _ ?_)
    clear hrc rc
    refine wp_gen fun rc hrc => ?_
    go_wp2_with fail
    first
      | refine hrc _ _ ?_
      | (refine (‹∀ (a : Act) (w : World), Code.wp _ _ _ a w → _› _ _ ?_); refine hrc _ _ ?_)
    clear hrc rc
    refine wp_gen_if fun ra rc hra hrc => ?_
    go_wp2_with fail
    first
      | refine hrc _ _ ?_
      | (refine (‹∀ (a : Act) (w : World), Code.wp _ _ _ a w → _› _ _ ?_); refine hrc _ _ ?_)
    clear hra hrc ra rc
    have hzz : (ga.isNone != pa.isNone) = false := by rw [hz, hpz]; simp
    refine wp_gen_if fun ra rc hra hrc => ?_
    go_wp2_with fail
    first
      | refine hrc _ _ ?_
      | (refine (‹∀ (a : Act) (w : World), Code.wp _ _ _ a w → _› _ _ ?_); refine hrc _ _ ?_)
    clear hra hrc ra rc
    refine wp_gen fun rc hrc => ?_
    refine wp_seq (loop61 w A ga pa g gn gc gn pc z es ok ok' _ HL.out hn (by omega) c1 HE.out.1 hgs HE.out.2 (fun _ _ _ _ _ _ _ _ _ _ _ _ _ _ _ _ _ _ _ => ?_))
    refine hrc _ _ ?_
    clear hrc rc
    go_wp2_with fail
    exact HQ.out  _ _ _ _ _ _ _ _ _ _ _ _ _ _ _ _ _ _ _ _ _ _ _ _ _ _ _ _ _ _ _ _ _ _ _ _ _ _ _ _ _ _ _ _ _ _ _ _ _ _ _ _
  | true =>
    obtain rfl : gn = n + 1 := by simpa using hgn
    obtain rfl := hg (by omega)
    obtain ⟨u, hu, hB⟩ := hadd rfl
    have hC := same_ w ok' okc u _ pz px hB hc
    obtain ⟨a1, n1, c1', rfl⟩ : ∃ a n c, u = .slice a n c := by obtain ⟨a, c, h, _⟩ := hB.form; exact ⟨a, _, c, h⟩
    have HC : Hid (Calls _ _ _ _ _) := hC
    have hnn : (((n + 1 : Nat) : Int) != (n : Int) + 1) = false := by simp
    have hlt : (n : Int) < ((n + 1 : Nat) : Int) := by omega
    clear hadd hnil hgn hc hg hC hB
    refine wp_gen fun rc hrc => ?_
    go_wp2_with fail
    first
      | refine hrc _ _ ?_
      | (refine (‹∀ (a : Act) (w : World), Code.wp _ _ _ a w → _› _ _ ?_); refine hrc _ _ ?_)
    clear hrc rc
    refine wp_gen fun rc hrc => ?_
    go_wp2_with fail
    first
      | refine hrc _ _ ?_
      | (refine (‹∀ (a : Act) (w : World), Code.wp _ _ _ a w → _› _ _ ?_); refine hrc _ _ ?_)
    clear hrc rc
    refine wp_gen_if fun ra rc hra hrc => ?_
    go_wp2_with fail
    first
      | refine hrc _ _ ?_
      | (refine (‹∀ (a : Act) (w : World), Code.wp _ _ _ a w → _› _ _ ?_); refine hrc _ _ ?_)
    clear hra hrc ra rc
    refine wp_gen_if fun ra rc hra hrc => ?_
    go_wp2_with fail
    first
      | refine hrc _ _ ?_
      | (refine (‹∀ (a : Act) (w : World), Code.wp _ _ _ a w → _› _ _ ?_); refine hrc _ _ ?_)
    clear hra hrc ra rc
    refine wp_gen fun rc hrc => ?_
    refine wp_seq (loop61 w A (some ⟨g, 0, none⟩) pa g (n + 1) gc n pc z es ok ok' _ HL.out hn (by omega) c1 HE.out.1 (fun _ => rfl) HE.out.2 (fun _ _ _ _ _ _ _ _ _ _ _ _ _ _ _ _ _ _ _ => ?_))
    refine hrc _ _ ?_
    clear hrc rc
    go_wp2_with (go_at_call 8; refine HC.out.mono ?_; rintro e w4 ⟨rfl, rfl⟩)
    exact HQ.out  _ _ _ _ _ _ _ _ _ _ _ _ _ _ _ _ _ _ _ _ _ _ _ _ _ _ _ _ _ _ _ _ _ _ _ _ _ _ _ _ _ _ _ _ _ _ _ _ _ _ _ _
end Go.Proofs.Ybulkftys
