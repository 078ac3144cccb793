import Derived.Test.YbulkftysOut
namespace Go.Proofs.Ybulkftys
open Go.RowKit
set_option linter.unusedVariables false
set_option linter.unusedSimpArgs false

theorem wp_gen3 {P : Program} {R0 : Code} {t : Operand} {s1 s2 B c : Code} {Q : Exit → Act → World → Prop} {act : Act} {w : World} (h : ∀ B' : Code, (∀ (Q' : Exit → Act → World → Prop) (a' : Act) (w' : World), Code.wp P B Q' a' w' → Code.wp P B' Q' a' w') → Code.wp P (.seq R0 (.seq (.cond t s1 s2) (.seq B' c))) Q act w) : Code.wp P (.seq R0 (.seq (.cond t s1 s2) (.seq B c))) Q act w := h B (fun _ _ _ h => h)
set_option maxRecDepth 1000000 in
set_option maxHeartbeats 4000000 in
theorem outer (W w0 : World) (qa : Option Addr) (qb qo n qc size MB HB : Nat) (mask : Nat → Int) (pa : Nat → Option Addr) (pc : Nat → Nat) (z : Nat → Bool) (es : Nat → Es) (Q : Exit → Act → World → Prop)
    {u0 u1 u2 u3 u5 u6 u7 u8 u9 u10 u11 u12 u13 u14 u15 u17 u18 u21 u22 u23 u24 u25 u26 u27 u28 u29 u30 u31 u32 u33 u34 u35 u36 u37 u38 u39 u40 u41 u42 u43 u44 u45 u46 u47 u48 u49 u50 u51 u52 u53 u54 u55 u56 u57 u58 u59 u60 u61 u62 u63 u64 u65 u66 u67 u68 u69 u70 u71 u72 u73 u74 u75 u76 u77 u78 u79 u80 u81 u82 u83 u84 u85 u86 u87 u88 u89 u90 u91 u92 u93 u94 u95 u96 u97 u98 u99 u100 u101 u102 u103 u104 u105 u106 u107 u108 u109 u110 u111 u112 u113 u114 u115 u116 u117 u118 u119 u120 u121 u122 u123 u124 u125 u126 u127 u128 u129 u130 u131 u132 u133 u134 u135 u136 u137 u138 u139 u140 u141 u142 u143 u144 u145 u146 u147 u148 u149 u150 u151 u152 u153 u154 u155 u156 u157 u158 u159 u160 u161 u162 u163 u164 u165 u166 u167 u168 u169 u170 u171 u172 u173 u174 u175 u176 u177 u178 u179 u180 u181 u182 u183 u184 u185 u186 u187 u188 u189 u190 u191 u192 u193 u194 u195 u196 u197 u198 u199 u200 u201 u202 u203 u204 u205 u206 u207 u208 u209 u210 u211 u212 u213 u214 u215 u216 u217 u218 u219 u220 u221 u222 u223 u224 u225 u226 u227 u228 u229 u230 u231 u232 u233 u234 u235 u236 u237 u238 u239 u240 u241 u242 u243 u244 u245 u246 u247 u248 u249 u250 u251 u252 u253 u254 u255 u256 u257 u258 u259 u260 u261 u262 u263 u264 u265 u266 u267 u268 u269 u270 u271 u272 u273 u274 u275 u276 u277 u278 u279 u280 u281 u282 u283 u284 u285 u286 u287 u288 u289 u290 u291 u292 u293 u294 u295 u296 u297 : Value}
    (hsz : size ≤ 8) (hz : 0 < size) (hn : n * 32 ≤ 140737488355328) (hq : 0 < n → qa = some ⟨qb, qo, none⟩ ∧ qb < W.heap.size) (hM : MB < w0.heap.size) (hH : HB < w0.heap.size) (hMH : MB ≠ HB) (hWM : W.heap.size ≤ MB) (hWH : W.heap.size ≤ HB) (hes : ∀ i, i < n → (es i).length * 24 ≤ 140737488351232) (hby : ∀ i, i < n → ∀ e ∈ es i, e.2.length ≤ 140737488351232) (hm0 : Bld w0 w0 MB HB n 0 size mask z es) (hbel : Below W.heap.size W w0) (hsrc : Src W W qb qo n mask pa pc z es)
    (hQ : ∀ (v21 v22 v23 v24 v25 v84 v85 v86 v87 v88 v89 v90 v91 v92 v93 v94 v95 v96 v97 v98 v99 v100 v101 v102 v103 v104 v105 v106 v107 v108 v109 v110 v111 v112 v113 v114 v115 v116 v117 v118 v119 v120 v121 v122 v123 v124 v125 v126 v127 v128 v129 v130 v131 v132 v133 : Value) (w' : World), Bld w0 w' MB HB n n size mask z es → Q .normal ⟨#[u0, u1, u2, u3, .slice qa n qc, u5, u6, u7, u8, u9, u10, u11, u12, u13, u14, u15, .int .i64 (size : Int), u17, u18, .slice (some ⟨MB, 0, none⟩) n n, .slice (some ⟨HB, 0, none⟩) n n, v21, v22, v23, v24, v25, u26, u27, u28, u29, u30, u31, u32, u33, u34, u35, u36, u37, u38, u39, u40, u41, u42, u43, u44, u45, u46, u47, u48, u49, u50, u51, u52, u53, u54, u55, u56, u57, u58, u59, u60, u61, u62, u63, u64, u65, u66, u67, u68, u69, u70, u71, u72, u73, u74, u75, u76, u77, u78, u79, u80, u81, u82, u83, v84, v85, v86, v87, v88, v89, v90, v91, v92, v93, v94, v95, v96, v97, v98, v99, v100, v101, v102, v103, v104, v105, v106, v107, v108, v109, v110, v111, v112, v113, v114, v115, v116, v117, v118, v119, v120, v121, v122, v123, v124, v125, v126, v127, v128, v129, v130, v131, v132, v133, u134, u135, u136, u137, u138, u139, u140, u141, u142, u143, u144, u145, u146, u147, u148, u149, u150, u151, u152, u153, u154, u155, u156, u157, u158, u159, u160, u161, u162, u163, u164, u165, u166, u167, u168, u169, u170, u171, u172, u173, u174, u175, u176, u177, u178, u179, u180, u181, u182, u183, u184, u185, u186, u187, u188, u189, u190, u191, u192, u193, u194, u195, u196, u197, u198, u199, u200, u201, u202, u203, u204, u205, u206, u207, u208, u209, u210, u211, u212, u213, u214, u215, u216, u217, u218, u219, u220, u221, u222, u223, u224, u225, u226, u227, u228, u229, u230, u231, u232, u233, u234, u235, u236, u237, u238, u239, u240, u241, u242, u243, u244, u245, u246, u247, u248, u249, u250, u251, u252, u253, u254, u255, u256, u257, u258, u259, u260, u261, u262, u263, u264, u265, u266, u267, u268, u269, u270, u271, u272, u273, u274, u275, u276, u277, u278, u279, u280, u281, u282, u283, u284, u285, u286, u287, u288, u289, u290, u291, u292, u293, u294, u295, u296, u297], []⟩ w') :
    Code.wp Yba.prog ((Yba.f3.body.bind (stmtAt 19)).getD .skip) Q ⟨#[u0, u1, u2, u3, .slice qa n qc, u5, u6, u7, u8, u9, u10, u11, u12, u13, u14, u15, .int .i64 (size : Int), u17, u18, .slice (some ⟨MB, 0, none⟩) n n, .slice (some ⟨HB, 0, none⟩) n n, u21, u22, u23, u24, u25, u26, u27, u28, u29, u30, u31, u32, u33, u34, u35, u36, u37, u38, u39, u40, u41, u42, u43, u44, u45, u46, u47, u48, u49, u50, u51, u52, u53, u54, u55, u56, u57, u58, u59, u60, u61, u62, u63, u64, u65, u66, u67, u68, u69, u70, u71, u72, u73, u74, u75, u76, u77, u78, u79, u80, u81, u82, u83, u84, u85, u86, u87, u88, u89, u90, u91, u92, u93, u94, u95, u96, u97, u98, u99, u100, u101, u102, u103, u104, u105, u106, u107, u108, u109, u110, u111, u112, u113, u114, u115, u116, u117, u118, u119, u120, u121, u122, u123, u124, u125, u126, u127, u128, u129, u130, u131, u132, u133, u134, u135, u136, u137, u138, u139, u140, u141, u142, u143, u144, u145, u146, u147, u148, u149, u150, u151, u152, u153, u154, u155, u156, u157, u158, u159, u160, u161, u162, u163, u164, u165, u166, u167, u168, u169, u170, u171, u172, u173, u174, u175, u176, u177, u178, u179, u180, u181, u182, u183, u184, u185, u186, u187, u188, u189, u190, u191, u192, u193, u194, u195, u196, u197, u198, u199, u200, u201, u202, u203, u204, u205, u206, u207, u208, u209, u210, u211, u212, u213, u214, u215, u216, u217, u218, u219, u220, u221, u222, u223, u224, u225, u226, u227, u228, u229, u230, u231, u232, u233, u234, u235, u236, u237, u238, u239, u240, u241, u242, u243, u244, u245, u246, u247, u248, u249, u250, u251, u252, u253, u254, u255, u256, u257, u258, u259, u260, u261, u262, u263, u264, u265, u266, u267, u268, u269, u270, u271, u272, u273, u274, u275, u276, u277, u278, u279, u280, u281, u282, u283, u284, u285, u286, u287, u288, u289, u290, u291, u292, u293, u294, u295, u296, u297], []⟩ w0 := by
  conv => arg 2; whnf
  dsimp only
  have HQ : Hid _ := hQ
  have HN : Hid (n * 32 ≤ 140737488355328) := hn
  have hW := hbel.size
  have HSrc : Hid (∀ (wr : World) (k : Nat), Bld w0 wr MB HB n k size mask z es → Src W wr qb qo n mask pa pc z es) := fun wr k hm => hsrc.below (hbel.trans ⟨hm.os, hm.tape, hm.output, hm.hsize, fun b hb => hm.block b (by omega) (by omega) (by omega)⟩) (fun h => (hq h).2)
  clear hQ hsrc hbel
  go_wp2
  go_loopg [86] n (fun g i wr => ∃ k : Nat, k + g = n ∧ i = .int .i64 k ∧ Bld w0 wr MB HB n k size mask z es)
  case atStart => exact ⟨0, by omega, rfl, hm0⟩
  case round =>
    obtain ⟨k, hk, rfl, hm⟩ := hrel
    by_cases hlt : k < n
    · have hs := HSrc.out wr k hm
      have hklt : (k : Int) < (n : Int) := by omega
      have HM : Hid (Bld w0 wr MB HB n k size mask z es ∧ Src W wr qb qo n mask pa pc z es) := ⟨hm, hs⟩
      clear hm hs hm0
      refine wp_gen3 fun B' hB' => ?_
      go_wp2_with fail
      refine hB' _ _ _ ?_
      refine wp_block (body21 W w0 qa qb qo n qc size MB HB mask pa pc z es wr k hlt _ hsz hz hn hq hM hH hMH hWM hWH hes hby HM.out.1 HM.out.2 (fun _ _ _ _ _ _ _ _ _ _ _ _ _ _ _ _ _ _ _ _ _ _ _ _ _ _ _ _ _ _ _ _ _ _ _ _ _ _ _ _ _ _ _ _ _ _ _ _ _ _ w' hb' => ?_))
      clear hB' HM
      refine (‹∀ (a : Act) (w : World), Code.wp _ _ _ a w → _› _ _ ?_)
      go_wp2_with fail
      go_roundg (gk - 1)
      case measure => omega
      case rel => exact ⟨k + 1, by omega, by go_num, hb'⟩
    · have : k = n := by omega
      subst this
      have R := hm
      clear hm hm0
      go_wp2
      exact HQ.out  _ _ _ _ _ _ _ _ _ _ _ _ _ _ _ _ _ _ _ _ _ _ _ _ _ _ _ _ _ _ _ _ _ _ _ _ _ _ _ _ _ _ _ _ _ _ _ _ _ _ _ _ _ _ _ _ R
end Go.Proofs.Ybulkftys
