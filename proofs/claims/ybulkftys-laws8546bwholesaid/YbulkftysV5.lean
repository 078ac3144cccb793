import Derived.Test.YbulkftysV4
namespace Go.Proofs.Ybulkftys
open Go.RowKit
set_option linter.unusedVariables false
set_option linter.unusedSimpArgs false

theorem run_neq_ptr_same {P : Program} (w : World) {tp te : TypeId} {j : TypeInfo} (a : Addr) (hp : P.underlying tp = some (.pointer te)) (hte : P.info? te = some j) :
    (binOp .neq tp (.pointer (some a)) (.pointer (some a))).run P w = .ok (.bool false) w := by
  have h : ∀ d : Nat, (Op.equalIn (d + 1) tp (.pointer (some a)) (.pointer (some a))).run P w = .ok true w := fun d => by
    simp [Op.equalIn, run_underlying hp, sizeOf, typeInfo, hte, run_sameAddr_same]
  simp only [binOp]
  simp [Op.equal, Op.maxDepth, h 9999]
theorem neq34 (w : World) (a : Addr) : (binOp .neq 34 (.pointer (some a)) (.pointer (some a))).run Yba.prog w = .ok (.bool false) w :=
  run_neq_ptr_same (j := (Yba.prog.info? 38).getD default) w a Yba.underlying34 (by kernel_rfl)
set_option maxRecDepth 1000000 in
set_option maxHeartbeats 4000000 in
theorem body41 (W : World) (qa ca : Option Addr) (qb qo n qc size fr MB HB G cn cc : Nat) (U : Int) (mask : Nat → Int) (pa : Nat → Option Addr) (pc : Nat → Nat) (z : Nat → Bool) (es : Nat → Es) (ok : Nat → Nat → Prop) (okc : Nat → Prop) (pz : Bool) (px : List Int) (wr : World) (k : Nat) (hk : k < n) (Q : Exit → Act → World → Prop)
    {u1 u2 u3 u5 u6 u7 u8 u9 u10 u11 u12 u13 u14 u15 u20 u21 u22 u23 u24 u25 u27 u28 u29 u30 u31 u32 u33 u34 u35 u36 u37 u38 u39 u40 u41 u42 u43 u44 u45 u46 u47 u48 u49 u50 u51 u52 u53 u54 u55 u56 u57 u58 u59 u60 u61 u62 u63 u64 u65 u66 u67 u68 u69 u70 u71 u72 u73 u74 u75 u76 u77 u78 u79 u80 u81 u82 u83 u84 u85 u86 u87 u88 u89 u90 u91 u92 u93 u94 u95 u96 u97 u98 u99 u100 u101 u102 u103 u104 u105 u106 u107 u108 u109 u110 u111 u112 u113 u114 u115 u116 u117 u118 u119 u120 u121 u122 u123 u124 u125 u126 u127 u128 u129 u130 u131 u132 u133 u134 u135 u136 u137 u138 u139 u140 u141 u142 u143 u144 u145 u146 u147 u148 u149 u150 u151 u152 u153 u154 u155 u156 u157 u158 u159 u160 u161 u162 u163 u164 u165 u166 u167 u168 u170 u172 u173 u174 u175 u176 u177 u178 u179 u180 u181 u182 u183 u184 u185 u186 u187 u188 u189 u190 u191 u192 u193 u194 u195 u196 u197 u198 u199 u200 u201 u202 u203 u204 u205 u206 u207 u208 u209 u210 u211 u212 u213 u214 u215 u216 u217 u218 u219 u220 u221 u222 u223 u224 u225 u226 u227 u228 u229 u230 u231 u232 u233 u234 u235 u236 u237 u238 u239 u240 u241 u242 u243 u244 u245 u246 u247 u248 u249 u250 u251 u252 u253 u254 u255 u256 u257 u258 u259 u260 u261 u262 u263 u264 u265 u266 u267 u268 u269 u270 u271 u272 u273 u274 u275 u276 u277 u278 u279 u280 u281 u282 u283 u284 u285 u286 u287 u288 u289 u290 u291 u292 u293 u294 u295 u296 u297 : Value}
    (hsz : size ≤ 8) (hfr : fr < size) (hn : n * 32 ≤ 140737488355328) (hq : 0 < n → qa = some ⟨qb, qo, none⟩ ∧ qb < W.heap.size) (hes : ∀ i, i < n → (es i).length * 24 ≤ 140737488351232) (hW : W.heap.size ≤ wr.heap.size) (hsrc : Src W wr qb qo n mask pa pc z es) (hfp : ∀ i, i < n → FpAt wr (ok i) MB HB i size (bitOf (mask i)) (fun j => decide (U ≠ 0) && (decide (j = fr) && bitOf (mask i) fr)) (z i) (es i) pz px) (hok : ∀ i b, ok i b → b < wr.heap.size) (hc : Bs wr okc (.slice ca cn cc) pz px) (hokc : ∀ b, okc b → b < wr.heap.size) (hG : wr.cell? ⟨G, 58, none⟩ = some (.slice (some ⟨HB, 0, none⟩) n n))
    (hQ : ∀ (v10 v28 v29 v30 v31 v32 v33 v34 v35 v36 v173 v174 v175 v176 v177 v178 v179 v180 v181 v182 v183 v184 v185 v186 v187 v188 v189 v190 v191 v192 v193 v194 v195 v196 v197 v198 v199 v200 v201 v202 v203 v204 v205 v206 v207 v208 v209 v210 v211 v212 v213 v214 v215 v216 v217 v218 v219 v220 v221 v222 v223 v224 v225 v226 v227 v228 v229 v230 v231 v232 v233 v234 v235 v236 v237 v238 v239 v240 v241 v242 v243 v244 v245 v246 v247 v248 v249 v250 v251 v252 v253 v254 v255 v256 v257 v258 v259 v260 v261 v262 v263 v264 v265 v266 v267 v268 v269 v270 v271 v272 v273 v274 v275 v276 v277 v278 v279 v280 v281 v282 v283 v284 v285 v286 v287 v288 v289 v290 v291 v292 v293 v294 v295 v296 : Value) (w' : World), Below wr.heap.size wr w' → Q .normal ⟨#[.int .i64 U, u1, u2, u3, .slice qa n qc, u5, u6, u7, u8, u9, v10, u11, u12, u13, u14, u15, .int .i64 (size : Int), .int .i64 (fr : Int), .slice ca cn cc, .slice (some ⟨MB, 0, none⟩) n n, u20, u21, u22, u23, u24, u25, .pointer (some ⟨G, 0, none⟩), u27, v28, v29, v30, v31, v32, v33, v34, v35, v36, u37, u38, u39, u40, u41, u42, u43, u44, u45, u46, u47, u48, u49, u50, u51, u52, u53, u54, u55, u56, u57, u58, u59, u60, u61, u62, u63, u64, u65, u66, u67, u68, u69, u70, u71, u72, u73, u74, u75, u76, u77, u78, u79, u80, u81, u82, u83, u84, u85, u86, u87, u88, u89, u90, u91, u92, u93, u94, u95, u96, u97, u98, u99, u100, u101, u102, u103, u104, u105, u106, u107, u108, u109, u110, u111, u112, u113, u114, u115, u116, u117, u118, u119, u120, u121, u122, u123, u124, u125, u126, u127, u128, u129, u130, u131, u132, u133, u134, u135, u136, u137, u138, u139, u140, u141, u142, u143, u144, u145, u146, u147, u148, u149, u150, u151, u152, u153, u154, u155, u156, u157, u158, u159, u160, u161, u162, u163, u164, u165, u166, u167, u168, .slice qa n qc, u170, .int .i64 (k : Int), u172, v173, v174, v175, v176, v177, v178, v179, v180, v181, v182, v183, v184, v185, v186, v187, v188, v189, v190, v191, v192, v193, v194, v195, v196, v197, v198, v199, v200, v201, v202, v203, v204, v205, v206, v207, v208, v209, v210, v211, v212, v213, v214, v215, v216, v217, v218, v219, v220, v221, v222, v223, v224, v225, v226, v227, v228, v229, v230, v231, v232, v233, v234, v235, v236, v237, v238, v239, v240, v241, v242, v243, v244, v245, v246, v247, v248, v249, v250, v251, v252, v253, v254, v255, v256, v257, v258, v259, v260, v261, v262, v263, v264, v265, v266, v267, v268, v269, v270, v271, v272, v273, v274, v275, v276, v277, v278, v279, v280, v281, v282, v283, v284, v285, v286, v287, v288, v289, v290, v291, v292, v293, v294, v295, v296, u297], []⟩ w') :
    Code.wp Yba.prog ((Yba.f3.body.bind (blockAt 41)).getD .skip) Q ⟨#[.int .i64 U, u1, u2, u3, .slice qa n qc, u5, u6, u7, u8, u9, u10, u11, u12, u13, u14, u15, .int .i64 (size : Int), .int .i64 (fr : Int), .slice ca cn cc, .slice (some ⟨MB, 0, none⟩) n n, u20, u21, u22, u23, u24, u25, .pointer (some ⟨G, 0, none⟩), u27, u28, u29, u30, u31, u32, u33, u34, u35, u36, u37, u38, u39, u40, u41, u42, u43, u44, u45, u46, u47, u48, u49, u50, u51, u52, u53, u54, u55, u56, u57, u58, u59, u60, u61, u62, u63, u64, u65, u66, u67, u68, u69, u70, u71, u72, u73, u74, u75, u76, u77, u78, u79, u80, u81, u82, u83, u84, u85, u86, u87, u88, u89, u90, u91, u92, u93, u94, u95, u96, u97, u98, u99, u100, u101, u102, u103, u104, u105, u106, u107, u108, u109, u110, u111, u112, u113, u114, u115, u116, u117, u118, u119, u120, u121, u122, u123, u124, u125, u126, u127, u128, u129, u130, u131, u132, u133, u134, u135, u136, u137, u138, u139, u140, u141, u142, u143, u144, u145, u146, u147, u148, u149, u150, u151, u152, u153, u154, u155, u156, u157, u158, u159, u160, u161, u162, u163, u164, u165, u166, u167, u168, .slice qa n qc, u170, .int .i64 (k : Int), u172, u173, u174, u175, u176, u177, u178, u179, u180, u181, u182, u183, u184, u185, u186, u187, u188, u189, u190, u191, u192, u193, u194, u195, u196, u197, u198, u199, u200, u201, u202, u203, u204, u205, u206, u207, u208, u209, u210, u211, u212, u213, u214, u215, u216, u217, u218, u219, u220, u221, u222, u223, u224, u225, u226, u227, u228, u229, u230, u231, u232, u233, u234, u235, u236, u237, u238, u239, u240, u241, u242, u243, u244, u245, u246, u247, u248, u249, u250, u251, u252, u253, u254, u255, u256, u257, u258, u259, u260, u261, u262, u263, u264, u265, u266, u267, u268, u269, u270, u271, u272, u273, u274, u275, u276, u277, u278, u279, u280, u281, u282, u283, u284, u285, u286, u287, u288, u289, u290, u291, u292, u293, u294, u295, u296, u297], []⟩ wr := by
  conv => arg 2; whnf
  dsimp only
  have HQ : Hid _ := hQ
  obtain ⟨rfl, hqb⟩ := hq (by omega)
  have d0 := hsrc.m k hk
  have d1 := hsrc.p k hk
  have hss := hsrc.s k hk
  have hek := hes k hk
  obtain ⟨P, R, L, hmb, hhb, hF⟩ := hfp k hk
  have hbel : Below wr.heap.size wr (wr.alloc (.cells #[.int .u16 (mask k), .slice (pa k) (es k).length (pc k)] 27)) := (Below.refl _ _).alloc (Nat.le_refl _) _
  have hnew := heap_alloc_new wr (.cells #[.int .u16 (mask k), .slice (pa k) (es k).length (pc k)] 27)
  have hs1 : wr.heap.size ≤ (wr.alloc (.cells #[.int .u16 (mask k), .slice (pa k) (es k).length (pc k)] 27)).heap.size := hbel.size
  have f0 : (wr.alloc (.cells #[.int .u16 (mask k), .slice (pa k) (es k).length (pc k)] 27)).cell? ⟨wr.heap.size, 0, none⟩ = some (.int .u16 (mask k)) := by rw [cell_block hnew]; rfl
  have f1 : (wr.alloc (.cells #[.int .u16 (mask k), .slice (pa k) (es k).length (pc k)] 27)).cell? ⟨wr.heap.size, 1, none⟩ = some (.slice (pa k) (es k).length (pc k)) := by rw [cell_block hnew]; rfl
  have f2 := (hbel.cell (World.block_lt_of_cell? wr _ hG)).trans hG
  have f3 := (hbel.cell (World.block_lt_of_cell? wr _ hhb)).trans hhb
  have f4 := (hbel.cell (World.block_lt_of_cell? wr _ hmb)).trans hmb
  have f5 := hss.mono (fun b h => hbel.block b (Nat.lt_of_lt_of_le h hW)) (fun _ h => h)
  have f6 := hF.mono (fun b h => hbel.block b (hok k b h)) (fun _ h => h)
  have f7 := hc.mono (fun b h => hbel.block b (hokc b h)) (fun _ h => h)
  have f8 : ∀ b, b < W.heap.size → b < (wr.alloc (.cells #[.int .u16 (mask k), .slice (pa k) (es k).length (pc k)] 27)).heap.size := fun b h => by omega
  have f9 : ∀ b, ok k b → b < (wr.alloc (.cells #[.int .u16 (mask k), .slice (pa k) (es k).length (pc k)] 27)).heap.size := fun b h => Nat.lt_of_lt_of_le (hok k b h) hs1
  have f10 : ∀ b, okc b → b < (wr.alloc (.cells #[.int .u16 (mask k), .slice (pa k) (es k).length (pc k)] 27)).heap.size := fun b h => Nat.lt_of_lt_of_le (hokc b h) hs1
  have hklt : (k : Int) < (n : Int) := by omega
  have hk0 : (0 : Int) ≤ (k : Int) := by omega
  have n34 := neq34
  have hnn : ((size : Int) != (size : Int)) = false := by simp
  clear hQ hsrc hfp hF hc hss hG hmb hhb hok hokc
  refine wp_gen fun rc hrc => ?_
  go_wp2_with fail
  refine hrc _ _ ?_
  clear hrc rc
  clear d0 d1
  generalize wr.alloc (.cells #[.int .u16 (mask k), .slice (pa k) (es k).length (pc k)] 27) = w1 at *
  have HB : Hid (Below wr.heap.size wr w1) := hbel
  have HF : Hid _ := And.intro f5 (And.intro f6 (And.intro f7 (And.intro f8 (And.intro f9 f10))))
  have f61 := f6.p3
  have f62 := f6.p4
  clear f5 f6 f7 f8 f9 f10 hnew hbel
  refine wp_gen fun rc hrc => ?_
  go_wp2_with fail
  refine hrc _ _ ?_
  clear hrc rc
  refine wp_gen_if fun ra rc hra hrc => ?_
  go_wp2_with fail
  first
    | refine hrc _ _ ?_
    | (refine (‹∀ (a : Act) (w : World), Code.wp _ _ _ a w → _› _ _ ?_); refine hrc _ _ ?_)
  clear hra hrc ra rc
  refine wp_gen_if fun ra rc hra hrc => ?_
  go_wp2_with fail
  first
    | refine hrc _ _ ?_
    | (refine (‹∀ (a : Act) (w : World), Code.wp _ _ _ a w → _› _ _ ?_); refine hrc _ _ ?_)
  clear hra hrc ra rc
  obtain ⟨f5, f6, f7, f8, f9, f10⟩ := HF.out
  refine loop47 w1 wr.heap.size P R L fr size (mask k) U ca (pa k) (es k).length (pc k) cn cc (z k) (es k) (ok k) _ okc _ pz px Q rfl hsz hfr rfl (by omega) f0 f1 f5 f8 f6 f9 f7 f10 (fun _ _ _ _ _ _ _ _ _ _ _ _ _ _ _ _ _ _ _ _ _ _ _ _ _ _ _ _ _ _ _ _ _ _ _ _ _ _ _ _ _ _ _ _ _ _ _ _ _ _ _ _ _ _ _ _ _ _ _ _ _ _ _ _ _ _ _ _ _ _ _ _ _ _ _ _ _ _ _ _ _ _ _ _ _ _ _ _ _ _ _ _ _ _ _ _ _ _ w' hb' => ?_)
  exact HQ.out _ _ _ _ _ _ _ _ _ _ _ _ _ _ _ _ _ _ _ _ _ _ _ _ _ _ _ _ _ _ _ _ _ _ _ _ _ _ _ _ _ _ _ _ _ _ _ _ _ _ _ _ _ _ _ _ _ _ _ _ _ _ _ _ _ _ _ _ _ _ _ _ _ _ _ _ _ _ _ _ _ _ _ _ _ _ _ _ _ _ _ _ _ _ _ _ _ _ _ _ _ _ _ _ _ _ _ _ _ _ _ _ _ _ _ _ _ _ _ _ _ _ _ _ _ _ _ _ _ _ _ _ _ _ _ (HB.out.trans (hb'.mono hs1))
end Go.Proofs.Ybulkftys
