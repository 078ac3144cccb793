import Derived.Test.YbulkftysMb
namespace Go.Proofs.Ybulkftys
open Go.RowKit
set_option linter.unusedVariables false
set_option linter.unusedSimpArgs false
set_option maxRecDepth 1000000 in
set_option maxHeartbeats 4000000 in
theorem part32 (W w0 w : World) (qa ca ya : Option Addr) (qb qo n qc size fr MB HB cn cc yn yc : Nat) (U : Int) (mask : Nat → Int) (pa : Nat → Option Addr) (pc : Nat → Nat) (z : Nat → Bool) (es : Nat → Es) (okc : Nat → Prop) (pz : Bool) (px : List Int)
    {u1 u2 u5 u6 u7 u8 u9 u10 u11 u12 u13 u14 u15 u21 u22 u23 u24 u25 u26 u27 u28 u29 u30 u31 u32 u33 u34 u35 u36 u37 u38 u39 u40 u41 u42 u43 u44 u45 u46 u47 u48 u49 u50 u51 u52 u53 u54 u55 u56 u57 u58 u59 u60 u61 u62 u63 u64 u65 u66 u67 u68 u69 u70 u71 u72 u73 u74 u75 u76 u77 u78 u79 u80 u81 u82 u83 u84 u85 u86 u87 u88 u89 u90 u91 u92 u93 u94 u95 u96 u97 u98 u99 u100 u101 u102 u103 u104 u105 u106 u107 u108 u109 u110 u111 u112 u113 u114 u115 u116 u117 u118 u119 u120 u121 u122 u123 u124 u125 u126 u127 u128 u129 u130 u131 u132 u133 u134 u135 u136 u137 u138 u139 u140 u141 u142 u143 u144 u145 u146 u147 u148 u149 u150 u151 u152 u153 u154 u155 u156 u157 u158 u159 u160 u161 u162 u163 u164 u165 u166 u167 u168 u169 u170 u171 u172 u173 u174 u175 u176 u177 u178 u179 u180 u181 u182 u183 u184 u185 u186 u187 u188 u189 u190 u191 u192 u193 u194 u195 u196 u197 u198 u199 u200 u201 u202 u203 u204 u205 u206 u207 u208 u209 u210 u211 u212 u213 u214 u215 u216 u217 u218 u219 u220 u221 u222 u223 u224 u225 u226 u227 u228 u229 u230 u231 u232 u233 u234 u235 u236 u237 u238 u239 u240 u241 u242 u243 u244 u245 u246 u247 u248 u249 u250 u251 u252 u253 u254 u255 u256 u257 u258 u259 u260 u261 u262 u263 u264 u265 u266 u267 u268 u269 u270 u271 u272 u273 u274 u275 u276 u277 u278 u279 u280 u281 u282 u283 u284 u285 u286 u287 u288 u289 u290 u291 u292 u293 u294 u295 u296 u297 : Value}
    (hsz : size ≤ 8) (hfr : fr < size) (hn : n * 32 ≤ 140737488355328) (hq : 0 < n → qa = some ⟨qb, qo, none⟩ ∧ qb < W.heap.size) (hes : ∀ i, i < n → (es i).length * 24 ≤ 140737488351232) (hM : MB < w0.heap.size) (hH : HB < w0.heap.size) (hMH : MB ≠ HB) (hWM : W.heap.size ≤ MB) (hWH : W.heap.size ≤ HB) (hbel : Below W.heap.size W w0) (hsrc : Src W W qb qo n mask pa pc z es) (hbld : Bld w0 w MB HB n n size mask z es) (hp : Bs W (fun b => b < W.heap.size) (.slice ya yn yc) pz px) (hc : Bs w0 okc (.slice ca cn cc) pz px) (hokc : ∀ b, okc b → b < w0.heap.size ∧ b ≠ MB ∧ b ≠ HB) :
    Code.wp Yba.prog ((Yba.f3.body.map (tailAt 32)).getD .skip) (bodyPost Yba.prog Yba.f3 fun e w' => e = .returned (.bool true) ∧ Below W.heap.size W w') ⟨#[.int .i64 U, u1, u2, .slice ya yn yc, .slice qa n qc, u5, u6, u7, u8, u9, u10, u11, u12, u13, u14, u15, .int .i64 (size : Int), .int .i64 (fr : Int), .slice ca cn cc, .slice (some ⟨MB, 0, none⟩) n n, .slice (some ⟨HB, 0, none⟩) n n, u21, u22, u23, u24, u25, u26, u27, u28, u29, u30, u31, u32, u33, u34, u35, u36, u37, u38, u39, u40, u41, u42, u43, u44, u45, u46, u47, u48, u49, u50, u51, u52, u53, u54, u55, u56, u57, u58, u59, u60, u61, u62, u63, u64, u65, u66, u67, u68, u69, u70, u71, u72, u73, u74, u75, u76, u77, u78, u79, u80, u81, u82, u83, u84, u85, u86, u87, u88, u89, u90, u91, u92, u93, u94, u95, u96, u97, u98, u99, u100, u101, u102, u103, u104, u105, u106, u107, u108, u109, u110, u111, u112, u113, u114, u115, u116, u117, u118, u119, u120, u121, u122, u123, u124, u125, u126, u127, u128, u129, u130, u131, u132, u133, u134, u135, u136, u137, u138, u139, u140, u141, u142, u143, u144, u145, u146, u147, u148, u149, u150, u151, u152, u153, u154, u155, u156, u157, u158, u159, u160, u161, u162, u163, u164, u165, u166, u167, u168, u169, u170, u171, u172, u173, u174, u175, u176, u177, u178, u179, u180, u181, u182, u183, u184, u185, u186, u187, u188, u189, u190, u191, u192, u193, u194, u195, u196, u197, u198, u199, u200, u201, u202, u203, u204, u205, u206, u207, u208, u209, u210, u211, u212, u213, u214, u215, u216, u217, u218, u219, u220, u221, u222, u223, u224, u225, u226, u227, u228, u229, u230, u231, u232, u233, u234, u235, u236, u237, u238, u239, u240, u241, u242, u243, u244, u245, u246, u247, u248, u249, u250, u251, u252, u253, u254, u255, u256, u257, u258, u259, u260, u261, u262, u263, u264, u265, u266, u267, u268, u269, u270, u271, u272, u273, u274, u275, u276, u277, u278, u279, u280, u281, u282, u283, u284, u285, u286, u287, u288, u289, u290, u291, u292, u293, u294, u295, u296, u297], []⟩ w := by
  conv => arg 2; whnf
  dsimp only
  obtain ⟨mc, hmc, hm58, hm59⟩ := memb HB n U
  have H99 : Hid (Yba.prog.built 99 [(22, .agg #[.nilFunc, .slice (some ⟨HB, 0, none⟩) n n, .int .i64 U, .int .i64 n, .int .u64 0])] = some mc) := hmc
  have HH : Hid ((mc[58]? = some (.slice (some ⟨HB, 0, none⟩) n n) ∧ mc[59]? = some (.int .i64 U)) ∧ Below W.heap.size W w0 ∧ Src W W qb qo n mask pa pc z es ∧ Bld w0 w MB HB n n size mask z es ∧ Bs W (fun b => b < W.heap.size) (.slice ya yn yc) pz px ∧ Bs w0 okc (.slice ca cn cc) pz px ∧ (∀ b, okc b → b < w0.heap.size ∧ b ≠ MB ∧ b ≠ HB)) := ⟨⟨hm58, hm59⟩, hbel, hsrc, hbld, hp, hc, hokc⟩
  clear hmc hm58 hm59 hbel hsrc hbld hp hc hokc
  refine wp_gen fun rc hrc => ?_
  go_wp2_with (first | refine wpList_bld (by rfl) 42 _ (by rfl) _ _ (built42 _ _ _) (by rfl) ?_ | refine wpList_bld (by rfl) 99 _ (by rfl) _ _ H99.out (by rfl) ?_ | refine wpList_bld (by rfl) 102 _ (by rfl) _ _ (built102 _ _ _ _) (by rfl) ?_)
  refine hrc _ _ ?_
  clear hrc rc
  refine wp_gen fun rc hrc => ?_
  go_wp2_with (first | refine wpList_bld (by rfl) 42 _ (by rfl) _ _ (built42 _ _ _) (by rfl) ?_ | refine wpList_bld (by rfl) 99 _ (by rfl) _ _ H99.out (by rfl) ?_ | refine wpList_bld (by rfl) 102 _ (by rfl) _ _ (built102 _ _ _ _) (by rfl) ?_)
  refine hrc _ _ ?_
  clear hrc rc
  clear H99
  refine wp_gen fun rc hrc => ?_
  go_wp2_with fail
  obtain ⟨⟨hm58, hm59⟩, hbel, hsrc, hbld, hp, hc, hokc⟩ := HH.out
  refine (recorded W w0 w ca ya qb qo n size fr MB HB cn cc yn yc U mask pa pc z es okc pz px mc hm58 hm59 hsz hfr hn (fun h => (hq h).2) hes hM hH hMH hWM hWH hbel hsrc hbld hp hc hokc).mono ?_
  rintro e w3 ⟨rfl, ok, haft⟩
  clear hm58 hm59 hbel hsrc hbld hp hc hokc HH
  go_wp2_with fail
  first
    | refine hrc _ _ ?_
    | (refine (‹∀ (a : Act) (w : World), Code.wp _ _ _ a w → _› _ _ ?_); refine hrc _ _ ?_)
  clear hrc rc
  generalize w.heap.size = G at haft ⊢
  have HA : Hid (AftR W w3 ok okc qb qo n size fr MB HB G cn cc yn yc ca ya U mask pa pc z es pz px) := haft
  have hC := same_ w3 _ _ _ _ _ _ haft.pay haft.copy
  have HC : Hid (Calls _ _ _ _ _) := hC
  have g58 := haft.g58
  have g59 := haft.g59
  have hUU : (U != U) = false := by simp
  have hnn : ((n : Int) != (n : Int)) = false := by simp
  clear haft hC
  refine wp_gen_if fun ra rc hra hrc => ?_
  go_wp2_with (go_at_call 8; refine HC.out.mono ?_; rintro e w4 ⟨rfl, rfl⟩)
  first
    | refine hrc _ _ ?_
    | (refine (‹∀ (a : Act) (w : World), Code.wp _ _ _ a w → _› _ _ ?_); refine hrc _ _ ?_)
  clear hra hrc ra rc
  refine wp_gen_if fun ra rc hra hrc => ?_
  go_wp2_with fail
  first
    | refine hrc _ _ ?_
    | (refine (‹∀ (a : Act) (w : World), Code.wp _ _ _ a w → _› _ _ ?_); refine hrc _ _ ?_)
  clear hra hrc ra rc
  refine wp_gen fun rc hrc => ?_
  have h := HA.out
  refine wp_seq (loop39 W qa ca qb qo n qc size fr MB HB G cn cc U mask pa pc z es ok okc pz px w4 _ hsz hfr hn hq hes h.below.size h.src h.fp h.hok h.copy h.hokc h.g58 (fun _ _ _ _ _ _ _ _ _ _ _ _ _ _ _ _ _ _ _ _ _ _ _ _ _ _ _ _ _ _ _ _ _ _ _ _ _ _ _ _ _ _ _ _ _ _ _ _ _ _ _ _ _ _ _ _ _ _ _ _ _ _ _ _ _ _ _ _ _ _ _ _ _ _ _ _ _ _ _ _ _ _ _ _ _ _ _ _ _ _ _ _ _ _ _ _ _ _ _ _ _ _ _ _ _ _ _ _ _ _ _ _ _ _ _ _ _ _ _ _ _ _ _ _ _ _ _ _ _ _ _ _ _ _ _ _ _ _ _ w' hb' => ?_))
  have hfin : Below W.heap.size W w' := h.below.trans (hb'.mono h.below.size)
  refine hrc _ _ ?_
  clear hrc rc
  go_wp2_with fail
  go_ret
  exact ⟨rfl, hfin⟩
end Go.Proofs.Ybulkftys
