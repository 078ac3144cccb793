import Derived.Test.YbulkftysT32
namespace Go.Proofs.Ybulkftys
open Go.RowKit
set_option linter.unusedVariables false
set_option linter.unusedSimpArgs false
set_option maxRecDepth 1000000 in
set_option maxHeartbeats 4000000 in
theorem part14 (W w : World) (qa ya : Option Addr) (qb qo n qc yn yc : Nat) (U a1 a2 : Int) (mask : Nat → Int) (pa : Nat → Option Addr) (pc : Nat → Nat) (z : Nat → Bool) (es : Nat → Es) (pz : Bool) (px : List Int)
    {u5 u6 u7 u8 u9 u10 u11 u12 u13 u14 u15 u16 u17 u18 u19 u20 u21 u22 u23 u24 u25 u26 u27 u28 u29 u30 u31 u32 u33 u34 u35 u36 u37 u38 u39 u40 u41 u42 u43 u44 u45 u46 u47 u48 u49 u50 u51 u52 u53 u54 u55 u56 u57 u58 u59 u60 u61 u62 u63 u64 u65 u66 u67 u68 u69 u70 u71 u72 u73 u74 u75 u76 u77 u78 u79 u80 u81 u82 u83 u84 u85 u86 u87 u88 u89 u90 u91 u92 u93 u94 u95 u96 u97 u98 u99 u100 u101 u102 u103 u104 u105 u106 u107 u108 u109 u110 u111 u112 u113 u114 u115 u116 u117 u118 u119 u120 u121 u122 u123 u124 u125 u126 u127 u128 u129 u130 u131 u132 u133 u134 u135 u136 u137 u138 u139 u140 u141 u142 u143 u144 u145 u146 u147 u148 u149 u150 u151 u152 u153 u154 u155 u156 u157 u158 u159 u160 u161 u162 u163 u164 u165 u166 u167 u168 u169 u170 u171 u172 u173 u174 u175 u176 u177 u178 u179 u180 u181 u182 u183 u184 u185 u186 u187 u188 u189 u190 u191 u192 u193 u194 u195 u196 u197 u198 u199 u200 u201 u202 u203 u204 u205 u206 u207 u208 u209 u210 u211 u212 u213 u214 u215 u216 u217 u218 u219 u220 u221 u222 u223 u224 u225 u226 u227 u228 u229 u230 u231 u232 u233 u234 u235 u236 u237 u238 u239 u240 u241 u242 u243 u244 u245 u246 u247 u248 u249 u250 u251 u252 u253 u254 u255 u256 u257 u258 u259 u260 u261 u262 u263 u264 u265 u266 u267 u268 u269 u270 u271 u272 u273 u274 u275 u276 u277 u278 u279 u280 u281 u282 u283 u284 u285 u286 u287 u288 u289 u290 u291 u292 u293 u294 u295 u296 u297 : Value}
    (hn : n * 32 ≤ 140737488355328) (hq : 0 < n → qa = some ⟨qb, qo, none⟩ ∧ qb < W.heap.size) (hes : ∀ i, i < n → (es i).length * 24 ≤ 140737488351232) (hby : ∀ i, i < n → ∀ e ∈ es i, e.2.length ≤ 140737488351232) (ha1 : 0 ≤ a1 ∧ a1 < 256) (ha2 : 0 ≤ a2 ∧ a2 < 256) (hpl : px.length ≤ 140737488351232) (hbel : Below W.heap.size W w) (hsrc : Src W W qb qo n mask pa pc z es) (hp : Bs W (fun b => b < W.heap.size) (.slice ya yn yc) pz px) :
    Code.wp Yba.prog ((Yba.f3.body.map (tailAt 14)).getD .skip) (bodyPost Yba.prog Yba.f3 fun e w' => e = .returned (.bool true) ∧ Below W.heap.size W w') ⟨#[.int .i64 U, .int .u8 a1, .int .u8 a2, .slice ya yn yc, .slice qa n qc, u5, u6, u7, u8, u9, u10, u11, u12, u13, u14, u15, u16, u17, u18, u19, u20, u21, u22, u23, u24, u25, u26, u27, u28, u29, u30, u31, u32, u33, u34, u35, u36, u37, u38, u39, u40, u41, u42, u43, u44, u45, u46, u47, u48, u49, u50, u51, u52, u53, u54, u55, u56, u57, u58, u59, u60, u61, u62, u63, u64, u65, u66, u67, u68, u69, u70, u71, u72, u73, u74, u75, u76, u77, u78, u79, u80, u81, u82, u83, u84, u85, u86, u87, u88, u89, u90, u91, u92, u93, u94, u95, u96, u97, u98, u99, u100, u101, u102, u103, u104, u105, u106, u107, u108, u109, u110, u111, u112, u113, u114, u115, u116, u117, u118, u119, u120, u121, u122, u123, u124, u125, u126, u127, u128, u129, u130, u131, u132, u133, u134, u135, u136, u137, u138, u139, u140, u141, u142, u143, u144, u145, u146, u147, u148, u149, u150, u151, u152, u153, u154, u155, u156, u157, u158, u159, u160, u161, u162, u163, u164, u165, u166, u167, u168, u169, u170, u171, u172, u173, u174, u175, u176, u177, u178, u179, u180, u181, u182, u183, u184, u185, u186, u187, u188, u189, u190, u191, u192, u193, u194, u195, u196, u197, u198, u199, u200, u201, u202, u203, u204, u205, u206, u207, u208, u209, u210, u211, u212, u213, u214, u215, u216, u217, u218, u219, u220, u221, u222, u223, u224, u225, u226, u227, u228, u229, u230, u231, u232, u233, u234, u235, u236, u237, u238, u239, u240, u241, u242, u243, u244, u245, u246, u247, u248, u249, u250, u251, u252, u253, u254, u255, u256, u257, u258, u259, u260, u261, u262, u263, u264, u265, u266, u267, u268, u269, u270, u271, u272, u273, u274, u275, u276, u277, u278, u279, u280, u281, u282, u283, u284, u285, u286, u287, u288, u289, u290, u291, u292, u293, u294, u295, u296, u297], []⟩ w := by
  conv => arg 2; whnf
  dsimp only
  obtain ⟨ha10, ha11⟩ := ha1
  obtain ⟨ha20, ha21⟩ := ha2
  refine wp_gen fun rc hrc => ?_
  go_wp2_with fail
  refine hrc _ _ ?_
  clear hrc rc
  refine wp_gen fun rc hrc => ?_
  go_wp2_with fail
  refine hrc _ _ ?_
  clear hrc rc
  obtain ⟨size, hsize⟩ : ∃ size : Nat, 1 + a1 % 8 = (size : Int) := ⟨(1 + a1 % 8).toNat, by omega⟩
  have hsz8 : size ≤ 8 := by omega
  have hsz0 : 0 < size := by omega
  rw [hsize]
  have hfm := Int.emod_nonneg a2 (show (size : Int) ≠ 0 by omega)
  have hfm2 := Int.emod_lt_of_pos a2 (show (0 : Int) < (size : Int) by omega)
  obtain ⟨fr, hfr⟩ : ∃ fr : Nat, a2 % (size : Int) = (fr : Int) := ⟨(a2 % (size : Int)).toNat, by omega⟩
  rw [hfr]
  have hfs : fr < size := by omega
  clear hsize hfr hfm hfm2 ha10 ha11 ha20 ha21
  have hs0 := hbel.size
  have hC := bclone w (fun b => b < W.heap.size) _ pz px (hp.mono (fun b hb => hbel.block b hb) (fun _ h => h)) (fun b hb => by omega) (by omega)
  have HC : Hid (Calls _ _ _ _ _) := hC
  have HH : Hid (Below W.heap.size W w ∧ Src W W qb qo n mask pa pc z es ∧ Bs W (fun b => b < W.heap.size) (.slice ya yn yc) pz px) := ⟨hbel, hsrc, hp⟩
  clear hC hbel hsrc hp
  refine wp_gen fun rc hrc => ?_
  go_wp2_with (go_at_call 5; refine HC.out.mono ?_; rintro e w1 ⟨v', rfl, hB1, hbel1⟩; obtain ⟨ca, cc, rfl, -, -⟩ := hB1.form)
  refine hrc _ _ ?_
  clear hrc rc HC
  have hs1 := hbel1.size
  have hmk := run_mk29 n (by omega)
  have HB1 : Hid (Bs w1 (fun b => w.heap.size ≤ b ∧ b < w1.heap.size) (.slice ca px.length cc) pz px ∧ Below w.heap.size w w1) := ⟨hB1, hbel1⟩
  clear hB1 hbel1
  generalize px.length = cn at *
  refine wp_gen fun rc hrc => ?_
  go_wp2_with fail
  refine hrc _ _ ?_
  clear hrc rc
  refine wp_gen fun rc hrc => ?_
  go_wp2_with fail
  refine hrc _ _ ?_
  clear hrc rc
  clear hmk
  have s2 := stab_alloc w1 (.cells (madeCells #[.pointer none] n) 34) (fun _ => True)
  have n2 := heap_alloc_new w1 (.cells (madeCells #[.pointer none] n) 34)
  have z2 : (w1.alloc (.cells (madeCells #[.pointer none] n) 34)).heap.size = w1.heap.size + 1 := by simp
  generalize w1.alloc (.cells (madeCells #[.pointer none] n) 34) = w2 at s2 n2 z2 ⊢
  have s3 := stab_alloc w2 (.cells (madeCells #[.pointer none] n) 34) (fun _ => True)
  have n3 := heap_alloc_new w2 (.cells (madeCells #[.pointer none] n) 34)
  have z3 : (w2.alloc (.cells (madeCells #[.pointer none] n) 34)).heap.size = w2.heap.size + 1 := by simp
  generalize w2.alloc (.cells (madeCells #[.pointer none] n) 34) = w3 at s3 n3 z3 ⊢
  obtain ⟨hbel, hsrc, hp⟩ := HH.out
  obtain ⟨hB1, hbel1⟩ := HB1.out
  have t := s2.trans s3
  have hbel3 : Below W.heap.size W w3 := (hbel.trans (hbel1.mono hs0)).trans ⟨t.os, t.tape, t.output, t.size, fun b hb => t.block b (by omega) trivial⟩
  have hm3 : w3.heap[w1.heap.size]? = some (.cells (madeCells #[.pointer none] n) 34) := by rw [s3.block _ (by omega) trivial, n2]
  have hh3 : w3.heap[w1.heap.size + 1]? = some (.cells (madeCells #[.pointer none] n) 34) := by rw [← z2, n3]
  have hm0 : Bld w3 w3 w1.heap.size (w1.heap.size + 1) n 0 size mask z es := ⟨rfl, rfl, rfl, Nat.le_refl _, fun _ _ _ _ => rfl, ⟨_, hm3, by rw [size_madeCells]⟩, ⟨_, hh3, by rw [size_madeCells]⟩, fun _ => none, fun _ => 0, fun _ _ => rfl, fun _ _ => rfl, fun i hi => by omega⟩
  have hcp : Bs w3 (fun b => w.heap.size ≤ b ∧ b < w1.heap.size) (.slice ca cn cc) pz px := hB1.mono (fun b hb => t.block b hb.2 trivial) (fun _ h => h)
  refine wp_gen fun rc hrc => ?_
  refine wp_seq (outer W w3 qa qb qo n qc size w1.heap.size (w1.heap.size + 1) mask pa pc z es _ hsz8 hsz0 hn hq (by omega) (by omega) (by omega) (by omega) (by omega) hes hby hm0 hbel3 hsrc (fun _ _ _ _ _ _ _ _ _ _ _ _ _ _ _ _ _ _ _ _ _ _ _ _ _ _ _ _ _ _ _ _ _ _ _ _ _ _ _ _ _ _ _ _ _ _ _ _ _ _ _ _ _ _ _ w4 hbld => ?_))
  refine hrc _ _ ?_
  exact part32 W w3 w4 qa ca ya qb qo n qc size fr w1.heap.size (w1.heap.size + 1) cn cc yn yc U mask pa pc z es (fun b => w.heap.size ≤ b ∧ b < w1.heap.size) pz px hsz8 hfs hn hq hes (by omega) (by omega) (by omega) (by omega) (by omega) hbel3 hsrc hbld hp hcp (fun b hb => ⟨by omega, by omega, by omega⟩)
end Go.Proofs.Ybulkftys
