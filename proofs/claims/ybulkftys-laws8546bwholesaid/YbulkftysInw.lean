import Derived.Test.YbulkftysIn
namespace Go.Proofs.Ybulkftys
open Go.RowKit
set_option linter.unusedVariables false
set_option linter.unusedSimpArgs false
set_option maxRecDepth 1000000 in
set_option maxHeartbeats 4000000 in
theorem inner (W w : World) (A RB LB size : Nat) (m : Int) (pa : Option Addr) (pc : Nat) (z : Bool) (es : Es) (Q : Exit → Act → World → Prop)
    {u0 u1 u2 u3 u4 u5 u6 u7 u8 u9 u10 u11 u12 u13 u14 u15 u17 u18 u19 u20 u21 u25 u26 u27 u28 u29 u30 u31 u32 u33 u34 u35 u36 u37 u38 u39 u40 u41 u42 u43 u44 u45 u46 u47 u48 u49 u50 u51 u52 u53 u54 u55 u56 u57 u58 u59 u60 u61 u62 u63 u64 u65 u66 u67 u68 u69 u70 u71 u72 u73 u74 u75 u76 u77 u78 u79 u80 u81 u82 u83 u84 u85 u86 u87 u88 u89 u90 u91 u92 u93 u94 u95 u96 u97 u98 u99 u100 u101 u102 u103 u104 u105 u106 u107 u108 u109 u110 u111 u112 u113 u114 u115 u116 u117 u118 u119 u120 u121 u122 u123 u124 u125 u126 u127 u128 u129 u130 u131 u132 u133 u134 u135 u136 u137 u138 u139 u140 u141 u142 u143 u144 u145 u146 u147 u148 u149 u150 u151 u152 u153 u154 u155 u156 u157 u158 u159 u160 u161 u162 u163 u164 u165 u166 u167 u168 u169 u170 u171 u172 u173 u174 u175 u176 u177 u178 u179 u180 u181 u182 u183 u184 u185 u186 u187 u188 u189 u190 u191 u192 u193 u194 u195 u196 u197 u198 u199 u200 u201 u202 u203 u204 u205 u206 u207 u208 u209 u210 u211 u212 u213 u214 u215 u216 u217 u218 u219 u220 u221 u222 u223 u224 u225 u226 u227 u228 u229 u230 u231 u232 u233 u234 u235 u236 u237 u238 u239 u240 u241 u242 u243 u244 u245 u246 u247 u248 u249 u250 u251 u252 u253 u254 u255 u256 u257 u258 u259 u260 u261 u262 u263 u264 u265 u266 u267 u268 u269 u270 u271 u272 u273 u274 u275 u276 u277 u278 u279 u280 u281 u282 u283 u284 u285 u286 u287 u288 u289 u290 u291 u292 u293 u294 u295 u296 u297 : Value}
    (hsz : size ≤ 8) (c0 : w.cell? ⟨A, 0, none⟩ = some (.int .u16 m)) (c1 : w.cell? ⟨A, 1, none⟩ = some (.slice pa es.length pc)) (hs : Ss w (fun b => b < W.heap.size) (.slice pa es.length pc) z es)
    (hWR : W.heap.size ≤ RB) (hWL : W.heap.size ≤ LB) (hAR : A ≠ RB) (hAL : A ≠ LB) (hRL : RB ≠ LB) (hn : es.length * 24 ≤ 140737488355328) (hbb : ∀ e ∈ es, e.2.length ≤ 140737488355328)
    (h0 : Inn w w RB LB size 0 (bitOf m) z es)
    (hQ : ∀ (v25 v95 v96 v97 v98 v99 v100 v101 v102 v103 v104 v105 v106 v107 v108 v109 v110 v111 v112 v113 v114 v115 : Value) (w' : World), Inn w w' RB LB size size (bitOf m) z es → Q .normal ⟨#[u0, u1, u2, u3, u4, u5, u6, u7, u8, u9, u10, u11, u12, u13, u14, u15, .int .i64 (size : Int), u17, u18, u19, u20, u21, .pointer (some ⟨A, 0, none⟩), .slice (some ⟨RB, 0, none⟩) size size, .slice (some ⟨LB, 0, none⟩) size size, v25, u26, u27, u28, u29, u30, u31, u32, u33, u34, u35, u36, u37, u38, u39, u40, u41, u42, u43, u44, u45, u46, u47, u48, u49, u50, u51, u52, u53, u54, u55, u56, u57, u58, u59, u60, u61, u62, u63, u64, u65, u66, u67, u68, u69, u70, u71, u72, u73, u74, u75, u76, u77, u78, u79, u80, u81, u82, u83, u84, u85, u86, u87, u88, u89, u90, u91, u92, u93, u94, v95, v96, v97, v98, v99, v100, v101, v102, v103, v104, v105, v106, v107, v108, v109, v110, v111, v112, v113, v114, v115, u116, u117, u118, u119, u120, u121, u122, u123, u124, u125, u126, u127, u128, u129, u130, u131, u132, u133, u134, u135, u136, u137, u138, u139, u140, u141, u142, u143, u144, u145, u146, u147, u148, u149, u150, u151, u152, u153, u154, u155, u156, u157, u158, u159, u160, u161, u162, u163, u164, u165, u166, u167, u168, u169, u170, u171, u172, u173, u174, u175, u176, u177, u178, u179, u180, u181, u182, u183, u184, u185, u186, u187, u188, u189, u190, u191, u192, u193, u194, u195, u196, u197, u198, u199, u200, u201, u202, u203, u204, u205, u206, u207, u208, u209, u210, u211, u212, u213, u214, u215, u216, u217, u218, u219, u220, u221, u222, u223, u224, u225, u226, u227, u228, u229, u230, u231, u232, u233, u234, u235, u236, u237, u238, u239, u240, u241, u242, u243, u244, u245, u246, u247, u248, u249, u250, u251, u252, u253, u254, u255, u256, u257, u258, u259, u260, u261, u262, u263, u264, u265, u266, u267, u268, u269, u270, u271, u272, u273, u274, u275, u276, u277, u278, u279, u280, u281, u282, u283, u284, u285, u286, u287, u288, u289, u290, u291, u292, u293, u294, u295, u296, u297], []⟩ w') :
    Code.wp Yba.prog ((Yba.f3.body.bind (stmtAt 24)).getD .skip) Q ⟨#[u0, u1, u2, u3, u4, u5, u6, u7, u8, u9, u10, u11, u12, u13, u14, u15, .int .i64 (size : Int), u17, u18, u19, u20, u21, .pointer (some ⟨A, 0, none⟩), .slice (some ⟨RB, 0, none⟩) size size, .slice (some ⟨LB, 0, none⟩) size size, u25, u26, u27, u28, u29, u30, u31, u32, u33, u34, u35, u36, u37, u38, u39, u40, u41, u42, u43, u44, u45, u46, u47, u48, u49, u50, u51, u52, u53, u54, u55, u56, u57, u58, u59, u60, u61, u62, u63, u64, u65, u66, u67, u68, u69, u70, u71, u72, u73, u74, u75, u76, u77, u78, u79, u80, u81, u82, u83, u84, u85, u86, u87, u88, u89, u90, u91, u92, u93, u94, u95, u96, u97, u98, u99, u100, u101, u102, u103, u104, u105, u106, u107, u108, u109, u110, u111, u112, u113, u114, u115, u116, u117, u118, u119, u120, u121, u122, u123, u124, u125, u126, u127, u128, u129, u130, u131, u132, u133, u134, u135, u136, u137, u138, u139, u140, u141, u142, u143, u144, u145, u146, u147, u148, u149, u150, u151, u152, u153, u154, u155, u156, u157, u158, u159, u160, u161, u162, u163, u164, u165, u166, u167, u168, u169, u170, u171, u172, u173, u174, u175, u176, u177, u178, u179, u180, u181, u182, u183, u184, u185, u186, u187, u188, u189, u190, u191, u192, u193, u194, u195, u196, u197, u198, u199, u200, u201, u202, u203, u204, u205, u206, u207, u208, u209, u210, u211, u212, u213, u214, u215, u216, u217, u218, u219, u220, u221, u222, u223, u224, u225, u226, u227, u228, u229, u230, u231, u232, u233, u234, u235, u236, u237, u238, u239, u240, u241, u242, u243, u244, u245, u246, u247, u248, u249, u250, u251, u252, u253, u254, u255, u256, u257, u258, u259, u260, u261, u262, u263, u264, u265, u266, u267, u268, u269, u270, u271, u272, u273, u274, u275, u276, u277, u278, u279, u280, u281, u282, u283, u284, u285, u286, u287, u288, u289, u290, u291, u292, u293, u294, u295, u296, u297], []⟩ w := by
  conv => arg 2; whnf
  dsimp only
  have HQ : Hid _ := hQ
  clear hQ
  have hA : A < w.heap.size := World.block_lt_of_cell? w _ c0
  have hRw : RB < w.heap.size := by obtain ⟨arr, h1, _⟩ := h0.rrow; exact (Array.getElem?_eq_some_iff.1 h1).1
  have hLw : LB < w.heap.size := by obtain ⟨arr, lnk, h1, _⟩ := h0.lrow; exact (Array.getElem?_eq_some_iff.1 h1).1
  go_wp2
  go_loopg [25] size (fun g i wr => ∃ k : Nat, k + g = size ∧ i = .int .i64 k ∧ Inn w wr RB LB size k (bitOf m) z es)
  case atStart => exact ⟨0, by omega, rfl, h0⟩
  case round =>
    obtain ⟨k, hk, rfl, hm⟩ := hrel
    by_cases hlt : k < size
    · have hsw := hm.hsize
      have d0 : wr.cell? ⟨A, 0, none⟩ = some (.int .u16 m) := (World.cell?_of_block (a := ⟨A, 0, none⟩) (hm.block A hA hAR hAL)).trans c0
      have d1 : wr.cell? ⟨A, 1, none⟩ = some (.slice pa es.length pc) := (World.cell?_of_block (a := ⟨A, 1, none⟩) (hm.block A hA hAR hAL)).trans c1
      obtain ⟨ar, hr1, hr2, hr3⟩ := hm.rrow
      obtain ⟨al, lnk, hl1, hl2, hl3⟩ := hm.lrow
      have e0 : wr.cell? ⟨RB, k, none⟩ = some ar[k] := by rw [cell_block hr1]; simp [hr2, hlt]
      have z0 : wr.frozen? ⟨RB, k, none⟩ = false := by simp [World.frozen?, hr1]
      have e1 : ∀ w2, Below wr.heap.size (wr.setCell ⟨RB, k, none⟩ (.bool (bitOf m k))) w2 → (∃ x, w2.cell? ⟨LB, k, none⟩ = some x) ∧ w2.frozen? ⟨LB, k, none⟩ = false := fun w2 hb => by
        have hL1 : w2.heap[LB]? = some (.cells al 25) := by rw [hb.block LB (by omega), Below.heap_setCell _ _ _ _ (by exact Ne.symm hRL), hl1]
        exact ⟨⟨al[k], by rw [cell_block hL1]; simp [hl2, hlt]⟩, by simp [World.frozen?, hL1]⟩
      have hss : (wr.setCell ⟨RB, k, none⟩ (.bool (bitOf m k))).heap.size = wr.heap.size := by simp [World.setCell]
      have hs2 : Ss (wr.setCell ⟨RB, k, none⟩ (.bool (bitOf m k))) (fun b => b < W.heap.size) (.slice pa es.length pc) z es := hs.mono (fun b hb => (Below.heap_setCell _ _ _ _ (by show b ≠ RB; omega)).trans (hm.block b (by omega) (by omega) (by omega))) (fun _ h => h)
      have hC := sclone (wr.setCell ⟨RB, k, none⟩ (.bool (bitOf m k))) (fun b => b < W.heap.size) _ z es hs2 (fun b hb => by rw [hss]; omega) hn hbb
      rw [hss] at hC
      have HC : Hid (Calls _ _ _ _ _) := hC
      have HE : Hid (∀ w2, Below wr.heap.size (wr.setCell ⟨RB, k, none⟩ (.bool (bitOf m k))) w2 → (∃ x, w2.cell? ⟨LB, k, none⟩ = some x) ∧ w2.frozen? ⟨LB, k, none⟩ = false) := e1
      have HS : Hid (∀ (w2 : World) (v : Value), Below wr.heap.size (wr.setCell ⟨RB, k, none⟩ (.bool (bitOf m k))) w2 → Lk w2 wr.heap.size w2.heap.size v z es → Inn w (w2.setCell ⟨LB, k, none⟩ v) RB LB size (k + 1) (bitOf m) z es) := fun w2 v hb hv => hm.step hlt hRw hLw hRL hb hv
      have hklt : (k : Int) < (size : Int) := by omega
      have hk0 : (0 : Int) ≤ (k : Int) := by omega
      have hk8 : (k : Int) < 8 := by omega
      generalize ar[k] = ark at e0
      clear hr3 hl3 hm h0 hs c0 c1 hs2 hC hss e1 hl1 hl2 hr1 hr2 hsw
      generalize es.length = ne at *
      go_wp2_with (go_at_call 6; refine HC.out.mono ?_; rintro e w2 ⟨v', rfl, hv1, hb1⟩; obtain ⟨⟨vx, hx⟩, hfz⟩ := HE.out w2 hb1; have R := HS.out w2 v' hb1 hv1; obtain ⟨a', n', c', rfl⟩ := hv1.form)
      go_roundg (gk - 1)
      case measure => omega
      case rel => exact ⟨k + 1, by omega, by go_num, R⟩
    · have : k = size := by omega
      subst this
      have R := hm
      clear hm h0 hs c0 c1
      go_wp2
      exact HQ.out _ _ _ _ _ _ _ _ _ _ _ _ _ _ _ _ _ _ _ _ _ _ _ R
end Go.Proofs.Ybulkftys
