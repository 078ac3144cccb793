import Derived.Test.YbulkftysBld
namespace Go.Proofs.Ybulkftys
open Go.RowKit
set_option linter.unusedVariables false
set_option linter.unusedSimpArgs false

/-- What a block holds that opens with region 'id', wherever it lies. -/
def blockAt (id : Nat) : Code → Option Code
  | .seq a b => match blockAt id a with
    | some c => some c
    | none => blockAt id b
  | .cond _ a b => match blockAt id a with
    | some c => some c
    | none => blockAt id b
  | .block _ b => if firstId b == some id then some b else blockAt id b
  | .loop b => blockAt id b
  | _ => none

/-- The three blocks of a part's round. -/
theorem lay3 {W wr : World} (m : Int) (pa : Option Addr) (pc : Nat) (z : Bool) (es : Es) (size : Nat) (bit : Nat → Bool) (hs : Ss wr (fun b => b < W.heap.size) (.slice pa es.length pc) z es) (hW : W.heap.size ≤ wr.heap.size) :
    ∃ w3, w3 = (((wr.alloc (.cells #[.int .u16 m, .slice pa es.length pc] 27)).alloc (.cells (madeCells #[.bool false] size) 4)).alloc (.cells (madeCells #[.slice none 0 0] size) 25)) ∧
      Stab wr w3 (fun _ => True) ∧ w3.heap.size = wr.heap.size + 3 ∧ w3.cell? ⟨wr.heap.size, 0, none⟩ = some (.int .u16 m) ∧ w3.cell? ⟨wr.heap.size, 1, none⟩ = some (.slice pa es.length pc) ∧
      Ss w3 (fun b => b < W.heap.size) (.slice pa es.length pc) z es ∧ Inn w3 w3 (wr.heap.size + 1) (wr.heap.size + 1 + 1) size 0 bit z es := by
  have s1 := stab_alloc wr (.cells #[.int .u16 m, .slice pa es.length pc] 27) (fun _ => True)
  have n1 := heap_alloc_new wr (.cells #[.int .u16 m, .slice pa es.length pc] 27)
  have z1 : (wr.alloc (.cells #[.int .u16 m, .slice pa es.length pc] 27)).heap.size = wr.heap.size + 1 := by simp
  generalize hw1 : wr.alloc (.cells #[.int .u16 m, .slice pa es.length pc] 27) = w1 at s1 n1 z1
  have s2 := stab_alloc w1 (.cells (madeCells #[.bool false] size) 4) (fun _ => True)
  have n2 := heap_alloc_new w1 (.cells (madeCells #[.bool false] size) 4)
  have z2 : (w1.alloc (.cells (madeCells #[.bool false] size) 4)).heap.size = w1.heap.size + 1 := by simp
  generalize hw2 : w1.alloc (.cells (madeCells #[.bool false] size) 4) = w2 at s2 n2 z2
  have s3 := stab_alloc w2 (.cells (madeCells #[.slice none 0 0] size) 25) (fun _ => True)
  have n3 := heap_alloc_new w2 (.cells (madeCells #[.slice none 0 0] size) 25)
  have z3 : (w2.alloc (.cells (madeCells #[.slice none 0 0] size) 25)).heap.size = w2.heap.size + 1 := by simp
  generalize hw3 : w2.alloc (.cells (madeCells #[.slice none 0 0] size) 25) = w3 at s3 n3 z3
  have hst := (s1.trans s2).trans s3
  have b1 : w3.heap[wr.heap.size]? = some (.cells #[.int .u16 m, .slice pa es.length pc] 27) := by rw [s3.block _ (by omega) trivial, s2.block _ (by omega) trivial, n1]
  have b2 : w3.heap[wr.heap.size + 1]? = some (.cells (madeCells #[.bool false] size) 4) := by rw [s3.block _ (by omega) trivial, ← z1, n2]
  have b3 : w3.heap[wr.heap.size + 1 + 1]? = some (.cells (madeCells #[.slice none 0 0] size) 25) := by rw [← z1, ← z2, n3]
  refine ⟨w3, rfl, hst, by omega, by rw [cell_block b1]; rfl, by rw [cell_block b1]; rfl, hs.mono (fun b hb => hst.block b (by omega) trivial) (fun _ h => h), rfl, rfl, rfl, Nat.le_refl _, fun _ _ _ _ => rfl, ⟨_, b2, by rw [size_madeCells], fun t ht => by omega⟩, ⟨_, fun _ => 0, b3, by rw [size_madeCells], fun t ht => by omega⟩⟩

set_option maxRecDepth 1000000 in
set_option maxHeartbeats 4000000 in
theorem body21 (W w0 : World) (qa : Option Addr) (qb qo n qc size MB HB : Nat) (mask : Nat → Int) (pa : Nat → Option Addr) (pc : Nat → Nat) (z : Nat → Bool) (es : Nat → Es) (wr : World) (k : Nat) (hk : k < n) (Q : Exit → Act → World → Prop)
    {u0 u1 u2 u3 u5 u6 u7 u8 u9 u10 u11 u12 u13 u14 u15 u17 u18 u21 u22 u23 u24 u25 u26 u27 u28 u29 u30 u31 u32 u33 u34 u35 u36 u37 u38 u39 u40 u41 u42 u43 u44 u45 u46 u47 u48 u49 u50 u51 u52 u53 u54 u55 u56 u57 u58 u59 u60 u61 u62 u63 u64 u65 u66 u67 u68 u69 u70 u71 u72 u73 u74 u75 u76 u77 u78 u79 u80 u81 u82 u83 u87 u88 u89 u90 u91 u92 u93 u94 u95 u96 u97 u98 u99 u100 u101 u102 u103 u104 u105 u106 u107 u108 u109 u110 u111 u112 u113 u114 u115 u116 u117 u118 u119 u120 u121 u122 u123 u124 u125 u126 u127 u128 u129 u130 u131 u132 u133 u134 u135 u136 u137 u138 u139 u140 u141 u142 u143 u144 u145 u146 u147 u148 u149 u150 u151 u152 u153 u154 u155 u156 u157 u158 u159 u160 u161 u162 u163 u164 u165 u166 u167 u168 u169 u170 u171 u172 u173 u174 u175 u176 u177 u178 u179 u180 u181 u182 u183 u184 u185 u186 u187 u188 u189 u190 u191 u192 u193 u194 u195 u196 u197 u198 u199 u200 u201 u202 u203 u204 u205 u206 u207 u208 u209 u210 u211 u212 u213 u214 u215 u216 u217 u218 u219 u220 u221 u222 u223 u224 u225 u226 u227 u228 u229 u230 u231 u232 u233 u234 u235 u236 u237 u238 u239 u240 u241 u242 u243 u244 u245 u246 u247 u248 u249 u250 u251 u252 u253 u254 u255 u256 u257 u258 u259 u260 u261 u262 u263 u264 u265 u266 u267 u268 u269 u270 u271 u272 u273 u274 u275 u276 u277 u278 u279 u280 u281 u282 u283 u284 u285 u286 u287 u288 u289 u290 u291 u292 u293 u294 u295 u296 u297 : Value}
    (hsz : size ≤ 8) (hz : 0 < size) (hn : n * 32 ≤ 140737488355328) (hq : 0 < n → qa = some ⟨qb, qo, none⟩ ∧ qb < W.heap.size) (hM : MB < w0.heap.size) (hH : HB < w0.heap.size) (hMH : MB ≠ HB) (hWM : W.heap.size ≤ MB) (hWH : W.heap.size ≤ HB) (hes : ∀ i, i < n → (es i).length * 24 ≤ 140737488351232) (hby : ∀ i, i < n → ∀ e ∈ es i, e.2.length ≤ 140737488351232) (hm : Bld w0 wr MB HB n k size mask z es) (hsrc : Src W wr qb qo n mask pa pc z es)
    (hQ : ∀ (v21 v22 v23 v24 v25 v88 v89 v90 v91 v92 v93 v94 v95 v96 v97 v98 v99 v100 v101 v102 v103 v104 v105 v106 v107 v108 v109 v110 v111 v112 v113 v114 v115 v116 v117 v118 v119 v120 v121 v122 v123 v124 v125 v126 v127 v128 v129 v130 v131 v132 : Value) (w' : World), Bld w0 w' MB HB n (k + 1) size mask z es → Q .normal ⟨#[u0, u1, u2, u3, .slice qa n qc, u5, u6, u7, u8, u9, u10, u11, u12, u13, u14, u15, .int .i64 (size : Int), u17, u18, .slice (some ⟨MB, 0, none⟩) n n, .slice (some ⟨HB, 0, none⟩) n n, v21, v22, v23, v24, v25, u26, u27, u28, u29, u30, u31, u32, u33, u34, u35, u36, u37, u38, u39, u40, u41, u42, u43, u44, u45, u46, u47, u48, u49, u50, u51, u52, u53, u54, u55, u56, u57, u58, u59, u60, u61, u62, u63, u64, u65, u66, u67, u68, u69, u70, u71, u72, u73, u74, u75, u76, u77, u78, u79, u80, u81, u82, u83, .slice qa n qc, .int .i64 (n : Int), .int .i64 (k : Int), u87, v88, v89, v90, v91, v92, v93, v94, v95, v96, v97, v98, v99, v100, v101, v102, v103, v104, v105, v106, v107, v108, v109, v110, v111, v112, v113, v114, v115, v116, v117, v118, v119, v120, v121, v122, v123, v124, v125, v126, v127, v128, v129, v130, v131, v132, u133, u134, u135, u136, u137, u138, u139, u140, u141, u142, u143, u144, u145, u146, u147, u148, u149, u150, u151, u152, u153, u154, u155, u156, u157, u158, u159, u160, u161, u162, u163, u164, u165, u166, u167, u168, u169, u170, u171, u172, u173, u174, u175, u176, u177, u178, u179, u180, u181, u182, u183, u184, u185, u186, u187, u188, u189, u190, u191, u192, u193, u194, u195, u196, u197, u198, u199, u200, u201, u202, u203, u204, u205, u206, u207, u208, u209, u210, u211, u212, u213, u214, u215, u216, u217, u218, u219, u220, u221, u222, u223, u224, u225, u226, u227, u228, u229, u230, u231, u232, u233, u234, u235, u236, u237, u238, u239, u240, u241, u242, u243, u244, u245, u246, u247, u248, u249, u250, u251, u252, u253, u254, u255, u256, u257, u258, u259, u260, u261, u262, u263, u264, u265, u266, u267, u268, u269, u270, u271, u272, u273, u274, u275, u276, u277, u278, u279, u280, u281, u282, u283, u284, u285, u286, u287, u288, u289, u290, u291, u292, u293, u294, u295, u296, u297], []⟩ w') :
    Code.wp Yba.prog ((Yba.f3.body.bind (blockAt 21)).getD .skip) Q ⟨#[u0, u1, u2, u3, .slice qa n qc, u5, u6, u7, u8, u9, u10, u11, u12, u13, u14, u15, .int .i64 (size : Int), u17, u18, .slice (some ⟨MB, 0, none⟩) n n, .slice (some ⟨HB, 0, none⟩) n n, u21, u22, u23, u24, u25, u26, u27, u28, u29, u30, u31, u32, u33, u34, u35, u36, u37, u38, u39, u40, u41, u42, u43, u44, u45, u46, u47, u48, u49, u50, u51, u52, u53, u54, u55, u56, u57, u58, u59, u60, u61, u62, u63, u64, u65, u66, u67, u68, u69, u70, u71, u72, u73, u74, u75, u76, u77, u78, u79, u80, u81, u82, u83, .slice qa n qc, .int .i64 (n : Int), .int .i64 (k : Int), u87, u88, u89, u90, u91, u92, u93, u94, u95, u96, u97, u98, u99, u100, u101, u102, u103, u104, u105, u106, u107, u108, u109, u110, u111, u112, u113, u114, u115, u116, u117, u118, u119, u120, u121, u122, u123, u124, u125, u126, u127, u128, u129, u130, u131, u132, u133, u134, u135, u136, u137, u138, u139, u140, u141, u142, u143, u144, u145, u146, u147, u148, u149, u150, u151, u152, u153, u154, u155, u156, u157, u158, u159, u160, u161, u162, u163, u164, u165, u166, u167, u168, u169, u170, u171, u172, u173, u174, u175, u176, u177, u178, u179, u180, u181, u182, u183, u184, u185, u186, u187, u188, u189, u190, u191, u192, u193, u194, u195, u196, u197, u198, u199, u200, u201, u202, u203, u204, u205, u206, u207, u208, u209, u210, u211, u212, u213, u214, u215, u216, u217, u218, u219, u220, u221, u222, u223, u224, u225, u226, u227, u228, u229, u230, u231, u232, u233, u234, u235, u236, u237, u238, u239, u240, u241, u242, u243, u244, u245, u246, u247, u248, u249, u250, u251, u252, u253, u254, u255, u256, u257, u258, u259, u260, u261, u262, u263, u264, u265, u266, u267, u268, u269, u270, u271, u272, u273, u274, u275, u276, u277, u278, u279, u280, u281, u282, u283, u284, u285, u286, u287, u288, u289, u290, u291, u292, u293, u294, u295, u296, u297], []⟩ wr := by
  conv => arg 2; whnf
  dsimp only
  have HQ : Hid _ := hQ
  clear hQ
  obtain ⟨rfl, hqb⟩ := hq (by omega)
  have d0 := hsrc.m k hk
  have d1 := hsrc.p k hk
  have hklt : (k : Int) < (n : Int) := by omega
  have hk0 : (0 : Int) ≤ (k : Int) := by omega
  have hsz0 : (0 : Int) ≤ (size : Int) := by omega
  have hmk30 := run_mk30 size hsz
  have hmk31 := run_mk31 size hsz
  have hs0 := hm.hsize
  have HM : Hid (Bld w0 wr MB HB n k size mask z es ∧ Src W wr qb qo n mask pa pc z es) := ⟨hm, hsrc⟩
  clear hm hsrc
  refine wp_gen fun rc hrc => ?_
  go_wp2_with fail
  refine hrc _ _ ?_
  clear hrc rc
  refine wp_gen fun rc hrc => ?_
  go_wp2_with fail
  refine hrc _ _ ?_
  clear hrc rc
  refine wp_gen fun rc hrc => ?_
  go_wp2_with fail
  refine hrc _ _ ?_
  clear hrc rc
  obtain ⟨w3, hw3, h3, hs3, e0, e1, es3, hin0⟩ := lay3 (W := W) (wr := wr) (mask k) (pa k) (pc k) (z k) (es k) size (bitOf (mask k)) (HM.out.2.s k hk) (by omega)
  rw [← hw3]
  clear hw3 d0 d1
  refine wp_gen fun rc hrc => ?_
  refine wp_seq (inner W w3 wr.heap.size (wr.heap.size + 1) (wr.heap.size + 1 + 1) size (mask k) (pa k) (pc k) (z k) (es k) _ hsz e0 e1 es3 (by omega) (by omega) (by omega) (by omega) (by omega) (by have := hes k hk; omega) (fun e he => by have := hby k hk e he; omega) hin0 (fun _ _ _ _ _ _ _ _ _ _ _ _ _ _ _ _ _ _ _ _ _ _ w4 hin => ?_))
  refine hrc _ _ ?_
  clear hrc rc
  have h3' : Inn w3 w4 (wr.heap.size + 1) (wr.heap.size + 2) size size (bitOf (mask k)) (z k) (es k) := hin
  have HS : Hid (∀ c0, Bld w0 (((w4.alloc (.cells #[c0, .slice none 0 0, .slice none 0 0, .slice (some ⟨wr.heap.size + 1 + 1, 0, none⟩) size size, .slice (some ⟨wr.heap.size + 1, 0, none⟩) size size, .int .i64 0] 38)).setCell ⟨MB, k, none⟩ (.pointer (some ⟨w4.heap.size, 0, none⟩))).setCell ⟨HB, k, none⟩ (.pointer (some ⟨w4.heap.size, 0, none⟩))) MB HB n (k + 1) size mask z es) := fun c0 => HM.out.1.step hk hz hM hH hMH h3 hs3 h3'
  have hi4 := h3'.hsize
  obtain ⟨am, m1, m2⟩ := HM.out.1.mrow
  obtain ⟨ah, r1, r2⟩ := HM.out.1.hrow
  have m4 : ∀ o, (w4.alloc o).heap[MB]? = some (.cells am 34) := fun o => by rw [Below.heap_alloc _ _ _ (by omega), h3'.block MB (by omega) (by omega) (by omega), h3.block MB (by omega) trivial, m1]
  have r4 : ∀ o, (w4.alloc o).heap[HB]? = some (.cells ah 34) := fun o => by rw [Below.heap_alloc _ _ _ (by omega), h3'.block HB (by omega) (by omega) (by omega), h3.block HB (by omega) trivial, r1]
  have f0 : ∀ o, (w4.alloc o).cell? ⟨MB, k, none⟩ = some am[k] := fun o => by rw [cell_block (m4 o)]; simp [m2, hk]
  have f1 : ∀ o, (w4.alloc o).frozen? ⟨MB, k, none⟩ = false := fun o => by simp [World.frozen?, m4 o]
  have f2 : ∀ o v, ((w4.alloc o).setCell ⟨MB, k, none⟩ v).cell? ⟨HB, k, none⟩ = some ah[k] := fun o v => by rw [World.cell?_setCell_other _ _ _ _ (by intro e; injection e with e1; exact hMH e1), cell_block (r4 o)]; simp [r2, hk]
  have f3 : ∀ o v, ((w4.alloc o).setCell ⟨MB, k, none⟩ v).frozen? ⟨HB, k, none⟩ = false := fun o v => by rw [World.frozen?_setCell]; simp [World.frozen?, r4 o]
  have f4 : ∀ o v, ((w4.alloc o).setCell ⟨MB, k, none⟩ v).cell? ⟨MB, k, none⟩ = some v := fun o v => World.cell?_setCell_same _ _ _ (f0 o)
  generalize am[k] = amk at f0
  generalize ah[k] = ahk at f2
  clear m1 m2 r1 r2 m4 r4 h3' hin hin0 es3 e0 e1 h3 hs3 HM hi4
  refine wp_gen fun rc hrc => ?_
  go_wp2_with fail
  refine hrc _ _ ?_
  clear hrc rc
  go_wp2_with fail
  exact HQ.out _ _ _ _ _ _ _ _ _ _ _ _ _ _ _ _ _ _ _ _ _ _ _ _ _ _ _ _ _ _ _ _ _ _ _ _ _ _ _ _ _ _ _ _ _ _ _ _ _ _ _ (HS.out _)
end Go.Proofs.Ybulkftys
