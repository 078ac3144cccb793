import Derived.Test.YbulkfsriAft
namespace Go.Proofs.Ybulkfsri
open Go.RowKit
set_option linter.unusedVariables false
set_option maxRecDepth 1000000 in
set_option maxHeartbeats 4000000 in
theorem part14 (W w : World) (a ah wa ha : Option Addr) (b off SB len cap hb hoff HB hl hcap : Nat) (fF fI fS fR fH : Nat → Int) (ro at_ sent lease : Int) (hlen : len ≤ 1048576) (hhl : hl ≤ 1048576) (ha0 : 0 < len → a = some ⟨b, off, none⟩) (hah : 0 < hl → ah = some ⟨hb, hoff, none⟩) (hwa : 0 < len → wa = some ⟨SB, 0, none⟩) (hha : 0 < hl → ha = some ⟨HB, 0, none⟩) (hnb : 0 < len → b < W.heap.size) (hnh : 0 < hl → hb < W.heap.size) (hsW : W.heap.size ≤ SB) (hsb : 0 < len → SB < w.heap.size) (hhb : 0 < hl → HB < w.heap.size) (hsh : 0 < hl → HB ≠ SB) (hsrc : C4 w b off len fF fI fS fR) (hrow : 0 < len → RowL w SB len len fF fI fS fR) (hhs : H1 w hb hoff hl fH) (hhr : H1 w HB 0 hl fH) (hbel : Below W.heap.size W w)
    {u6 u7 u8 u9 u10 u11 u12 u14 u16 u17 u18 u19 u20 u21 u22 u23 u24 u25 u26 u27 u28 u29 u30 u31 u32 u33 u34 u35 u36 u37 u38 u39 u40 u41 u42 u43 u44 u45 u46 u47 u48 u49 u50 u51 u52 u53 u54 u55 u56 u57 u58 u59 u60 u61 u62 u63 u64 u65 u66 u67 u68 u69 u70 u71 u72 u73 u74 u75 u76 u77 u78 u79 u80 u81 u82 u83 u84 u85 u86 u87 u88 u89 u90 u91 u92 u93 u94 u95 u96 u97 u98 u99 u100 u101 u102 u103 u104 u105 u106 u107 u108 u109 u110 u111 u112 u113 u114 u115 u116 u117 u118 u119 u120 u121 u122 u123 u124 u125 u126 u127 u128 u129 u130 u131 u132 u133 u134 u135 u136 u137 u138 u139 u140 u141 u142 u143 u144 u145 u146 u147 u148 u149 u150 u151 u152 u153 u154 u155 u156 u157 u158 u159 u160 u161 u162 u163 u164 u165 u166 u167 u168 u169 u170 u171 u172 u173 u174 u175 u176 u177 u178 u179 u180 u181 u182 u183 u184 u185 u186 u187 u188 u189 u190 u191 u192 u193 u194 u195 u196 u197 u198 u199 u200 u201 u202 u203 u204 u205 u206 u207 : Value} :
    Code.wp Yba.prog ((Yba.f3.body.map (tailAt 14)).getD .skip) (bodyPost Yba.prog Yba.f3 fun e w' => e = .returned (.bool true) ∧ Below W.heap.size W w') ⟨#[.slice a len cap, .int .u64 ro, .slice ah hl hcap, .int .i64 at_, .int .i64 sent, .int .i64 lease, u6, u7, u8, u9, u10, u11, u12, .slice wa len len, u14, .slice ha hl hl, u16, u17, u18, u19, u20, u21, u22, u23, u24, u25, u26, u27, u28, u29, u30, u31, u32, u33, u34, u35, u36, u37, u38, u39, u40, u41, u42, u43, u44, u45, u46, u47, u48, u49, u50, u51, u52, u53, u54, u55, u56, u57, u58, u59, u60, u61, u62, u63, u64, u65, u66, u67, u68, u69, u70, u71, u72, u73, u74, u75, u76, u77, u78, u79, u80, u81, u82, u83, u84, u85, u86, u87, u88, u89, u90, u91, u92, u93, u94, u95, u96, u97, u98, u99, u100, u101, u102, u103, u104, u105, u106, u107, u108, u109, u110, u111, u112, u113, u114, u115, u116, u117, u118, u119, u120, u121, u122, u123, u124, u125, u126, u127, u128, u129, u130, u131, u132, u133, u134, u135, u136, u137, u138, u139, u140, u141, u142, u143, u144, u145, u146, u147, u148, u149, u150, u151, u152, u153, u154, u155, u156, u157, u158, u159, u160, u161, u162, u163, u164, u165, u166, u167, u168, u169, u170, u171, u172, u173, u174, u175, u176, u177, u178, u179, u180, u181, u182, u183, u184, u185, u186, u187, u188, u189, u190, u191, u192, u193, u194, u195, u196, u197, u198, u199, u200, u201, u202, u203, u204, u205, u206, u207], []⟩ w := by
  conv => arg 2; whnf
  dsimp only
  refine wp_gen fun rc hrc => ?_
  go_wp2_with (first | refine wpList_bld (by rfl) 33 _ (by rfl) _ _ (built33 _ _ _ _ _ _ _ _) (by rfl) ?_ | refine wpList_bld (by rfl) 80 _ (by rfl) _ _ (built80 _ _ _ _ _ _ _ _) (by rfl) ?_)
  refine hrc _ _ ?_
  clear hrc rc
  refine wp_gen fun rc hrc => ?_
  go_wp2_with fail
  refine (unslot wa SB len ha hl w.heap.size ro fF fI fS fR _ (fun h => ⟨hwa h, by have := hsb h; omega⟩) hlen _ (heap_alloc_new _ _) (repl_size _ _ _ _ _ _ _ _) ((cell_block (heap_alloc_new _ _) 53).trans rfl) ((cell_block (heap_alloc_new _ _) 54).trans rfl) ((cell_block (heap_alloc_new _ _) 55).trans rfl) ?_).mono ?_
  · intro hp
    have e := hsb hp
    obtain ⟨⟨arr, h1, h2⟩, h3⟩ := hrow hp
    have e1 : (w.alloc (.cells (repl wa ha len hl ro at_ sent lease) 80)).heap[SB]? = w.heap[SB]? := Below.heap_alloc _ _ _ e
    refine ⟨⟨arr, e1.trans h1, h2⟩, fun j hj => ?_⟩
    have := h3 j hj
    simp only [cell_block h1] at this
    simp only [cell_block (e1.trans h1)]
    exact this
  rintro e w3 ⟨rfl, hun⟩
  have haft := aft W w wa ha b off SB len hb hoff HB hl fF fI fS fR fH ro at_ sent lease hnb hnh hsW hsb hhb hsh hsrc hrow hhs hhr hbel hun
  clear hun hsrc hrow hhs hhr hbel hsW hsb hhb hsh hnb hnh
  go_wp2_with fail
  first
    | refine hrc _ _ ?_
    | (refine (‹∀ (a : Act) (w : World), Code.wp _ _ _ a w → _› _ _ ?_); refine hrc _ _ ?_)
  clear hrc rc
  generalize w.heap.size = G at haft ⊢
  have e0 := haft.g0
  have e1 := haft.g1
  have e2 := haft.g2
  have e3 := haft.g3
  have e4 := haft.g4
  have e5 := haft.g5
  have Ha : Hid (Aft W w3 b off SB len hb hoff HB hl G wa ha fF fI fS fR fH at_ sent lease) := haft
  clear haft
  refine wp_gen fun rc hrc => ?_
  go_wp2_with (first | refine wpList_bld (by rfl) 33 _ (by rfl) _ _ (built33 _ _ _ _ _ _ _ _) (by rfl) ?_ | refine wpList_bld (by rfl) 80 _ (by rfl) _ _ (built80 _ _ _ _ _ _ _ _) (by rfl) ?_)
  refine hrc _ _ ?_
  clear hrc rc e0 e1 e2 e3 e4 e5
  obtain ⟨hst, hbel⟩ := Ha.out.st
  clear Ha
  generalize w3.heap.size = Gg at hst ⊢
  generalize w3.alloc (.cells #[.slice wa len len, .int .u64 0, .slice ha 0 hl, .int .i64 at_, .int .i64 sent, .int .i64 lease] 33) = w4 at hst hbel ⊢
  have e0 := hst.g0
  have hnn : ((len : Int) != (len : Int)) = false := by simp
  have s25 := fun w a n c n' c' => Lib.run_eql_slice_nil (P := Yba.prog) w 25 _ a n c n' c' Yba.underlying25
  have H2 : Hid (St w4 b off SB len hb hoff HB hl Gg wa ha fF fI fS fR fH at_ sent lease ∧ Below W.heap.size W w4) := ⟨hst, hbel⟩
  clear hst hbel
  refine wp_gen_if fun ra rc hra hrc => ?_
  cases wa with
  | none =>
    go_wp2_with fail
    first
      | refine hrc _ _ ?_
      | (refine (‹∀ (a : Act) (w : World), Code.wp _ _ _ a w → _› _ _ ?_); refine hrc _ _ ?_)
    exact part19 W w4 a ah none ha b off SB len cap hb hoff HB hl hcap Gg fF fI fS fR fH ro at_ sent lease hlen hhl ha0 hah hwa hha H2.out.1 H2.out.2
  | some x =>
    go_wp2_with fail
    first
      | refine hrc _ _ ?_
      | (refine (‹∀ (a : Act) (w : World), Code.wp _ _ _ a w → _› _ _ ?_); refine hrc _ _ ?_)
    exact part19 W w4 a ah (some x) ha b off SB len cap hb hoff HB hl hcap Gg fF fI fS fR fH ro at_ sent lease hlen hhl ha0 hah hwa hha H2.out.1 H2.out.2
end Go.Proofs.Ybulkfsri
