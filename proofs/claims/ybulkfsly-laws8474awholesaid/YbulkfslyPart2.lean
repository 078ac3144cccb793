import Derived.Test.YbulkfslyPart3
namespace Go.Proofs.Ybulkfsly
open Go.RowKit

set_option maxRecDepth 1000000 in
set_option maxHeartbeats 4000000 in
theorem part2 (w : World) (sa : Option Addr) (SB n : Nat) (fF fT : Nat → Int) (fM fU : Nat → Nat) (hn : n ≤ 4096) {u0 u1 u2 u4 u5 u6 u7 u8 u9 u10 u11 u12 u13 u14 u15 u16 u17 u18 u19 u20 u21 u22 u23 u24 u25 u26 u27 u28 u29 u30 u31 u32 u33 u34 u35 u36 u37 u38 u39 u40 u41 u42 u43 u44 u45 u46 u47 u48 u49 u50 u51 u52 u53 u54 u55 u56 u57 u58 u59 u60 u61 u62 u63 u64 u65 u66 u67 u68 u69 u70 u71 u72 u73 u74 u75 u76 u77 u78 u79 u80 u81 u82 u83 u84 u85 u86 u87 u88 u89 u90 u91 u92 u93 u94 u95 u96 u97 u98 u99 u100 u101 u102 u103 u104 u105 u106 u107 u108 u109 u110 u111 u112 u113 u114 u115 u116 u117 u118 u119 u120 u121 u122 u123 u124 u125 u126 u127 u128 u129 u130 u131 u132 u133 u134 u135 u136 u137 u138 u139 u140 u141 u142 u143 u144 u145 u146 u147 u148 u149 u150 u151 u152 u153 u154 u155 u156 u157 u158 u159 u160 u161 u162 u163 u164 u165 u166 u167 u168 u169 u170 u171 u172 u173 u174 u175 u176 u177 u178 u179 u180 u181 u182 u183 u184 u185 u186 u187 u188 u189 u190 u191 u192 u193 u194 u195 u196 u197 u198 u199 u200 u201 u202 u203 u204 u205 u206 u207 u208 u209 u210 u211 u212 u213 u214 u215 u216 u217 u218 u219 u220 u221 u222 u223 u224 u225 u226 u227 u228 u229 u230 u231 u232 u233 u234 u235 u236 u237 u238 u239 u240 u241 u242 u243 u244 u245 u246 u247 : Value} (w0 : World) (hsa : 0 < n → sa = some ⟨SB, 0, none⟩ ∧ SB < w0.heap.size) (hc4 : C4 w0 SB 0 n fF fT fM fU) (hbel : Below w.heap.size w w0) :
    Code.wp Yba.prog ((Yba.f3.body.map (tailAt 11)).getD .skip) (bodyPost Yba.prog Yba.f3 fun e w' => e = .returned (.bool true) ∧ Below w.heap.size w w') ⟨#[u0, u1, u2, .slice sa n n, u4, u5, u6, u7, u8, u9, u10, u11, u12, u13, u14, u15, u16, u17, u18, u19, u20, u21, u22, u23, u24, u25, u26, u27, u28, u29, u30, u31, u32, u33, u34, u35, u36, u37, u38, u39, u40, u41, u42, u43, u44, u45, u46, u47, u48, u49, u50, u51, u52, u53, u54, u55, u56, u57, u58, u59, u60, u61, u62, u63, u64, u65, u66, u67, u68, u69, u70, u71, u72, u73, u74, u75, u76, u77, u78, u79, u80, u81, u82, u83, u84, u85, u86, u87, u88, u89, u90, u91, u92, u93, u94, u95, u96, u97, u98, u99, u100, u101, u102, u103, u104, u105, u106, u107, u108, u109, u110, u111, u112, u113, u114, u115, u116, u117, u118, u119, u120, u121, u122, u123, u124, u125, u126, u127, u128, u129, u130, u131, u132, u133, u134, u135, u136, u137, u138, u139, u140, u141, u142, u143, u144, u145, u146, u147, u148, u149, u150, u151, u152, u153, u154, u155, u156, u157, u158, u159, u160, u161, u162, u163, u164, u165, u166, u167, u168, u169, u170, u171, u172, u173, u174, u175, u176, u177, u178, u179, u180, u181, u182, u183, u184, u185, u186, u187, u188, u189, u190, u191, u192, u193, u194, u195, u196, u197, u198, u199, u200, u201, u202, u203, u204, u205, u206, u207, u208, u209, u210, u211, u212, u213, u214, u215, u216, u217, u218, u219, u220, u221, u222, u223, u224, u225, u226, u227, u228, u229, u230, u231, u232, u233, u234, u235, u236, u237, u238, u239, u240, u241, u242, u243, u244, u245, u246, u247], []⟩ w0 := by
    conv => arg 2; whnf
    obtain ⟨w2, hcopy, hc4b, hbel2, hsz2⟩ := copy_ok w0 sa SB n fF fT fM fU hsa hc4
    have Hsz2 : Hid (w2.heap.size = w0.heap.size + 1) := hsz2
    clear hsz2
    have hmk := run_mk n hn
    go_wp2_with fail
    have hGc : (w2.alloc (.cells #[.slice none 0 0, .slice sa n n, .slice none 0 0] 32)).cell? ⟨w2.heap.size, 1, none⟩ = some (.slice sa n n) := by simp
    have hbelW : Below w0.heap.size w0 (w2.alloc (.cells #[.slice none 0 0, .slice sa n n, .slice none 0 0] 32)) := hbel2.alloc hbel2.size _
    refine (newRule sa SB n w2.heap.size (fun j => (fF j, fT j)) (w2.alloc (.cells #[.slice none 0 0, .slice sa n n, .slice none 0 0] 32)) hGc (fun h => (hsa h).1) hn ?_ ?_).mono ?_
    · intro j hj
      have := (hc4.below hbelW (hsa (by omega)).2 j hj).1
      simpa using this
    · intro j hj
      have := (hc4.below hbelW (hsa (by omega)).2 j hj).2.1
      simpa using this
    rintro e w3 ⟨rfl, hnr⟩
    have hst := St_start hsa hc4 hc4b hbel2 Hsz2.out hnr
    have hbel3 : Below w.heap.size w w3 := by
      have h1 := hnr.below
      have h2 := hbel.size
      have h3 := hbel2.size
      exact (hbel.trans (hbelW.mono (by omega))).trans (h1.mono (by simp; omega))
    have hsa' : 0 < n → sa = some ⟨SB, 0, none⟩ := fun h => (hsa h).1
    have r0 := hst.r0
    have r1 := hst.r1
    have r2 := hst.r2
    have r3 := hst.fr
    have r4 := hst.links
    clear hnr hGc hbelW hcopy hc4b hbel2 Hsz2 hsa hc4 hbel hmk
    simp only [World.size_alloc]
    have n28 := neq28
    have n54 := neq54
    have m35 := fun w r => run_eql_map_nil (P := Yba.prog) w 35 57 54 r Yba.underlying35
    have s51 := fun w a n c n' c' => run_neq_slice_nil_any (P := Yba.prog) w 51 _ a n c n' c' Yba.underlying51
    have hll : ((n : Int) != (n : Int)) = false := by simp
    generalize w0.heap.size = BB at hst ⊢
    generalize w2.heap.size = G at hst r0 r1 r2 r3 r4 ⊢
    clear w2
    go_upto_region 20 with fail
    go_cut [121] (fun s wr => s = .bool false ∧ St wr sa SB BB G n fF fT fM fU ∧ Below w.heap.size w wr)
    case first =>
      by_cases hpos : 0 < n
      · obtain rfl := hsa' hpos
        have hp1 : (0 : Int) < (n : Int) := by omega
        have hp2 : decide ((0 : Int) < (n : Int)) = true := decide_eq_true hp1
        go_quiet (fail)
        go_wp2
        go_meet
        case rel => exact ⟨rfl, hst.below (below_drewN (Below.refl _ _) _), below_drewN hbel3 _⟩
      · have hp2 : decide ((0 : Int) < (n : Int)) = false := decide_eq_false (by omega)
        go_quiet (fail)
        go_wp2
        go_meet
        case rel => exact ⟨rfl, hst.below (below_drewN (Below.refl _ _) _), below_drewN hbel3 _⟩
    case rest =>
    obtain ⟨rfl, hst4, hbel4⟩ := hcut
    clear hst hbel3 r0 r1 r2 r3 r4 n28 m35 s51
    go_upto_if 121 with fail
    go_cut [2] (fun _ wq => wq = wc)
    case first =>
      go_wp2
      go_meet
      case rel => exact rfl
    case rest =>
    obtain rfl := hcut
    refine (‹∀ (a : Act) (w : World), Code.wp _ _ _ a w → _› _ _ ?_)
    exact part3 w sa SB BB G n fF fT fM fU hn hsa' _ hst4 hbel4
end Go.Proofs.Ybulkfsly
