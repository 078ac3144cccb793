import Derived.Test.YbulkfslyPart4
namespace Go.Proofs.Ybulkfsly
open Go.RowKit

set_option maxRecDepth 1000000 in
set_option maxHeartbeats 4000000 in
theorem part3 (w : World) (sa : Option Addr) (SB BB G n : Nat) (fF fT : Nat → Int) (fM fU : Nat → Nat) (hn : n ≤ 4096) (hsa : 0 < n → sa = some ⟨SB, 0, none⟩) {u0 u1 u2 u4 u9 u10 u11 u12 u13 u14 u15 u16 u17 u18 u19 u20 u21 u22 u23 u24 u25 u26 u27 u28 u29 u30 u31 u32 u33 u34 u35 u36 u37 u38 u39 u40 u41 u42 u43 u44 u45 u46 u47 u48 u49 u50 u51 u52 u53 u54 u55 u56 u57 u58 u59 u60 u61 u62 u63 u64 u65 u66 u67 u68 u69 u70 u71 u72 u73 u74 u75 u76 u77 u78 u79 u80 u81 u82 u83 u84 u85 u86 u87 u88 u89 u90 u91 u92 u93 u94 u95 u96 u97 u98 u99 u100 u101 u102 u103 u104 u105 u106 u107 u108 u109 u110 u111 u112 u113 u114 u115 u116 u117 u118 u119 u120 u121 u122 u123 u124 u125 u126 u127 u128 u129 u130 u131 u132 u133 u134 u135 u136 u137 u138 u139 u140 u141 u142 u143 u144 u145 u146 u147 u148 u149 u150 u151 u152 u153 u154 u155 u156 u157 u158 u159 u160 u161 u162 u163 u164 u165 u166 u167 u168 u169 u170 u171 u172 u173 u174 u175 u176 u177 u178 u179 u180 u181 u182 u183 u184 u185 u186 u187 u188 u189 u190 u191 u192 u193 u194 u195 u196 u197 u198 u199 u200 u201 u202 u203 u204 u205 u206 u207 u208 u209 u210 u211 u212 u213 u214 u215 u216 u217 u218 u219 u220 u221 u222 u223 u224 u225 u226 u227 u228 u229 u230 u231 u232 u233 u234 u235 u236 u237 u238 u239 u240 u241 u242 u243 u244 u245 u246 u247 : Value} (w0 : World) (hst0 : St w0 sa SB BB G n fF fT fM fU) (hbel0 : Below w.heap.size w w0) :
    Code.wp Yba.prog ((Yba.f3.body.map (tailAt 22)).getD .skip) (bodyPost Yba.prog Yba.f3 fun e w' => e = .returned (.bool true) ∧ Below w.heap.size w w') ⟨#[u0, u1, u2, .slice sa n n, u4, .slice (some ⟨BB, 0, none⟩) n n, .pointer (some ⟨G, 0, none⟩), .pointer (some ⟨G + 1 + 1 + 1, 0, none⟩), .int .i64 (n : Int), u9, u10, u11, u12, u13, u14, u15, u16, u17, u18, u19, u20, u21, u22, u23, u24, u25, u26, u27, u28, u29, u30, u31, u32, u33, u34, u35, u36, u37, u38, u39, u40, u41, u42, u43, u44, u45, u46, u47, u48, u49, u50, u51, u52, u53, u54, u55, u56, u57, u58, u59, u60, u61, u62, u63, u64, u65, u66, u67, u68, u69, u70, u71, u72, u73, u74, u75, u76, u77, u78, u79, u80, u81, u82, u83, u84, u85, u86, u87, u88, u89, u90, u91, u92, u93, u94, u95, u96, u97, u98, u99, u100, u101, u102, u103, u104, u105, u106, u107, u108, u109, u110, u111, u112, u113, u114, u115, u116, u117, u118, u119, u120, u121, u122, u123, u124, u125, u126, u127, u128, u129, u130, u131, u132, u133, u134, u135, u136, u137, u138, u139, u140, u141, u142, u143, u144, u145, u146, u147, u148, u149, u150, u151, u152, u153, u154, u155, u156, u157, u158, u159, u160, u161, u162, u163, u164, u165, u166, u167, u168, u169, u170, u171, u172, u173, u174, u175, u176, u177, u178, u179, u180, u181, u182, u183, u184, u185, u186, u187, u188, u189, u190, u191, u192, u193, u194, u195, u196, u197, u198, u199, u200, u201, u202, u203, u204, u205, u206, u207, u208, u209, u210, u211, u212, u213, u214, u215, u216, u217, u218, u219, u220, u221, u222, u223, u224, u225, u226, u227, u228, u229, u230, u231, u232, u233, u234, u235, u236, u237, u238, u239, u240, u241, u242, u243, u244, u245, u246, u247], []⟩ w0 := by
  conv => arg 2; whnf
  go_upto_block 2 with fail
  go_cut [9] (fun _ wq => St wq sa SB BB G n fF fT fM fU ∧ Below w.heap.size w wq)
  case rest =>
    obtain ⟨hst, hbel⟩ := hcut
    refine (‹∀ (a : Act) (w : World), Code.wp _ _ _ a w → _› _ _ ?_)
    exact part4 w sa SB BB G n fF fT fM fU hn hsa wc hst hbel
  case first =>
  go_wp2_with fail
  go_loopg [9] n (fun g i wr => ∃ k : Nat, k + g = n ∧ i = .int .i64 k ∧ St wr sa SB BB G n fF fT fM fU ∧ Below w.heap.size w wr)
  case atStart => exact ⟨0, by omega, rfl, hst0, hbel0⟩
  case round =>
      obtain ⟨k, hk, rfl, hst, hbel⟩ := hrel
      clear hst0 hbel0
      by_cases hlt : k < n
      · obtain rfl := hsa (by omega)
        obtain ⟨d0, d1, d2, d3⟩ := hst.sl k hlt
        obtain ⟨e0, e1, e2, e3⟩ := hst.bef k hlt
        simp only [Nat.zero_add] at d0 d1 d2 d3 e0 e1 e2 e3
        have hl := hst.links
        have hklt : (k : Int) < (n : Int) := by omega
        have hk0 : (0 : Int) ≤ (k : Int) := by omega
        have hsame := same_any (fF k) (fT k) (fM k) (fU k)
        have Hst : Hid (St wr (some ⟨SB, 0, none⟩) SB BB G n fF fT fM fU) := hst
        have Hbel : Hid (Below w.heap.size w wr) := hbel
        clear hst hbel
        go_wp2_with fail
        go_region_held3 (fun w' => w'.cell? ⟨G, 1, none⟩ = some (.slice (some ⟨SB, 0, none⟩) n n) ∧ w'.cell? ⟨SB, k * 4, none⟩ = some (.int .i64 (fF k)) ∧ w'.cell? ⟨SB, k * 4 + 1, none⟩ = some (.int .i64 (fT k)) ∧ w'.cell? ⟨SB, k * 4 + 2, none⟩ = some (.float .f64 (fM k)) ∧ w'.cell? ⟨SB, k * 4 + 3, none⟩ = some (.float .f64 (fU k)) ∧
          w'.cell? ⟨BB, k * 4, none⟩ = some (.int .i64 (fF k)) ∧ w'.cell? ⟨BB, k * 4 + 1, none⟩ = some (.int .i64 (fT k)) ∧ w'.cell? ⟨BB, k * 4 + 2, none⟩ = some (.float .f64 (fM k)) ∧ w'.cell? ⟨BB, k * 4 + 3, none⟩ = some (.float .f64 (fU k))) (go_keep)
          (first | (go_at_call 5; refine (hsame _).mono ?_; rintro e w' ⟨rfl, nd, rfl⟩))
        go_wp2
        go_roundg (gk - 1)
        case measure => omega
        case rel =>
          have hbb := below_drewN (((Below.refl wr.heap.size wr).alloc (Nat.le_refl _) (.cells #[.int .i64 (fF k), .int .i64 (fT k), .float .f64 (fM k), .float .f64 (fU k)] 27)).alloc (by simp) (.cells #[.int .i64 (fF k), .int .i64 (fT k), .float .f64 (fM k), .float .f64 (fU k)] 27)) (1 + nd)
          exact ⟨k + 1, by omega, by go_num, Hst.out.below hbb, below_all Hbel.out hbb⟩
      · have : k = n := by omega
        subst this
        go_wp2
        go_meet
        case rel => exact ⟨hst, hbel⟩
end Go.Proofs.Ybulkfsly
