import Derived.Test.YbulkfslyFmtR
import Derived.Test.YbulkfslyFmtP38
import Derived.Deep.LoopGhost
import Derived.Deep.DeepCutAuto
import Derived.Deep.Light
import Derived.Deep.CutBlock
import Derived.BigQuiet
namespace Go.Proofs.YbulkfslyFmt
open Go.RowKit
set_option linter.unusedVariables false
set_option linter.unusedSimpArgs false
attribute [local go_sem] run_store_float

set_option maxRecDepth 1000000 in
set_option maxHeartbeats 4000000 in
theorem partCl (w w1 : World) (N n m PS : Nat) (len cap : Nat → Nat) (t : Nat) (e v cnt room lim : Int) (sd : Bool) (sa : Addr) (st : ByteArray) (bf : Bool) (hn : n ≤ 65536) (hm : m ≤ 65536) (hg0 : w.cell? ⟨0, 0, none⟩ = some (.iface 66 (.pointer (some sa)))) (hgs : w.cell? sa = some (.string st)) (hsa : sa.block < N) (h00 : 0 < N) (hb0 : bf = false → ∀ M, n = M + 1 → len M < 65536) (hb1 : bf = true → ∀ l, n = l + 1 → len l = 65536)
    (hbld : Bld w1 N (n + m) (n + m) (n + m) (n + m) len cap) (hsz : w1.heap.size = PS) (hPS : PS = N + 2 + 2 * (n + m)) (hbel : Below N w w1) (hlc : ∀ i, i < n + m → len i ≤ cap i ∧ cap i ≤ 200000) (hl : ∀ i, i < n → len i ≤ 65536)
    {u7 u8 u9 u10 u11 u12 u13 u14 u15 u16 u17 u18 u19 u20 u22 u26 u27 u28 u29 u30 u31 u32 u33 u34 u35 u36 u37 u38 u39 u40 u41 u42 u43 u44 u45 u46 u47 u48 u49 u50 u51 u52 u53 u54 u55 u56 u57 u58 u59 u60 u61 u62 u63 u64 u65 u66 u67 u68 u69 u70 u71 u72 u73 u74 u75 u76 u77 u78 u79 u80 u81 u82 u83 u84 u85 u86 u87 u88 u89 u90 u91 u92 u93 u94 u95 u96 u97 u98 u99 u100 u101 u102 u103 u104 u105 u106 u107 u108 u109 u110 u111 u112 u113 u114 u115 u116 u117 u118 u119 u120 u121 u122 u123 u124 u125 u126 u127 u128 u129 u130 u131 u132 u133 u134 u135 u136 u137 u138 u139 u140 u141 u142 u143 u144 u145 u146 u147 u148 u149 u150 u151 u152 u153 u154 u155 u156 u157 u158 u159 u160 u161 u162 u163 u164 u165 u166 u167 u168 u169 u170 u171 u172 u173 u174 u175 u176 u177 u178 u179 u180 u181 u182 u183 u184 u185 u186 u187 u188 u189 u190 u191 u192 u193 u194 u195 u196 u197 u198 u199 u200 u201 u202 u203 u204 u205 u206 u207 u208 u209 u210 u211 u212 u213 u214 u215 u216 u217 u218 u219 u220 u221 u222 u223 u224 u225 u226 u227 u228 u229 u230 u231 u232 u233 u234 u235 u236 u237 u238 u239 u240 u241 u242 u243 u244 u245 u246 u247 u248 u249 u250 u251 u252 u253 u254 u255 u256 u257 u258 u259 u260 u261 u262 u263 u264 u265 u266 u267 u268 u269 u270 u271 u272 u273 u274 u275 u276 u277 u278 u279 u280 u281 u282 u283 u284 u285 u286 u287 u288 u289 u290 u291 u292 u293 u294 u295 u296 u297 u298 u299 u300 u301 u302 u303 u304 u305 u306 u307 u308 u309 u310 u311 u312 u313 u314 u315 u316 u317 u318 u319 u320 u321 u322 u323 u324 u325 u326 u327 u328 u329 u330 u331 u332 u333 u334 u335 u336 u337 u338 u339 u340 u341 u342 u343 u344 u345 u346 u347 u348 u349 u350 u351 u352 u353 u354 u355 u356 u357 u358 u359 u360 u361 u362 u363 u364 u365 u366 u367 u368 u369 u370 u371 u372 u373 u374 u375 u376 u377 u378 u379 u380 u381 u382 u383 u384 u385 u386 u387 u388 u389 u390 u391 u392 u393 u394 u395 u396 u397 u398 u399 u400 u401 u402 u403 u404 u405 u406 u407 u408 u409 u410 u411 u412 u413 u414 u415 u416 u417 u418 u419 u420 u421 u422 u423 u424 u425 u426 u427 u428 u429 u430 u431 u432 u433 u434 u435 u436 u437 u438 u439 u440 u441 u442 u443 u444 u445 u446 u447 u448 u449 u450 u451 u452 u453 u454 u455 u456 u457 u458 u459 u460 : Value} :
    Code.wp Ybaf.prog ((Ybaf.f3.body.map (tailAt 30)).getD .skip) (bodyPost Ybaf.prog Ybaf.f3 fun e w' => e = .returned (.bool true) ∧ Below N w w') ⟨#[.float .f64 t, .int .i64 e, .int .i64 v, .int .i64 cnt, .int .i64 room, .int .i64 lim, .bool sd, u7, u8, u9, u10, u11, u12, u13, u14, u15, u16, u17, u18, u19, u20, .int .i64 (n : Int), u22, .slice (some ⟨N, 0, none⟩) (n + m) (n + m), .slice (some ⟨N + 1, 0, none⟩) (n + m) (n + m), .bool bf, u26, u27, u28, u29, u30, u31, u32, u33, u34, u35, u36, u37, u38, u39, u40, u41, u42, u43, u44, u45, u46, u47, u48, u49, u50, u51, u52, u53, u54, u55, u56, u57, u58, u59, u60, u61, u62, u63, u64, u65, u66, u67, u68, u69, u70, u71, u72, u73, u74, u75, u76, u77, u78, u79, u80, u81, u82, u83, u84, u85, u86, u87, u88, u89, u90, u91, u92, u93, u94, u95, u96, u97, u98, u99, u100, u101, u102, u103, u104, u105, u106, u107, u108, u109, u110, u111, u112, u113, u114, u115, u116, u117, u118, u119, u120, u121, u122, u123, u124, u125, u126, u127, u128, u129, u130, u131, u132, u133, u134, u135, u136, u137, u138, u139, u140, u141, u142, u143, u144, u145, u146, u147, u148, u149, u150, u151, u152, u153, u154, u155, u156, u157, u158, u159, u160, u161, u162, u163, u164, u165, u166, u167, u168, u169, u170, u171, u172, u173, u174, u175, u176, u177, u178, u179, u180, u181, u182, u183, u184, u185, u186, u187, u188, u189, u190, u191, u192, u193, u194, u195, u196, u197, u198, u199, u200, u201, u202, u203, u204, u205, u206, u207, u208, u209, u210, u211, u212, u213, u214, u215, u216, u217, u218, u219, u220, u221, u222, u223, u224, u225, u226, u227, u228, u229, u230, u231, u232, u233, u234, u235, u236, u237, u238, u239, u240, u241, u242, u243, u244, u245, u246, u247, u248, u249, u250, u251, u252, u253, u254, u255, u256, u257, u258, u259, u260, u261, u262, u263, u264, u265, u266, u267, u268, u269, u270, u271, u272, u273, u274, u275, u276, u277, u278, u279, u280, u281, u282, u283, u284, u285, u286, u287, u288, u289, u290, u291, u292, u293, u294, u295, u296, u297, u298, u299, u300, u301, u302, u303, u304, u305, u306, u307, u308, u309, u310, u311, u312, u313, u314, u315, u316, u317, u318, u319, u320, u321, u322, u323, u324, u325, u326, u327, u328, u329, u330, u331, u332, u333, u334, u335, u336, u337, u338, u339, u340, u341, u342, u343, u344, u345, u346, u347, u348, u349, u350, u351, u352, u353, u354, u355, u356, u357, u358, u359, u360, u361, u362, u363, u364, u365, u366, u367, u368, u369, u370, u371, u372, u373, u374, u375, u376, u377, u378, u379, u380, u381, u382, u383, u384, u385, u386, u387, u388, u389, u390, u391, u392, u393, u394, u395, u396, u397, u398, u399, u400, u401, u402, u403, u404, u405, u406, u407, u408, u409, u410, u411, u412, u413, u414, u415, u416, u417, u418, u419, u420, u421, u422, u423, u424, u425, u426, u427, u428, u429, u430, u431, u432, u433, u434, u435, u436, u437, u438, u439, u440, u441, u442, u443, u444, u445, u446, u447, u448, u449, u450, u451, u452, u453, u454, u455, u456, u457, u458, u459, u460], []⟩ w1 := by
  have hnm : (n : Int) ≤ ((n + m : Nat) : Int) := by omega
  have hq : n ≤ n + m := by omega
  have m24 := mk24 n (by omega)
  have m25 := mk25 n (by omega)
  have hst := Cl.start cnt room lim sd hbld hsz hPS hlc
  have Hst : Hid (Cl _ N n m PS 0 0 len cap (xtOf w1 N len) (xwOf w1 N len) cnt room lim sd) := hst
  have Hsz : Hid (w1.heap.size = PS) := hsz
  have hF := xtOf_isF hbld
  have hI := xwOf_isI hbld
  have Hbel : Hid (Below N w w1) := hbel
  have HPS : Hid (PS = N + 2 + 2 * (n + m)) := hPS
  have Hlc : Hid (∀ i, i < n + m → len i ≤ cap i ∧ cap i ≤ 200000) := hlc
  clear hbld hbel hst hsz hPS hlc
  conv => arg 2; whnf
  dsimp only
  go_wp2_with fail
  go_region
  go_upto_region 33 with fail
  go_cut [33, 34, 35, 36] (fun a b c d wq => a = .pointer (some ⟨PS, 0, none⟩) ∧ b = .slice (some ⟨PS + 1, 0, none⟩) n n ∧ c = .slice (some ⟨PS + 2, 0, none⟩) n n ∧ d = .int .i64 0 ∧ Cl wq N n m PS 0 0 len cap (xtOf w1 N len) (xwOf w1 N len) cnt room lim sd ∧ Below N w wq)
  case first =>
    go_wp2
    go_meet
    case rel =>
      refine ⟨by rw [Hsz.out], by rw [Hsz.out], by rw [Hsz.out], rfl, Hst.out.below (Below.refl _ _).drew (Nat.le_refl _) HPS.out, ?_⟩
      have e := HPS.out
      have e2 := Hsz.out
      exact (((Hbel.out.alloc (by omega) _).alloc (by simp; omega) _).alloc (by simp; omega) _).drew
  case rest =>
  clear m24 m25 Hst Hsz Hbel
  obtain ⟨rfl, rfl, rfl, rfl, hcl, hbe⟩ := hcut
  generalize xtOf w1 N len = xt at *
  generalize xwOf w1 N len = xw at *
  clear w1
  go_upto_block 6 with fail
  go_cut [36] (fun _ wq => Cl wq N n m PS n n len cap xt xw cnt room lim sd ∧ Below N w wq)
  case rest =>
    clear hcl hbe
    obtain ⟨hcl, hbe⟩ := hcut
    refine (‹∀ (a : Act) (w : World), Code.wp _ _ _ a w → _› _ _ ?_)
    by_cases hrc : room ≤ cnt
    · exact partR w wc N n m PS t e v len cap xt xw cnt room lim sd sa st hn hm hcl HPS.out hbe hl hF hI hg0 hgs hsa h00 hrc
    · have hrc' : cnt < room := by omega
      by_cases hz : n = 0 ∨ bf = true
      · exact part38 w wc N n m PS t n e v len cap xt xw cnt room lim sd bf hn hm hcl HPS.out hbe hl hF hI hrc' (.inr ⟨rfl, fun l hl2 => hb1 (hz.resolve_left (by omega)) l hl2, hz⟩)
      · obtain ⟨M, hMn⟩ : ∃ M, M + 1 = n := ⟨n - 1, by have : ¬ n = 0 := fun h => hz (.inl h); omega⟩
        have hbf : bf = false := by
          cases bf
          · rfl
          · exact absurd (.inr rfl) hz
        exact part38 w wc N n m PS t M e v len cap xt xw cnt room lim sd bf hn hm hcl HPS.out hbe hl hF hI hrc' (.inl ⟨hMn, hb0 hbf M hMn.symm, hbf⟩)
  case first =>
  go_wp2_with fail
  go_loopg [36] n (fun g i wr => ∃ k : Nat, k + g = n ∧ i = .int .i64 k ∧ Cl wr N n m PS k k len cap xt xw cnt room lim sd ∧ Below N w wr)
  case atStart => exact ⟨0, by omega, rfl, hcl, hbe⟩
  case round =>
    obtain ⟨k, hk, rfl, hc, hb⟩ := hrel
    clear hcl hbe
    by_cases hlt : k < n
    · have hklt : (k : Int) < (n : Int) := by omega
      have hkm : (k : Int) < ((n + m : Nat) : Int) := by omega
      have hk0 : (0 : Int) ≤ (k : Int) := by omega
      have a1 := hc.bld.ct k (by omega)
      have H1 : Hid (Cl wr N n m PS k k len cap xt xw cnt room lim sd ∧ Below N w wr) := ⟨hc, hb⟩
      have HF : Hid (∀ u ∈ xt k, isF u) := hF k (by omega)
      have HI : Hid (∀ u ∈ xw k, isI u) := hI k (by omega)
      have Hl : Hid (∀ i, i < n → len i ≤ 65536) := hl
      have HFF : Hid (∀ i, i < n + m → ∀ u ∈ xt i, isF u) := hF
      have HII : Hid (∀ i, i < n + m → ∀ u ∈ xw i, isI u) := hI
      clear hc hb hF hI hl
      go_upto_region 36 with fail
      go_cut [176] (fun _ wq => Cl wq N n m PS (k + 1) k len cap xt xw cnt room lim sd ∧ Below N w wq)
      case first =>
        have o1 := H1.out.1.ot k (by omega)
        obtain ⟨v1, d1, _⟩ := H1.out.1.bt.cell hlt
        have z1 := H1.out.1.bt.frozen k
        have lB : PS + 1 < wr.heap.size := by have := H1.out.1.size; omega
        have hcall := cloneF (N + 2 + 2 * k) (len k) (cap k) (xt k) wr (by have := o1.1; omega) (o1.cells rfl) (fun u hu => isF_one (HF.out u hu)) (Hl.out k hlt) (owns_lt o1).2
        have HCa : Hid (Calls _ _ _ _ _) := hcall
        clear o1 hcall
        go_wp2_with (go_at_call 4; refine HCa.out.mono ?_; rintro e w4 ⟨g, c, rfl, hown, hbb⟩; have d2 := (hbb.cell (p := ⟨PS + 1, k, none⟩) lB).trans d1; have z2 := (hbb.frozen (p := ⟨PS + 1, k, none⟩) lB).trans z1)
        go_meet
        case rel => exact ⟨(H1.out.1.below hbb (Nat.le_refl _) HPS.out).setBT HPS.out hlt g c (owns_mono hown H1.out.1.size), (H1.out.2.trans (hbb.mono (by have := HPS.out; have := H1.out.1.size; omega))).setCell (p := ⟨PS + 1, k, none⟩) (by have := HPS.out; show N ≤ PS + 1; omega) _⟩
      case rest =>
      obtain ⟨hc2, hb2⟩ := hcut
      have H2 : Hid (Cl _ N n m PS (k + 1) k len cap xt xw cnt room lim sd ∧ Below N w _) := ⟨hc2, hb2⟩
      have a2 := hc2.bld.cw k (by omega)
      have o2 := hc2.ow k (by omega)
      obtain ⟨v1, d1, _⟩ := hc2.bw.cell hlt
      have z1 := hc2.bw.frozen k
      have lB : PS + 2 < wc.heap.size := by have := hc2.size; omega
      have hcall := cloneW (N + 3 + 2 * k) (len k) (cap k) (xw k) wc (by have := o2.1; omega) (o2.cells rfl) (fun u hu => isI_one (HI.out u hu)) (Hl.out k hlt) (owns_lt o2).2
      have HCa : Hid (Calls _ _ _ _ _) := hcall
      clear hc2 hb2 o2 hcall a1 H1
      go_wp2_with (go_at_call 5; refine HCa.out.mono ?_; rintro e w4 ⟨g, c, rfl, hown, hbb⟩; have d2 := (hbb.cell (p := ⟨PS + 2, k, none⟩) lB).trans d1; have z2 := (hbb.frozen (p := ⟨PS + 2, k, none⟩) lB).trans z1)
      go_roundg (n - (k + 1))
      case measure => omega
      case rel => exact ⟨k + 1, by omega, by go_num, (H2.out.1.below hbb (Nat.le_refl _) HPS.out).setBW HPS.out hlt g c (owns_mono hown H2.out.1.size), (H2.out.2.trans (hbb.mono (by have := HPS.out; have := H2.out.1.size; omega))).setCell (p := ⟨PS + 2, k, none⟩) (by have := HPS.out; show N ≤ PS + 2; omega) _⟩
    · have hke : k = n := by omega
      subst hke
      go_wp2
      go_meet
      case rel => exact ⟨hc, hb⟩
end Go.Proofs.YbulkfslyFmt
