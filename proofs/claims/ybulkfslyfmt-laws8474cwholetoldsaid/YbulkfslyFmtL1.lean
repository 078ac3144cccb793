import Derived.Test.YbulkfslyFmtL3
import Derived.Deep.LoopGhost
import Derived.Deep.DeepCutAuto
import Derived.Deep.Light
import Derived.Deep.CutBlock
import Derived.BigQuiet
namespace Go.Proofs.YbulkfslyFmt
open Go.RowKit
set_option linter.unusedVariables false
set_option linter.unusedSimpArgs false
attribute [local go_sem] run_store_float

set_option maxRecDepth 1000000 in
set_option maxHeartbeats 4000000 in
theorem partL1 (w w1 : World) (va ha : Option Addr) (vb vo N n m vc hc : Nat) (fb : Bool) (f h : Nat → Nat) (t : Nat) (e v cnt room lim : Int) (sd : Bool) (sa : Addr) (st : ByteArray) (hn : n ≤ 65536) (hm : m ≤ 65536) (hg0 : w.cell? ⟨0, 0, none⟩ = some (.iface 66 (.pointer (some sa)))) (hgs : w.cell? sa = some (.string st)) (hsa : sa.block < N) (h00 : 0 < N) (hbk ho : Nat) (hha : 0 < m → ha = some ⟨hbk, ho, none⟩ ∧ hbk < N) (hhc : ∀ j, j < m → w.cell? ⟨hbk, ho + j, none⟩ = some (.int .u8 (h j : Int))) (hh : ∀ j, h j ≤ 255)
    (hva : 0 < n → va = some ⟨vb, vo, none⟩ ∧ vb < N) (hvc : ∀ j, j < n → w.cell? ⟨vb, vo + j, none⟩ = some (.int .u8 (f j : Int))) (hf : ∀ j, f j ≤ 255)
    (hbld : Bld w1 N (n + m) 0 0 0 (lenF fb n f h) (capF fb n f h)) (hsz : w1.heap.size = N + 2) (hbel : Below N w w1)
    {u10 u11 u12 u13 u14 u15 u16 u17 u18 u19 u20 u26 u27 u28 u29 u30 u31 u32 u33 u34 u35 u36 u37 u38 u39 u40 u41 u42 u43 u44 u45 u46 u47 u48 u49 u50 u51 u52 u53 u54 u55 u56 u57 u58 u59 u60 u61 u62 u63 u64 u65 u66 u67 u68 u69 u70 u71 u72 u73 u74 u75 u76 u77 u78 u79 u80 u81 u82 u83 u84 u85 u86 u87 u88 u89 u90 u91 u92 u93 u94 u95 u96 u97 u98 u99 u100 u101 u102 u103 u104 u105 u106 u107 u108 u109 u110 u111 u112 u113 u114 u115 u116 u117 u118 u119 u120 u121 u122 u123 u124 u125 u126 u127 u128 u129 u130 u131 u132 u133 u134 u135 u136 u137 u138 u139 u140 u141 u142 u143 u144 u145 u146 u147 u148 u149 u150 u151 u152 u153 u154 u155 u156 u157 u158 u159 u160 u161 u162 u163 u164 u165 u166 u167 u168 u169 u170 u171 u172 u173 u174 u175 u176 u177 u178 u179 u180 u181 u182 u183 u184 u185 u186 u187 u188 u189 u190 u191 u192 u193 u194 u195 u196 u197 u198 u199 u200 u201 u202 u203 u204 u205 u206 u207 u208 u209 u210 u211 u212 u213 u214 u215 u216 u217 u218 u219 u220 u221 u222 u223 u224 u225 u226 u227 u228 u229 u230 u231 u232 u233 u234 u235 u236 u237 u238 u239 u240 u241 u242 u243 u244 u245 u246 u247 u248 u249 u250 u251 u252 u253 u254 u255 u256 u257 u258 u259 u260 u261 u262 u263 u264 u265 u266 u267 u268 u269 u270 u271 u272 u273 u274 u275 u276 u277 u278 u279 u280 u281 u282 u283 u284 u285 u286 u287 u288 u289 u290 u291 u292 u293 u294 u295 u296 u297 u298 u299 u300 u301 u302 u303 u304 u305 u306 u307 u308 u309 u310 u311 u312 u313 u314 u315 u316 u317 u318 u319 u320 u321 u322 u323 u324 u325 u326 u327 u328 u329 u330 u331 u332 u333 u334 u335 u336 u337 u338 u339 u340 u341 u342 u343 u344 u345 u346 u347 u348 u349 u350 u351 u352 u353 u354 u355 u356 u357 u358 u359 u360 u361 u362 u363 u364 u365 u366 u367 u368 u369 u370 u371 u372 u373 u374 u375 u376 u377 u378 u379 u380 u381 u382 u383 u384 u385 u386 u387 u388 u389 u390 u391 u392 u393 u394 u395 u396 u397 u398 u399 u400 u401 u402 u403 u404 u405 u406 u407 u408 u409 u410 u411 u412 u413 u414 u415 u416 u417 u418 u419 u420 u421 u422 u423 u424 u425 u426 u427 u428 u429 u430 u431 u432 u433 u434 u435 u436 u437 u438 u439 u440 u441 u442 u443 u444 u445 u446 u447 u448 u449 u450 u451 u452 u453 u454 u455 u456 u457 u458 u459 u460 : Value} :
    Code.wp Ybaf.prog ((Ybaf.f3.body.map (tailAt 8)).getD .skip) (bodyPost Ybaf.prog Ybaf.f3 fun e w' => e = .returned (.bool true) ∧ Below N w w') ⟨#[.float .f64 t, .int .i64 e, .int .i64 v, .int .i64 cnt, .int .i64 room, .int .i64 lim, .bool sd, .slice va n vc, .bool fb, .slice ha m hc, u10, u11, u12, u13, u14, u15, u16, u17, u18, u19, u20, .int .i64 (n : Int), .int .i64 (m : Int), .slice (some ⟨N, 0, none⟩) (n + m) (n + m), .slice (some ⟨N + 1, 0, none⟩) (n + m) (n + m), .bool false, u26, u27, u28, u29, u30, u31, u32, u33, u34, u35, u36, u37, u38, u39, u40, u41, u42, u43, u44, u45, u46, u47, u48, u49, u50, u51, u52, u53, u54, u55, u56, u57, u58, u59, u60, u61, u62, u63, u64, u65, u66, u67, u68, u69, u70, u71, u72, u73, u74, u75, u76, u77, u78, u79, u80, u81, u82, u83, u84, u85, u86, u87, u88, u89, u90, u91, u92, u93, u94, u95, u96, u97, u98, u99, u100, u101, u102, u103, u104, u105, u106, u107, u108, u109, u110, u111, u112, u113, u114, u115, u116, u117, u118, u119, u120, u121, u122, u123, u124, u125, u126, u127, u128, u129, u130, u131, u132, u133, u134, u135, u136, u137, u138, u139, u140, u141, u142, u143, u144, u145, u146, u147, u148, u149, u150, u151, u152, u153, u154, u155, u156, u157, u158, u159, u160, u161, u162, u163, u164, u165, u166, u167, u168, u169, u170, u171, u172, u173, u174, u175, u176, u177, u178, u179, u180, u181, u182, u183, u184, u185, u186, u187, u188, u189, u190, u191, u192, u193, u194, u195, u196, u197, u198, u199, u200, u201, u202, u203, u204, u205, u206, u207, u208, u209, u210, u211, u212, u213, u214, u215, u216, u217, u218, u219, u220, u221, u222, u223, u224, u225, u226, u227, u228, u229, u230, u231, u232, u233, u234, u235, u236, u237, u238, u239, u240, u241, u242, u243, u244, u245, u246, u247, u248, u249, u250, u251, u252, u253, u254, u255, u256, u257, u258, u259, u260, u261, u262, u263, u264, u265, u266, u267, u268, u269, u270, u271, u272, u273, u274, u275, u276, u277, u278, u279, u280, u281, u282, u283, u284, u285, u286, u287, u288, u289, u290, u291, u292, u293, u294, u295, u296, u297, u298, u299, u300, u301, u302, u303, u304, u305, u306, u307, u308, u309, u310, u311, u312, u313, u314, u315, u316, u317, u318, u319, u320, u321, u322, u323, u324, u325, u326, u327, u328, u329, u330, u331, u332, u333, u334, u335, u336, u337, u338, u339, u340, u341, u342, u343, u344, u345, u346, u347, u348, u349, u350, u351, u352, u353, u354, u355, u356, u357, u358, u359, u360, u361, u362, u363, u364, u365, u366, u367, u368, u369, u370, u371, u372, u373, u374, u375, u376, u377, u378, u379, u380, u381, u382, u383, u384, u385, u386, u387, u388, u389, u390, u391, u392, u393, u394, u395, u396, u397, u398, u399, u400, u401, u402, u403, u404, u405, u406, u407, u408, u409, u410, u411, u412, u413, u414, u415, u416, u417, u418, u419, u420, u421, u422, u423, u424, u425, u426, u427, u428, u429, u430, u431, u432, u433, u434, u435, u436, u437, u438, u439, u440, u441, u442, u443, u444, u445, u446, u447, u448, u449, u450, u451, u452, u453, u454, u455, u456, u457, u458, u459, u460], []⟩ w1 := by
  conv => arg 2; whnf
  dsimp only
  go_upto_block 0 with fail
  go_cut [25] (fun s wq => s = .bool (flg fb n n) ∧ Bld wq N (n + m) n n n (lenF fb n f h) (capF fb n f h) ∧ wq.heap.size = N + 2 + 2 * n ∧ Below N w wq)
  case rest =>
    obtain ⟨rfl, hb, hsz2, hbe⟩ := hcut
    refine (‹∀ (a : Act) (w : World), Code.wp _ _ _ a w → _› _ _ ?_)
    exact partL3 w wc ha hbk ho N n m hc fb f h t e v cnt room lim sd sa st hn hm hg0 hgs hsa h00 hf hha hhc hh hb hsz2 hbe
  case first =>
  go_wp2_with fail
  go_loopg [25, 26] n (fun g b i wr => ∃ k : Nat, k + g = n ∧ i = .int .i64 k ∧ b = .bool (flg fb n k) ∧ Bld wr N (n + m) k k k (lenF fb n f h) (capF fb n f h) ∧ wr.heap.size = N + 2 + 2 * k ∧ Below N w wr)
  case atStart => exact ⟨0, by omega, rfl, (by rw [flag_zero]), hbld, hsz, hbel⟩
  case round =>
    obtain ⟨k, hk, rfl, rfl, hb, hs, hbe⟩ := hrel
    clear hbld hsz hbel
    by_cases hlt : k < n
    · obtain ⟨e, hvN⟩ := hva (by omega)
      cases e
      have c0 := (hbe.cell (p := ⟨vb, vo + k, none⟩) hvN).trans (hvc k hlt)
      have hklt : (k : Int) < (n : Int) := by omega
      have hk0 : (0 : Int) ≤ (k : Int) := by omega
      have Hb : Hid (Bld wr N (n + m) k k k (lenF fb n f h) (capF fb n f h)) := hb
      have Hs : Hid (wr.heap.size = N + 2 + 2 * k) := hs
      have Hbe : Hid (Below N w wr) := hbe
      have Hvc : Hid (∀ j, j < n → w.cell? ⟨vb, vo + j, none⟩ = some (.int .u8 (f j : Int))) := hvc
      have Hf : Hid (∀ j, f j ≤ 255) := hf
      have Hhc : Hid (∀ j, j < m → w.cell? ⟨hbk, ho + j, none⟩ = some (.int .u8 (h j : Int))) := hhc
      have Hh0 : Hid (w.cell? ⟨0, 0, none⟩ = some (.iface 66 (.pointer (some sa))) ∧ w.cell? sa = some (.string st)) := ⟨hg0, hgs⟩
      clear hg0 hgs hhc hha hh
      clear hb hs hbe hva hvc hf
      have Hq : Hid (((k : Int) == (n : Int) - 1) = decide (k + 1 = n)) := by
        show _ = _
        by_cases e : k + 1 = n
        · rw [decide_eq_true e, beq_iff_eq]; omega
        · rw [decide_eq_false e, beq_eq_false_iff_ne]; omega
      go_upto_region 12 with fail
      go_cut [79] (fun s wq => s = .bool (fb && decide (k + 1 = n)) ∧ wq = wr)
      case first =>
        cases fb
        · go_wp2
          go_meet
          case rel => exact ⟨rfl, rfl⟩
        · go_wp2
          go_meet
          case rel => exact ⟨by rw [Hq.out]; rfl, rfl⟩
      case rest =>
      obtain ⟨rfl, h2⟩ := hcut
      have h3 : wr = wc := h2.symm
      subst h3
      go_upto_if 79 with fail
      go_cut [25, 27] (fun s v wq => s = .bool (flg fb n (k + 1)) ∧ v = .int .i64 (lenF fb n f h k : Int) ∧ wq = wr)
      case first =>
        cases hl : (fb && decide (k + 1 = n))
        · have hL := lenF_false (f := f) h hlt hl
          have hfl := flag_false hlt hl
          have hf0 := flag_early (fb := fb) hlt
          have hw : wrap64 (f k : Int) = (f k : Int) := wrap_small (Hf.out k)
          go_wp2
          go_meet
          case rel => exact ⟨by rw [hfl], by rw [hL], rfl⟩
        · have hL := lenF_true (f := f) h hlt hl
          have hfl := flag_true hlt hl
          go_wp2
          go_meet
          case rel => exact ⟨by rw [hfl], by rw [hL]; rfl, rfl⟩
      case rest =>
      obtain ⟨rfl, rfl, h2⟩ := hcut
      have h3 : wr = wc := h2.symm
      subst h3
      have hL := lenF_le fb n h k hlt Hf.out
      have HC : Hid (capF fb n f h k = lenF fb n f h k + k % 3) := by show _ = _; rw [capF, if_pos hlt]
      generalize hLe : lenF fb n f h k = L at *
      have HLe : Hid (lenF fb n f h k = L) := hLe
      clear hLe
      have hcast : ((L + k % 3 : Nat) : Int) = (L : Int) + (k : Int) % 3 := by omega
      have hmT := mkT L (L + k % 3) (by omega) (by omega)
      have hmW := mkW L (L + k % 3) (by omega) (by omega)
      rw [hcast] at hmT hmW
      clear hcast
      go_upto_region 17 with fail
      go_cut [28, 29, 30] (fun a b c wq => a = .slice (some ⟨N + 2 + 2 * k, 0, none⟩) L (L + k % 3) ∧ b = .slice (some ⟨N + 3 + 2 * k, 0, none⟩) L (L + k % 3) ∧ c = .int .i64 0 ∧ Bld wq N (n + m) (k + 1) k k (lenF fb n f h) (capF fb n f h) ∧ wq.heap.size = N + 2 + 2 * (k + 1) ∧ Below N w wq)
      case first =>
        go_wp2
        go_meet
        case rel =>
          have hb3 := Hb.out.more Hs.out
          rw [HC.out] at hb3
          refine ⟨by rw [Hs.out], by rw [Hs.out, show N + 2 + 2 * k + 1 = N + 3 + 2 * k by omega], rfl, hb3, by simp [Hs.out]; omega, (Hbe.out.alloc (by have := Hs.out; omega) _).alloc (by have := Hs.out; simp; omega) _⟩
      case rest =>
      obtain ⟨rfl, rfl, rfl, hb4, hs4, hbe4⟩ := hcut
      clear hmT hmW c0 Hb Hs Hbe
      have HC' : capF fb n f h k = L + k % 3 := HC.out
      go_upto_block 2 with fail
      go_cut [30] (fun _ wq => Bld wq N (n + m) (k + 1) k k (lenF fb n f h) (capF fb n f h) ∧ wq.heap.size = N + 2 + 2 * (k + 1) ∧ Below N w wq)
      case rest =>
        clear hb4 hs4 hbe4
        obtain ⟨hb5, hs5, hbe5⟩ := hcut
        obtain ⟨v1, d1, _⟩ := hb5.tf.cell (j := k) (by omega)
        obtain ⟨v2, d2, _⟩ := hb5.wf.cell (j := k) (by omega)
        have z1 := hb5.tf.frozen k
        have z2 := hb5.wf.frozen k
        have hkm : (k : Int) < ((n + m : Nat) : Int) := by omega
        have H5 : Hid (Bld _ N (n + m) (k + 1) k k (lenF fb n f h) (capF fb n f h) ∧ _ ∧ Below N w _) := ⟨hb5, hs5, hbe5⟩
        clear hb5 hs5 hbe5 HC'
        go_wp2
        go_roundg (n - (k + 1))
        case measure => omega
        case rel =>
          obtain ⟨hb6, hs6, hbe6⟩ := H5.out
          have e1 := (hb6.setT (by omega)).setW (by omega)
          rw [HC.out, HLe.out] at e1
          exact ⟨k + 1, by omega, by go_num, rfl, e1, by simpa [World.setCell] using hs6, (hbe6.setCell (p := ⟨N, k, none⟩) (Nat.le_refl N) _).setCell (p := ⟨N + 1, k, none⟩) (by show N ≤ N + 1; omega) _⟩
      case first =>
      go_wp2_with fail
      go_loopg [30] L (fun g j wi => ∃ q : Nat, q + g = L ∧ j = .int .i64 q ∧ Bld wi N (n + m) (k + 1) k k (lenF fb n f h) (capF fb n f h) ∧ wi.heap.size = N + 2 + 2 * (k + 1) ∧ Below N w wi)
      case atStart => exact ⟨0, by omega, rfl, hb4, hs4, hbe4⟩
      case round =>
        clear hb4 hs4 hbe4
        obtain ⟨q, hq, rfl, hb5, hs5, hbe5⟩ := hrel
        by_cases hqL : q < L
        · have t1 := hb5.rt k (by omega)
          have t2 := hb5.rw k (by omega)
          rw [HC'] at t1 t2
          obtain ⟨v1, d1, _⟩ := t1.cell (j := q) (by omega)
          obtain ⟨v2, d2, _⟩ := t2.cell (j := q * 2) (by omega)
          obtain ⟨v3, d3, _⟩ := t2.cell (j := q * 2 + 1) (by omega)
          have z1 := t1.frozen q
          have z2 := t2.frozen (q * 2)
          have z3 := t2.frozen (q * 2 + 1)
          have H5 : Hid (Bld _ N (n + m) (k + 1) k k (lenF fb n f h) (capF fb n f h) ∧ _ ∧ Below N w _) := ⟨hb5, hs5, hbe5⟩
          have hqlt : (q : Int) < (L : Int) := by omega
          have hq0 : (0 : Int) ≤ (q : Int) := by omega
          clear hb5 hs5 hbe5 t1 t2 HC'
          go_wp2
          go_roundg (L - (q + 1))
          case measure => omega
          case rel =>
            obtain ⟨hb6, hs6, hbe6⟩ := H5.out
            exact ⟨q + 1, by omega, by go_num, ((hb6.setF k q _).setI k (q * 2) _).setI k (q * 2 + 1) _, by simpa [World.setCell] using hs6, ((hbe6.setCell (p := ⟨N + 2 + 2 * k, q, none⟩) (by show N ≤ N + 2 + 2 * k; omega) _).setCell (p := ⟨N + 3 + 2 * k, q * 2, none⟩) (by show N ≤ N + 3 + 2 * k; omega) _).setCell (p := ⟨N + 3 + 2 * k, q * 2 + 1, none⟩) (by show N ≤ N + 3 + 2 * k; omega) _⟩
        · have hqe : q = L := by omega
          subst hqe
          go_wp2
          go_meet
          case rel => exact ⟨hb5, hs5, hbe5⟩
    · have hke : k = n := by omega
      subst hke
      go_wp2
      go_meet
      case rel => exact ⟨rfl, hb, hs, hbe⟩
end Go.Proofs.YbulkfslyFmt
