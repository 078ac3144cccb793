import Derived.Test.YbulkfslyFmtC
import Derived.Deep.LoopGhost
import Derived.Deep.DeepCutAuto
import Derived.Deep.Light
import Derived.Deep.CutBlock
import Derived.BigQuiet
namespace Go.Proofs.YbulkfslyFmt
open Go.RowKit
set_option linter.unusedVariables false
set_option linter.unusedSimpArgs false
attribute [local go_sem] run_store_float

/-- The lengths and the capacities of the rows that the law lays. -/
def lenF (fb : Bool) (n : Nat) (f h : Nat → Nat) (i : Nat) : Nat := if i < n then (if fb = true ∧ i + 1 = n then 65536 else f i) else h (i - n) / 2
def capF (fb : Bool) (n : Nat) (f h : Nat → Nat) (i : Nat) : Nat := if i < n then lenF fb n f h i + i % 3 else h (i - n)

theorem wrap_small {x : Nat} (hx : x ≤ 255) : wrap64 (x : Int) = (x : Int) := by unfold wrap64; omega
def flg (fb : Bool) (n k : Nat) : Bool := fb && decide (0 < n ∧ k = n)
theorem lenF_false {fb : Bool} {n k : Nat} {f : Nat → Nat} (h : Nat → Nat) (hk : k < n) (e : (fb && decide (k + 1 = n)) = false) : lenF fb n f h k = f k := by
  rw [lenF, if_pos hk, if_neg]
  rintro ⟨rfl, e2⟩
  simp [e2] at e
theorem lenF_true {fb : Bool} {n k : Nat} {f : Nat → Nat} (h : Nat → Nat) (hk : k < n) (e : (fb && decide (k + 1 = n)) = true) : lenF fb n f h k = 65536 := by
  rw [lenF, if_pos hk, if_pos]
  simpa using e
theorem lenF_le (fb : Bool) (n : Nat) {f : Nat → Nat} (h : Nat → Nat) (k : Nat) (hk : k < n) (hf : ∀ j, f j ≤ 255) : lenF fb n f h k ≤ 65536 := by
  rw [lenF, if_pos hk]
  split
  · omega
  · have := hf k; omega
theorem flag_false {fb : Bool} {n k : Nat} (hk : k < n) (e : (fb && decide (k + 1 = n)) = false) : flg fb n (k + 1) = false := by
  unfold flg
  cases fb
  · rfl
  · simp at e ⊢; intro _; exact e
theorem flag_true {fb : Bool} {n k : Nat} (hk : k < n) (e : (fb && decide (k + 1 = n)) = true) : flg fb n (k + 1) = true := by
  unfold flg
  simp at e ⊢; exact ⟨e.1, by omega, e.2⟩
theorem flag_zero {fb : Bool} {n : Nat} : flg fb n 0 = false := by
  unfold flg
  cases fb
  · rfl
  · simp; omega
theorem flag_early {fb : Bool} {n k : Nat} (hk : k < n) : flg fb n k = false := by
  unfold flg
  cases fb
  · rfl
  · simp; omega

theorem lenF_cap (fb : Bool) (n m : Nat) {f h : Nat → Nat} (hf : ∀ j, f j ≤ 255) (hh : ∀ j, h j ≤ 255) : ∀ i, i < n + m → lenF fb n f h i ≤ capF fb n f h i ∧ capF fb n f h i ≤ 200000 := by
  intro i hi
  unfold capF
  by_cases hin : i < n
  · have := lenF_le fb n h i hin hf
    rw [if_pos hin]
    omega
  · have := hh (i - n)
    rw [if_neg hin, lenF, if_neg hin]
    omega
theorem flg_false {fb : Bool} {n : Nat} {f : Nat → Nat} (h : Nat → Nat) (hf : ∀ j, f j ≤ 255) (e : flg fb n n = false) : ∀ M, n = M + 1 → lenF fb n f h M < 65536 := by
  intro M hM
  rw [lenF_false h (by omega) (by
    unfold flg at e
    cases fb
    · rfl
    · simp at e ⊢; omega)]
  have := hf M
  omega
theorem flg_true {fb : Bool} {n : Nat} {f : Nat → Nat} (h : Nat → Nat) (e : flg fb n n = true) : ∀ l, n = l + 1 → lenF fb n f h l = 65536 := by
  intro l hl
  refine lenF_true h (by omega) ?_
  unfold flg at e
  simp at e ⊢
  exact ⟨e.1, by omega⟩

set_option maxRecDepth 1000000 in
set_option maxHeartbeats 4000000 in
theorem partL3 (w w1 : World) (ha : Option Addr) (hbk ho N n m hc : Nat) (fb : Bool) (f h : Nat → Nat) (t : Nat) (e v cnt room lim : Int) (sd : Bool) (sa : Addr) (st : ByteArray) (hn : n ≤ 65536) (hm : m ≤ 65536) (hg0 : w.cell? ⟨0, 0, none⟩ = some (.iface 66 (.pointer (some sa)))) (hgs : w.cell? sa = some (.string st)) (hsa : sa.block < N) (h00 : 0 < N) (hf : ∀ j, f j ≤ 255)
    (hha : 0 < m → ha = some ⟨hbk, ho, none⟩ ∧ hbk < N) (hhc : ∀ j, j < m → w.cell? ⟨hbk, ho + j, none⟩ = some (.int .u8 (h j : Int))) (hh : ∀ j, h j ≤ 255)
    (hbld : Bld w1 N (n + m) n n n (lenF fb n f h) (capF fb n f h)) (hsz : w1.heap.size = N + 2 + 2 * n) (hbel : Below N w w1)
    {u7 u8 u10 u11 u12 u13 u14 u15 u16 u17 u18 u19 u20 u26 u27 u28 u29 u30 u31 u32 u33 u34 u35 u36 u37 u38 u39 u40 u41 u42 u43 u44 u45 u46 u47 u48 u49 u50 u51 u52 u53 u54 u55 u56 u57 u58 u59 u60 u61 u62 u63 u64 u65 u66 u67 u68 u69 u70 u71 u72 u73 u74 u75 u76 u77 u78 u79 u80 u81 u82 u83 u84 u85 u86 u87 u88 u89 u90 u91 u92 u93 u94 u95 u96 u97 u98 u99 u100 u101 u102 u103 u104 u105 u106 u107 u108 u109 u110 u111 u112 u113 u114 u115 u116 u117 u118 u119 u120 u121 u122 u123 u124 u125 u126 u127 u128 u129 u130 u131 u132 u133 u134 u135 u136 u137 u138 u139 u140 u141 u142 u143 u144 u145 u146 u147 u148 u149 u150 u151 u152 u153 u154 u155 u156 u157 u158 u159 u160 u161 u162 u163 u164 u165 u166 u167 u168 u169 u170 u171 u172 u173 u174 u175 u176 u177 u178 u179 u180 u181 u182 u183 u184 u185 u186 u187 u188 u189 u190 u191 u192 u193 u194 u195 u196 u197 u198 u199 u200 u201 u202 u203 u204 u205 u206 u207 u208 u209 u210 u211 u212 u213 u214 u215 u216 u217 u218 u219 u220 u221 u222 u223 u224 u225 u226 u227 u228 u229 u230 u231 u232 u233 u234 u235 u236 u237 u238 u239 u240 u241 u242 u243 u244 u245 u246 u247 u248 u249 u250 u251 u252 u253 u254 u255 u256 u257 u258 u259 u260 u261 u262 u263 u264 u265 u266 u267 u268 u269 u270 u271 u272 u273 u274 u275 u276 u277 u278 u279 u280 u281 u282 u283 u284 u285 u286 u287 u288 u289 u290 u291 u292 u293 u294 u295 u296 u297 u298 u299 u300 u301 u302 u303 u304 u305 u306 u307 u308 u309 u310 u311 u312 u313 u314 u315 u316 u317 u318 u319 u320 u321 u322 u323 u324 u325 u326 u327 u328 u329 u330 u331 u332 u333 u334 u335 u336 u337 u338 u339 u340 u341 u342 u343 u344 u345 u346 u347 u348 u349 u350 u351 u352 u353 u354 u355 u356 u357 u358 u359 u360 u361 u362 u363 u364 u365 u366 u367 u368 u369 u370 u371 u372 u373 u374 u375 u376 u377 u378 u379 u380 u381 u382 u383 u384 u385 u386 u387 u388 u389 u390 u391 u392 u393 u394 u395 u396 u397 u398 u399 u400 u401 u402 u403 u404 u405 u406 u407 u408 u409 u410 u411 u412 u413 u414 u415 u416 u417 u418 u419 u420 u421 u422 u423 u424 u425 u426 u427 u428 u429 u430 u431 u432 u433 u434 u435 u436 u437 u438 u439 u440 u441 u442 u443 u444 u445 u446 u447 u448 u449 u450 u451 u452 u453 u454 u455 u456 u457 u458 u459 u460 : Value} :
    Code.wp Ybaf.prog ((Ybaf.f3.body.map (tailAt 24)).getD .skip) (bodyPost Ybaf.prog Ybaf.f3 fun e w' => e = .returned (.bool true) ∧ Below N w w') ⟨#[.float .f64 t, .int .i64 e, .int .i64 v, .int .i64 cnt, .int .i64 room, .int .i64 lim, .bool sd, u7, u8, .slice ha m hc, u10, u11, u12, u13, u14, u15, u16, u17, u18, u19, u20, .int .i64 (n : Int), .int .i64 (m : Int), .slice (some ⟨N, 0, none⟩) (n + m) (n + m), .slice (some ⟨N + 1, 0, none⟩) (n + m) (n + m), .bool (flg fb n n), u26, u27, u28, u29, u30, u31, u32, u33, u34, u35, u36, u37, u38, u39, u40, u41, u42, u43, u44, u45, u46, u47, u48, u49, u50, u51, u52, u53, u54, u55, u56, u57, u58, u59, u60, u61, u62, u63, u64, u65, u66, u67, u68, u69, u70, u71, u72, u73, u74, u75, u76, u77, u78, u79, u80, u81, u82, u83, u84, u85, u86, u87, u88, u89, u90, u91, u92, u93, u94, u95, u96, u97, u98, u99, u100, u101, u102, u103, u104, u105, u106, u107, u108, u109, u110, u111, u112, u113, u114, u115, u116, u117, u118, u119, u120, u121, u122, u123, u124, u125, u126, u127, u128, u129, u130, u131, u132, u133, u134, u135, u136, u137, u138, u139, u140, u141, u142, u143, u144, u145, u146, u147, u148, u149, u150, u151, u152, u153, u154, u155, u156, u157, u158, u159, u160, u161, u162, u163, u164, u165, u166, u167, u168, u169, u170, u171, u172, u173, u174, u175, u176, u177, u178, u179, u180, u181, u182, u183, u184, u185, u186, u187, u188, u189, u190, u191, u192, u193, u194, u195, u196, u197, u198, u199, u200, u201, u202, u203, u204, u205, u206, u207, u208, u209, u210, u211, u212, u213, u214, u215, u216, u217, u218, u219, u220, u221, u222, u223, u224, u225, u226, u227, u228, u229, u230, u231, u232, u233, u234, u235, u236, u237, u238, u239, u240, u241, u242, u243, u244, u245, u246, u247, u248, u249, u250, u251, u252, u253, u254, u255, u256, u257, u258, u259, u260, u261, u262, u263, u264, u265, u266, u267, u268, u269, u270, u271, u272, u273, u274, u275, u276, u277, u278, u279, u280, u281, u282, u283, u284, u285, u286, u287, u288, u289, u290, u291, u292, u293, u294, u295, u296, u297, u298, u299, u300, u301, u302, u303, u304, u305, u306, u307, u308, u309, u310, u311, u312, u313, u314, u315, u316, u317, u318, u319, u320, u321, u322, u323, u324, u325, u326, u327, u328, u329, u330, u331, u332, u333, u334, u335, u336, u337, u338, u339, u340, u341, u342, u343, u344, u345, u346, u347, u348, u349, u350, u351, u352, u353, u354, u355, u356, u357, u358, u359, u360, u361, u362, u363, u364, u365, u366, u367, u368, u369, u370, u371, u372, u373, u374, u375, u376, u377, u378, u379, u380, u381, u382, u383, u384, u385, u386, u387, u388, u389, u390, u391, u392, u393, u394, u395, u396, u397, u398, u399, u400, u401, u402, u403, u404, u405, u406, u407, u408, u409, u410, u411, u412, u413, u414, u415, u416, u417, u418, u419, u420, u421, u422, u423, u424, u425, u426, u427, u428, u429, u430, u431, u432, u433, u434, u435, u436, u437, u438, u439, u440, u441, u442, u443, u444, u445, u446, u447, u448, u449, u450, u451, u452, u453, u454, u455, u456, u457, u458, u459, u460], []⟩ w1 := by
  conv => arg 2; whnf
  dsimp only
  go_upto_block 4 with fail
  go_cut [31] (fun _ wq => Bld wq N (n + m) (n + m) (n + m) (n + m) (lenF fb n f h) (capF fb n f h) ∧ wq.heap.size = N + 2 + 2 * (n + m) ∧ Below N w wq)
  case rest =>
    obtain ⟨hb, hsz2, hbe⟩ := hcut
    refine (‹∀ (a : Act) (w : World), Code.wp _ _ _ a w → _› _ _ ?_)
    exact partCl w wc N n m (N + 2 + 2 * (n + m)) (lenF fb n f h) (capF fb n f h) t e v cnt room lim sd sa st (flg fb n n) hn hm hg0 hgs hsa h00 (flg_false h hf) (flg_true h) hb hsz2 rfl hbe (lenF_cap fb n m hf hh) (fun i hi => lenF_le fb n h i hi hf)
  case first =>
  go_wp2_with fail
  go_loopg [31] m (fun g i wr => ∃ k : Nat, k + g = m ∧ i = .int .i64 k ∧ Bld wr N (n + m) (n + k) (n + k) (n + k) (lenF fb n f h) (capF fb n f h) ∧ wr.heap.size = N + 2 + 2 * (n + k) ∧ Below N w wr)
  case atStart => exact ⟨0, by omega, rfl, hbld, hsz, hbel⟩
  case round =>
    obtain ⟨k, hk, rfl, hb, hs, hbe⟩ := hrel
    clear hbld hsz hbel
    by_cases hlt : k < m
    · obtain ⟨e, hvN⟩ := hha (by omega)
      cases e
      have c0 := (hbe.cell (p := ⟨hbk, ho + k, none⟩) hvN).trans (hhc k hlt)
      have hklt : (k : Int) < (m : Int) := by omega
      have hk0 : (0 : Int) ≤ (k : Int) := by omega
      have hnk : (n : Int) + (k : Int) < ((n + m : Nat) : Int) := by omega
      have hh1 := hh k
      have HL : Hid (lenF fb n f h (n + k) = h k / 2) := by show _ = _; rw [lenF, if_neg (by omega), Nat.add_sub_cancel_left]
      have HC : Hid (capF fb n f h (n + k) = h k) := by show _ = _; rw [capF, if_neg (by omega), Nat.add_sub_cancel_left]
      have e1 := ((hb.setT (by omega)).setW (by omega)).more (by simpa [World.setCell] using hs)
      have e2 := ((hbe.setCell (p := ⟨N, n + k, none⟩) (Nat.le_refl N) (.slice (some ⟨N + 2 + 2 * (n + k), 0, none⟩) (h k / 2) (h k))).setCell (p := ⟨N + 1, n + k, none⟩) (by show N ≤ N + 1; omega) (.slice (some ⟨N + 3 + 2 * (n + k), 0, none⟩) (h k / 2) (h k)))
      rw [HL.out, HC.out] at e1
      obtain ⟨v1, d1, _⟩ := hb.tf.cell (j := n + k) (by omega)
      obtain ⟨v2, d2, _⟩ := hb.wf.cell (j := n + k) (by omega)
      have z1 := hb.tf.frozen (n + k)
      have z2 := hb.wf.frozen (n + k)
      have E1 : Hid (Bld _ N (n + m) (n + k + 1) (n + k + 1) (n + k + 1) (lenF fb n f h) (capF fb n f h) ∧ Below N w _) := ⟨e1, e2⟩
      have lN : N < wr.heap.size := by omega
      have lN1 : N + 1 < wr.heap.size := by omega
      have Hs : Hid (wr.heap.size = N + 2 + 2 * (n + k)) := hs
      generalize h k = x at *
      have hcast : ((x / 2 : Nat) : Int) = (x : Int) / 2 := by omega
      have hmT := mkT (x / 2) x (by omega) (by omega)
      have hmW := mkW (x / 2) x (by omega) (by omega)
      rw [hcast] at hmT hmW
      clear hcast hb hs hbe hha hhc hh e1 e2
      go_wp2
      go_roundg (m - (k + 1))
      case measure => omega
      case rel =>
        rw [Hs.out, show N + 2 + 2 * (n + k) + 1 = N + 3 + 2 * (n + k) by omega]
        exact ⟨k + 1, by omega, by go_num, E1.out.1, by simp [World.setCell, Hs.out]; omega, (E1.out.2.alloc (by have := Hs.out; simp [World.setCell]; omega) _).alloc (by have := Hs.out; simp [World.setCell]; omega) _⟩
    · have hke : k = m := by omega
      subst hke
      go_wp2
      go_meet
      case rel => exact ⟨hb, hs, hbe⟩
end Go.Proofs.YbulkfslyFmt
