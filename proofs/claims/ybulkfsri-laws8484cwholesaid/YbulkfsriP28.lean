import Derived.Test.YbulkfsriSt
namespace Go.Proofs.Ybulkfsri
open Go.RowKit
set_option linter.unusedVariables false
set_option maxRecDepth 1000000 in
set_option maxHeartbeats 4000000 in
theorem part28 (W w : World) (a ah wa ha : Option Addr) (b off SB len cap hb hoff HB hl hcap Gg : Nat) (fF fI fS fR fH : Nat → Int) (ro at_ sent lease : Int) (hlen : len ≤ 1048576) (hhl : hl ≤ 1048576) (ha0 : 0 < len → a = some ⟨b, off, none⟩) (hah : 0 < hl → ah = some ⟨hb, hoff, none⟩) (hwa : 0 < len → wa = some ⟨SB, 0, none⟩) (hha : 0 < hl → ha = some ⟨HB, 0, none⟩) (hst : St w b off SB len hb hoff HB hl Gg wa ha fF fI fS fR fH at_ sent lease) (hbel : Below W.heap.size W w) 
    {u6 u7 u8 u9 u10 u11 u12 u14 u16 u18 u19 u20 u21 u22 u23 u24 u25 u26 u27 u28 u29 u30 u31 u32 u33 u34 u35 u36 u37 u38 u39 u40 u41 u42 u43 u44 u45 u46 u47 u48 u49 u50 u51 u52 u53 u54 u55 u56 u57 u58 u59 u60 u61 u62 u63 u64 u65 u66 u67 u68 u69 u70 u71 u72 u73 u74 u75 u76 u77 u78 u79 u80 u81 u82 u83 u84 u85 u86 u87 u88 u89 u90 u91 u92 u93 u94 u95 u96 u97 u98 u99 u100 u101 u102 u103 u104 u105 u106 u107 u108 u109 u110 u111 u112 u113 u114 u115 u116 u117 u118 u119 u120 u121 u122 u123 u124 u125 u126 u127 u128 u129 u130 u131 u132 u133 u134 u135 u136 u137 u138 u139 u140 u141 u142 u143 u144 u145 u146 u147 u148 u149 u150 u151 u152 u153 u154 u155 u156 u157 u158 u159 u160 u161 u162 u163 u164 u165 u166 u167 u168 u169 u170 u171 u172 u173 u174 u175 u176 u177 u178 u179 u180 u181 u182 u183 u184 u185 u186 u187 u188 u189 u190 u191 u192 u193 u194 u195 u196 u197 u198 u199 u200 u201 u202 u203 u204 u205 u206 u207 : Value} :
    Code.wp Yba.prog ((Yba.f3.body.map (tailAt 28)).getD .skip) (bodyPost Yba.prog Yba.f3 fun e w' => e = .returned (.bool true) ∧ Below W.heap.size W w') ⟨#[.slice a len cap, .int .u64 ro, .slice ah hl hcap, .int .i64 at_, .int .i64 sent, .int .i64 lease, u6, u7, u8, u9, u10, u11, u12, .slice wa len len, u14, .slice ha hl hl, u16, .pointer (some ⟨Gg, 0, none⟩), u18, u19, u20, u21, u22, u23, u24, u25, u26, u27, u28, u29, u30, u31, u32, u33, u34, u35, u36, u37, u38, u39, u40, u41, u42, u43, u44, u45, u46, u47, u48, u49, u50, u51, u52, u53, u54, u55, u56, u57, u58, u59, u60, u61, u62, u63, u64, u65, u66, u67, u68, u69, u70, u71, u72, u73, u74, u75, u76, u77, u78, u79, u80, u81, u82, u83, u84, u85, u86, u87, u88, u89, u90, u91, u92, u93, u94, u95, u96, u97, u98, u99, u100, u101, u102, u103, u104, u105, u106, u107, u108, u109, u110, u111, u112, u113, u114, u115, u116, u117, u118, u119, u120, u121, u122, u123, u124, u125, u126, u127, u128, u129, u130, u131, u132, u133, u134, u135, u136, u137, u138, u139, u140, u141, u142, u143, u144, u145, u146, u147, u148, u149, u150, u151, u152, u153, u154, u155, u156, u157, u158, u159, u160, u161, u162, u163, u164, u165, u166, u167, u168, u169, u170, u171, u172, u173, u174, u175, u176, u177, u178, u179, u180, u181, u182, u183, u184, u185, u186, u187, u188, u189, u190, u191, u192, u193, u194, u195, u196, u197, u198, u199, u200, u201, u202, u203, u204, u205, u206, u207], []⟩ w := by
  conv => arg 2; whnf
  dsimp only
  have hl0 : (0 : Int) ≤ (hl : Int) := by omega
  go_wp2
  go_loopg [19] hl (fun g i wr => ∃ k : Nat, k + g = hl ∧ i = .int .i64 k ∧ St wr b off SB len hb hoff HB hl Gg wa ha fF fI fS fR fH at_ sent lease ∧ Below W.heap.size W wr)
  case atStart => exact ⟨0, by omega, rfl, hst, hbel⟩
  case round =>
    obtain ⟨k, hk, rfl, hst2, hbel2⟩ := hrel
    clear hst hbel
    by_cases hlt : k < hl
    · have H2 : Hid (St wr b off SB len hb hoff HB hl Gg wa ha fF fI fS fR fH at_ sent lease ∧ Below W.heap.size W wr) := ⟨hst2, hbel2⟩
      obtain rfl := hah (by omega)
      obtain rfl := hha (by omega)
      have d0 := hst2.hsrc k hlt
      have d1 := hst2.hrow k hlt
      simp only [Nat.zero_add] at d1
      have hklt : (k : Int) < (hl : Int) := by omega
      have hk0 : (0 : Int) ≤ (k : Int) := by omega
      have hne : (fH k != fH k) = false := by simp
      clear hst2 hbel2
      go_wp2
      go_quiet (fail)
      go_wp2
      go_roundg (gk - 1)
      case measure => omega
      case rel => exact ⟨k + 1, by omega, by go_num, H2.out.1.draw _, below_drewN H2.out.2 _⟩
    · have : k = hl := by omega
      subst this
      have e3 := hst2.g3
      have e4 := hst2.g4
      have e5 := hst2.g5
      clear hst2
      go_wp2
      go_ret
      exact ⟨rfl, hbel2⟩
end Go.Proofs.Ybulkfsri
