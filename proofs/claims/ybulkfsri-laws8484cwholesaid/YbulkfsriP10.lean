import Derived.Test.YbulkfsriP14
namespace Go.Proofs.Ybulkfsri
open Go.RowKit
set_option linter.unusedVariables false

theorem info3 : (Yba.prog.info? 3).map (fun i => (i.zero, i.size, i.bytes)) = some (some (.int .i64 0), 1, 8) := by kernel_rfl
theorem size3 : (Yba.prog.info? 3).map (·.size) = some 1 := by kernel_rfl

theorem run_mk30 (n : Nat) (hn : n ≤ 1048576) (w : World) : (Instr.makeSlice 30 (.int .i64 (n : Int)) (.int .i64 (n : Int))).run Yba.prog w =
    .ok (.slice (some ⟨w.heap.size, 0, none⟩) n n) (w.alloc (.cells (madeCells #[.int .i64 0] n) 3)) := by
  obtain ⟨i, hi, hzz⟩ := Option.map_eq_some_iff.1 info3
  simp only [Prod.mk.injEq] at hzz
  obtain ⟨hz, hs, hb⟩ := hzz
  have hr := run_make (P := Yba.prog) w 30 3 i _ Yba.underlying30 hi hz .i64 .i64 n n (by omega) (Int.le_refl _) (by rw [hb]; omega) (by omega)
  rw [hs] at hr
  simpa [Value.cells] using hr

theorem copy_ok (w : World) (x : Addr) (hb hoff hl hcap : Nat) (fH : Nat → Int) (hx : 0 < hl → x = ⟨hb, hoff, none⟩ ∧ hb < w.heap.size) (hc : H1 w hb hoff hl fH) :
    ∃ w2, (Builtin.copy_ #[30, 24] 3 #[.slice (some ⟨w.heap.size, 0, none⟩) hl hl, .slice (some x) hl hcap]).run Yba.prog (w.alloc (.cells (madeCells #[.int .i64 0] hl) 3)) = .ok (.int .i64 hl) w2 ∧
      H1 w2 w.heap.size 0 hl fH ∧ Below w.heap.size w w2 ∧ w2.heap.size = w.heap.size + 1 := by
  have hb1 : Below w.heap.size w (w.alloc (.cells (madeCells #[.int .i64 0] hl) 3)) := (Below.refl _ _).alloc (Nat.le_refl _) _
  have hg := heap_alloc_new w (.cells (madeCells #[.int .i64 0] hl) 3)
  have hlen : ((List.range hl).map fun j => Value.int .i64 (fH j)).length = hl := by simp
  have hr := run_copy_row Yba.prog _ 30 24 3 3 w.heap.size 0 hl hl x hl hcap _ 3 ((List.range hl).map fun j => Value.int .i64 (fH j)) Yba.underlying30 size3 hg (by rw [hlen]; exact (Nat.min_self hl).symm) (fun j v hv => by
      have hj : j < hl := by have := (List.getElem?_eq_some_iff.1 hv).1; simpa using this
      simp [hj] at hv
      subst hv
      obtain ⟨rfl, hlt⟩ := hx (by omega)
      have hadd : (⟨hb, hoff, none⟩ : Addr).add j = ⟨hb, hoff + j, none⟩ := by unfold Addr.add; split <;> simp_all
      rw [hadd, hb1.cell (by exact hlt)]
      exact hc j hj) (by rw [hlen, size_madeCells]; omega) (fun v hv => by simp only [List.mem_map] at hv; obtain ⟨t, _, rfl⟩ := hv; rfl)
  rw [hlen] at hr
  refine ⟨_, hr, fun j hj => ?_, hb1.trans ⟨rfl, rfl, rfl, by simp [World.setRow], fun k hk => ?_⟩, by simp [World.setRow]⟩
  · rw [cell_block (setRow_heap _ _ _ _ _ _ hg)]
    simp only [List.take_zero, List.nil_append, Nat.zero_add, List.getElem?_toArray]
    rw [List.getElem?_append_left (by rw [hlen]; exact hj)]
    simp [hj]
  · simp only [World.setRow, Array.getElem?_modify]
    rw [if_neg (by omega)]

set_option maxRecDepth 1000000 in
set_option maxHeartbeats 4000000 in
theorem part10 (W w : World) (a ah wa : Option Addr) (b off SB len cap hb hoff hl hcap : Nat) (fF fI fS fR fH : Nat → Int) (ro at_ sent lease : Int) (hlen : len ≤ 1048576) (hhl : hl ≤ 1048576) (ha0 : 0 < len → a = some ⟨b, off, none⟩) (hah : 0 < hl → ah = some ⟨hb, hoff, none⟩) (hwa : 0 < len → wa = some ⟨SB, 0, none⟩) (hnb : 0 < len → b < W.heap.size) (hnh : 0 < hl → hb < W.heap.size) (hsW : W.heap.size ≤ SB) (hsb : 0 < len → SB < w.heap.size) (hsne : SB ≠ w.heap.size) (hnil : ah = none → hl = 0) (hsrc : C4 w b off len fF fI fS fR) (hrow : 0 < len → RowL w SB len len fF fI fS fR) (hhs : H1 w hb hoff hl fH) (hbel : Below W.heap.size W w)
    {u6 u7 u8 u9 u10 u11 u12 u14 u15 u16 u17 u18 u19 u20 u21 u22 u23 u24 u25 u26 u27 u28 u29 u30 u31 u32 u33 u34 u35 u36 u37 u38 u39 u40 u41 u42 u43 u44 u45 u46 u47 u48 u49 u50 u51 u52 u53 u54 u55 u56 u57 u58 u59 u60 u61 u62 u63 u64 u65 u66 u67 u68 u69 u70 u71 u72 u73 u74 u75 u76 u77 u78 u79 u80 u81 u82 u83 u84 u85 u86 u87 u88 u89 u90 u91 u92 u93 u94 u95 u96 u97 u98 u99 u100 u101 u102 u103 u104 u105 u106 u107 u108 u109 u110 u111 u112 u113 u114 u115 u116 u117 u118 u119 u120 u121 u122 u123 u124 u125 u126 u127 u128 u129 u130 u131 u132 u133 u134 u135 u136 u137 u138 u139 u140 u141 u142 u143 u144 u145 u146 u147 u148 u149 u150 u151 u152 u153 u154 u155 u156 u157 u158 u159 u160 u161 u162 u163 u164 u165 u166 u167 u168 u169 u170 u171 u172 u173 u174 u175 u176 u177 u178 u179 u180 u181 u182 u183 u184 u185 u186 u187 u188 u189 u190 u191 u192 u193 u194 u195 u196 u197 u198 u199 u200 u201 u202 u203 u204 u205 u206 u207 : Value} :
    Code.wp Yba.prog ((Yba.f3.body.map (tailAt 10)).getD .skip) (bodyPost Yba.prog Yba.f3 fun e w' => e = .returned (.bool true) ∧ Below W.heap.size W w') ⟨#[.slice a len cap, .int .u64 ro, .slice ah hl hcap, .int .i64 at_, .int .i64 sent, .int .i64 lease, u6, u7, u8, u9, u10, u11, u12, .slice wa len len, u14, u15, u16, u17, u18, u19, u20, u21, u22, u23, u24, u25, u26, u27, u28, u29, u30, u31, u32, u33, u34, u35, u36, u37, u38, u39, u40, u41, u42, u43, u44, u45, u46, u47, u48, u49, u50, u51, u52, u53, u54, u55, u56, u57, u58, u59, u60, u61, u62, u63, u64, u65, u66, u67, u68, u69, u70, u71, u72, u73, u74, u75, u76, u77, u78, u79, u80, u81, u82, u83, u84, u85, u86, u87, u88, u89, u90, u91, u92, u93, u94, u95, u96, u97, u98, u99, u100, u101, u102, u103, u104, u105, u106, u107, u108, u109, u110, u111, u112, u113, u114, u115, u116, u117, u118, u119, u120, u121, u122, u123, u124, u125, u126, u127, u128, u129, u130, u131, u132, u133, u134, u135, u136, u137, u138, u139, u140, u141, u142, u143, u144, u145, u146, u147, u148, u149, u150, u151, u152, u153, u154, u155, u156, u157, u158, u159, u160, u161, u162, u163, u164, u165, u166, u167, u168, u169, u170, u171, u172, u173, u174, u175, u176, u177, u178, u179, u180, u181, u182, u183, u184, u185, u186, u187, u188, u189, u190, u191, u192, u193, u194, u195, u196, u197, u198, u199, u200, u201, u202, u203, u204, u205, u206, u207], []⟩ w := by
  conv => arg 2; whnf
  dsimp only
  have hWw := hbel.size
  refine wp_gen fun rc hrc => ?_
  go_wp2_with fail
  refine hrc _ _ ?_
  clear hrc rc
  refine wp_gen fun rc hrc => ?_
  cases ah with
  | none =>
    obtain rfl := hnil rfl
    go_wp2_with fail
    first
      | refine hrc _ _ ?_
      | (refine (‹∀ (a : Act) (w : World), Code.wp _ _ _ a w → _› _ _ ?_); refine hrc _ _ ?_)
    exact part14 W w a none wa none b off SB len cap hb hoff 0 0 hcap fF fI fS fR fH ro at_ sent lease hlen hhl ha0 hah hwa (fun h => by omega) hnb hnh hsW hsb (fun h => by omega) (fun h => by omega) hsrc hrow hhs (fun j hj => by omega) hbel
  | some x =>
    have hxx : 0 < hl → x = ⟨hb, hoff, none⟩ ∧ hb < w.heap.size := fun h => ⟨by have := hah h; simpa using this, by have := hnh h; omega⟩
    obtain ⟨w2, hrun, hh2, hb2, hs2⟩ := copy_ok w x hb hoff hl hcap fH hxx hhs
    have hmk := run_mk30 hl hhl
    have H2 : Hid (H1 w2 w.heap.size 0 hl fH ∧ Below w.heap.size w w2 ∧ w2.heap.size = w.heap.size + 1) := ⟨hh2, hb2, hs2⟩
    clear hh2 hb2 hs2
    go_wp2_with fail
    first
      | refine hrc _ _ ?_
      | (refine (‹∀ (a : Act) (w : World), Code.wp _ _ _ a w → _› _ _ ?_); refine hrc _ _ ?_)
    obtain ⟨hh2, hb2, hs2⟩ := H2.out
    refine part14 W w2 a (some x) wa (some ⟨w.heap.size, 0, none⟩) b off SB len cap hb hoff w.heap.size hl hcap fF fI fS fR fH ro at_ sent lease hlen hhl ha0 hah hwa (fun h => rfl) hnb hnh hsW (fun h => by have := hsb h; omega) (fun h => by omega) (fun h => Ne.symm hsne) ?_ ?_ ?_ hh2 (hbel.trans (hb2.mono hWw))
    · intro j hj
      exact hsrc.below hb2 (by have := hnb (by omega); omega) j hj
    · intro hp
      have e := hsb hp
      obtain ⟨⟨arr, h1, h2⟩, h3⟩ := hrow hp
      exact ⟨⟨arr, (hb2.block _ e).trans h1, h2⟩, h3.below hb2 e⟩
    · intro j hj
      exact (hb2.cell (by exact (hxx (by omega)).2)).trans (hhs j hj)
end Go.Proofs.Ybulkfsri
