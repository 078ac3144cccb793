import Derived.Test.YbulkftysInw
namespace Go.Proofs.Ybulkftys
open Go.RowKit
set_option linter.unusedVariables false
set_option linter.unusedSimpArgs false

theorem Pt.turn {w w' : World} {own own' : Nat → Option Nat} {lnk lnk' : Nat → Nat} {i size P R L : Nat} {bit : Nat → Bool} {z : Bool} {es : Es} (h : Pt w own lnk i size P R L bit z es) (hz : 0 < size) (hs : w.heap.size ≤ w'.heap.size) (hb : ∀ k, k < w.heap.size → own k = some i → w'.heap[k]? = w.heap[k]?)
    (ho : ∀ b, b < w.heap.size → own' b = own b) (hl : ∀ b, b < w.heap.size → lnk' b = lnk b) : Pt w' own' lnk' i size P R L bit z es := by
  have hP : P < w.heap.size := World.block_lt_of_cell? w _ h.p3
  have hR : R < w.heap.size := World.block_lt_of_cell? w _ (h.rc 0 hz)
  obtain ⟨arr, hL, hLs⟩ := h.lrow
  have hLl := (Array.getElem?_eq_some_iff.1 hL).1
  have hm := h.mono hs hb
  refine ⟨(ho P hP).trans h.oP, (ho R hR).trans h.oR, (ho L hLl).trans h.oL, h.hPL, h.hRL, hm.p3, hm.p4, hm.rc, hm.lrow, fun j hj => ?_⟩
  obtain ⟨v, lo, hi, h1, h2, h30, h3, h4⟩ := h.links j hj
  refine ⟨v, lo, hi, (World.cell?_of_block (a := ⟨L, j, none⟩) (hb L hLl h.oL)).trans h1, h2.mono (fun k h5 h6 => hb k (by omega) (h4 k h5 h6).1), h30, by omega, fun b h5 h6 => ?_⟩
  obtain ⟨e1, e2, e3⟩ := h4 b h5 h6
  exact ⟨(ho b (by omega)).trans e1, (hl b (by omega)).trans e2, e3⟩

/-- The loop that lays the parts: k of them laid. 'w0': the world ahead of the loop. -/
structure Bld (w0 wr : World) (MB HB n k size : Nat) (mask : Nat → Int) (z : Nat → Bool) (es : Nat → Es) : Prop where
  os : wr.os = w0.os
  tape : wr.tape = w0.tape
  output : wr.output = w0.output
  hsize : w0.heap.size ≤ wr.heap.size
  block : ∀ b, b < w0.heap.size → b ≠ MB → b ≠ HB → wr.heap[b]? = w0.heap[b]?
  mrow : ∃ arr, wr.heap[MB]? = some (.cells arr 34) ∧ arr.size = n
  hrow : ∃ arr, wr.heap[HB]? = some (.cells arr 34) ∧ arr.size = n
  parts : ∃ (own : Nat → Option Nat) (lnk : Nat → Nat), (∀ b, wr.heap.size ≤ b → own b = none) ∧ (∀ b, b < w0.heap.size → own b = none) ∧ ∀ i, i < k → PtAt wr own lnk MB HB i size (bitOf (mask i)) (z i) (es i)

theorem row_set {w : World} {b i : Nat} {arr : Array Value} {t : TypeId} {v : Value} (h : w.heap[b]? = some (.cells arr t)) : (w.setCell ⟨b, i, none⟩ v).heap[b]? = some (.cells (arr.setIfInBounds i v) t) := by
  simp only [World.setCell, Array.getElem?_modify, if_true, h, Option.map_some, Option.isSome_none, Bool.false_eq_true, if_false]

theorem Bld.step {w0 wr w3 w4 : World} {MB HB n k size : Nat} {mask : Nat → Int} {z : Nat → Bool} {es : Nat → Es} {c0 : Value} (h : Bld w0 wr MB HB n k size mask z es) (hk : k < n) (hz : 0 < size) (hM : MB < w0.heap.size) (hH : HB < w0.heap.size) (hMH : MB ≠ HB)
    (h3 : Stab wr w3 (fun _ => True)) (hs3 : w3.heap.size = wr.heap.size + 3) (hi : Inn w3 w4 (wr.heap.size + 1) (wr.heap.size + 2) size size (bitOf (mask k)) (z k) (es k)) :
    Bld w0 (((w4.alloc (.cells #[c0, .slice none 0 0, .slice none 0 0, .slice (some ⟨wr.heap.size + 2, 0, none⟩) size size, .slice (some ⟨wr.heap.size + 1, 0, none⟩) size size, .int .i64 0] 38)).setCell ⟨MB, k, none⟩ (.pointer (some ⟨w4.heap.size, 0, none⟩))).setCell ⟨HB, k, none⟩ (.pointer (some ⟨w4.heap.size, 0, none⟩))) MB HB n (k + 1) size mask z es := by
  have hs := h.hsize
  have hs4 := hi.hsize
  generalize hw5 : w4.alloc (.cells #[c0, .slice none 0 0, .slice none 0 0, .slice (some ⟨wr.heap.size + 2, 0, none⟩) size size, .slice (some ⟨wr.heap.size + 1, 0, none⟩) size size, .int .i64 0] 38) = w5
  have s5 : w5.heap.size = w4.heap.size + 1 := by rw [← hw5]; simp
  have b5 : ∀ b, b < w4.heap.size → w5.heap[b]? = w4.heap[b]? := fun b hb => by rw [← hw5]; exact Below.heap_alloc _ _ _ hb
  have n5 : w5.heap[w4.heap.size]? = some (.cells #[c0, .slice none 0 0, .slice none 0 0, .slice (some ⟨wr.heap.size + 2, 0, none⟩) size size, .slice (some ⟨wr.heap.size + 1, 0, none⟩) size size, .int .i64 0] 38) := by rw [← hw5]; exact heap_alloc_new _ _
  have o5 : w5.os = w4.os ∧ w5.tape = w4.tape ∧ w5.output = w4.output := by rw [← hw5]; exact ⟨rfl, rfl, rfl⟩
  clear hw5
  generalize hw7 : (w5.setCell ⟨MB, k, none⟩ (.pointer (some ⟨w4.heap.size, 0, none⟩))).setCell ⟨HB, k, none⟩ (.pointer (some ⟨w4.heap.size, 0, none⟩)) = w7
  have s7 : w7.heap.size = w4.heap.size + 1 := by rw [← hw7]; simp [World.setCell, s5]
  have b7 : ∀ b, b ≠ MB → b ≠ HB → w7.heap[b]? = w5.heap[b]? := fun b h1 h2 => by rw [← hw7, Below.heap_setCell _ _ _ _ (by exact h2), Below.heap_setCell _ _ _ _ (by exact h1)]
  have o7 : w7.os = w5.os ∧ w7.tape = w5.tape ∧ w7.output = w5.output := by rw [← hw7]; exact ⟨rfl, rfl, rfl⟩
  -- from wr on, blocks below that are neither MB nor HB
  have bw4 : ∀ b, b < wr.heap.size → w4.heap[b]? = wr.heap[b]? := fun b h1 => (hi.block b (by omega) (by omega) (by omega)).trans (h3.block b h1 trivial)
  have bw : ∀ b, b < wr.heap.size → b ≠ MB → b ≠ HB → w7.heap[b]? = wr.heap[b]? := fun b h1 h2 h4 => by
    rw [b7 b h2 h4, b5 b (by omega), bw4 b h1]
  obtain ⟨am, m1, m2⟩ := h.mrow
  obtain ⟨ah, r1, r2⟩ := h.hrow
  have m5 : w5.heap[MB]? = some (.cells am 34) := by rw [b5 MB (by omega), bw4 MB (by omega), m1]
  have r5 : w5.heap[HB]? = some (.cells ah 34) := by rw [b5 HB (by omega), bw4 HB (by omega), r1]
  have m7 : w7.heap[MB]? = some (.cells (am.setIfInBounds k (.pointer (some ⟨w4.heap.size, 0, none⟩))) 34) := by
    rw [← hw7, Below.heap_setCell _ _ _ _ (by exact hMH)]; exact row_set m5
  have r7 : w7.heap[HB]? = some (.cells (ah.setIfInBounds k (.pointer (some ⟨w4.heap.size, 0, none⟩))) 34) := by
    rw [← hw7]
    refine row_set ?_
    rw [Below.heap_setCell _ _ _ _ (by exact Ne.symm hMH)]; exact r5
  clear hw7
  obtain ⟨own, lnk, q1, q2, q3⟩ := h.parts
  obtain ⟨ar, t1, t2, t3⟩ := hi.rrow
  obtain ⟨al, lnk4, l1, l2, l3⟩ := hi.lrow
  have P7 : w7.heap[w4.heap.size]? = some (.cells #[c0, .slice none 0 0, .slice none 0 0, .slice (some ⟨wr.heap.size + 2, 0, none⟩) size size, .slice (some ⟨wr.heap.size + 1, 0, none⟩) size size, .int .i64 0] 38) := by rw [b7 _ (by omega) (by omega), n5]
  have R7 : w7.heap[wr.heap.size + 1]? = some (.cells ar 4) := by rw [b7 _ (by omega) (by omega), b5 _ (by omega), t1]
  have L7 : w7.heap[wr.heap.size + 2]? = some (.cells al 25) := by rw [b7 _ (by omega) (by omega), b5 _ (by omega), l1]
  refine ⟨?_, ?_, ?_, by omega, fun b h1 h2 h4 => (bw b (by omega) h2 h4).trans (h.block b h1 h2 h4), ⟨_, m7, by simp [m2]⟩, ⟨_, r7, by simp [r2]⟩,
    fun b => if b < wr.heap.size then own b else if b < w7.heap.size then some k else none, fun b => if b < wr.heap.size then lnk b else lnk4 b, fun b hb => ?_, fun b hb => ?_, fun i hik => ?_⟩
  · rw [o7.1, o5.1, hi.os, h3.os, h.os]
  · rw [o7.2.1, o5.2.1, hi.tape, h3.tape, h.tape]
  · rw [o7.2.2, o5.2.2, hi.output, h3.output, h.output]
  · show (if b < wr.heap.size then own b else if b < w7.heap.size then some k else none) = none
    rw [if_neg (by omega), if_neg (by omega)]
  · show (if b < wr.heap.size then own b else if b < w7.heap.size then some k else none) = none
    rw [if_pos (by omega)]; exact q2 b hb
  · by_cases e : i = k
    · subst e
      have hnew : ∀ b, wr.heap.size ≤ b → b < w7.heap.size → (fun b => if b < wr.heap.size then own b else if b < w7.heap.size then some i else none) b = some i := fun b h1 h2 => by
        show (if b < wr.heap.size then own b else if b < w7.heap.size then some i else none) = some i
        rw [if_neg (by omega), if_pos h2]
      refine ⟨w4.heap.size, wr.heap.size + 1, wr.heap.size + 2, ?_, ?_, hnew _ (by omega) (by omega), hnew _ (by omega) (by omega), hnew _ (by omega) (by omega), by omega, by omega, ?_, ?_, fun j hj => ?_, ⟨al, L7, l2⟩, fun j hj => ?_⟩
      · rw [cell_block m7]; simp [m2, hk]
      · rw [cell_block r7]; simp [r2, hk]
      · rw [cell_block P7]; rfl
      · rw [cell_block P7]; rfl
      · rw [cell_block R7]; exact t3 j hj
      · obtain ⟨v, lo, hi', e1, e2, e3, e4, e5, e6⟩ := l3 j hj
        refine ⟨v, lo, hi', by rw [cell_block L7]; exact e1, e2.mono (fun b h1 h2 => by rw [b7 b (by omega) (by omega), b5 b (by omega)]), e4, by omega, fun b h1 h2 => ⟨hnew b (by omega) (by omega), ?_, by omega, by omega, by omega⟩⟩
        show (if b < wr.heap.size then lnk b else lnk4 b) = j
        rw [if_neg (by omega)]; exact e6 b h1 h2
    · obtain ⟨P, R, L, g1, g2, g3⟩ := q3 i (by omega)
      refine ⟨P, R, L, ?_, ?_, g3.turn hz (by omega) (fun b h1 h2 => bw b h1 ?_ ?_) (fun b hb => ?_) (fun b hb => ?_)⟩
      · rw [cell_block m7, Array.getElem?_setIfInBounds, if_neg (by omega), ← cell_block m1]; exact g1
      · rw [cell_block r7, Array.getElem?_setIfInBounds, if_neg (by omega), ← cell_block r1]; exact g2
      · intro e2; subst e2; rw [q2 _ hM] at h2; cases h2
      · intro e2; subst e2; rw [q2 _ hH] at h2; cases h2
      · show (if b < wr.heap.size then own b else if b < w7.heap.size then some k else none) = own b
        rw [if_pos hb]
      · show (if b < wr.heap.size then lnk b else lnk4 b) = lnk b
        rw [if_pos hb]

theorem info4 : (Yba.prog.info? 4).map (fun i => (i.zero, i.size, i.bytes)) = some (some (.bool false), 1, 1) := by kernel_rfl
theorem info25 : (Yba.prog.info? 25).map (fun i => (i.zero, i.size, i.bytes)) = some (some (.slice none 0 0), 1, 24) := by kernel_rfl
theorem info34 : (Yba.prog.info? 34).map (fun i => (i.zero, i.size, i.bytes)) = some (some (.pointer none), 1, 8) := by kernel_rfl
theorem run_mk30 (n : Nat) (hn : n ≤ 8) (w : World) : (Instr.makeSlice 30 (.int .i64 (n : Int)) (.int .i64 (n : Int))).run Yba.prog w =
    .ok (.slice (some ⟨w.heap.size, 0, none⟩) n n) (w.alloc (.cells (madeCells #[.bool false] n) 4)) := by
  obtain ⟨i, hi, hz, hs, hb⟩ := info_parts info4
  have hr := run_make (P := Yba.prog) w 30 4 i _ Yba.underlying30 hi hz .i64 .i64 n n (by omega) (Int.le_refl _) (by rw [hb]; omega) (by omega)
  rw [hs] at hr
  simpa [Value.cells] using hr
theorem run_mk31 (n : Nat) (hn : n ≤ 8) (w : World) : (Instr.makeSlice 31 (.int .i64 (n : Int)) (.int .i64 (n : Int))).run Yba.prog w =
    .ok (.slice (some ⟨w.heap.size, 0, none⟩) n n) (w.alloc (.cells (madeCells #[.slice none 0 0] n) 25)) := by
  obtain ⟨i, hi, hz, hs, hb⟩ := info_parts info25
  have hr := run_make (P := Yba.prog) w 31 25 i _ Yba.underlying31 hi hz .i64 .i64 n n (by omega) (Int.le_refl _) (by rw [hb]; omega) (by omega)
  rw [hs] at hr
  simpa [Value.cells] using hr
theorem run_mk29 (n : Nat) (hn : n * 8 ≤ 140737488355328) (w : World) : (Instr.makeSlice 29 (.int .i64 (n : Int)) (.int .i64 (n : Int))).run Yba.prog w =
    .ok (.slice (some ⟨w.heap.size, 0, none⟩) n n) (w.alloc (.cells (madeCells #[.pointer none] n) 34)) := by
  obtain ⟨i, hi, hz, hs, hb⟩ := info_parts info34
  have hr := run_make (P := Yba.prog) w 29 34 i _ Yba.underlying29 hi hz .i64 .i64 n n (by omega) (Int.le_refl _) (by rw [hb]; omega) (by omega)
  rw [hs] at hr
  simpa [Value.cells] using hr
end Go.Proofs.Ybulkftys
