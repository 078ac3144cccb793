import Derived.Test.YbulkfslyFmtClone
namespace Go.Proofs.YbulkfslyFmt
open Go.RowKit
set_option linter.unusedVariables false
set_option linter.unusedSimpArgs false

def isF (v : Value) : Prop := ∃ m, v = .float .f64 m
def isI (v : Value) : Prop := ∃ x, v = .int .i64 x
def anyV (v : Value) : Prop := True
theorem isF_one {v : Value} (h : isF v) : v.oneCell' = true := by obtain ⟨m, rfl⟩ := h; rfl
theorem isI_one {v : Value} (h : isI v) : v.oneCell' = true := by obtain ⟨m, rfl⟩ := h; rfl

/-- A block of the call's own: 'z' cells, each of which meets 'q'. -/
def BK (q : Value → Prop) (w : World) (g : Nat) (e : TypeId) (z : Nat) : Prop := ∃ cur, w.heap[g]? = some (.cells cur e (0, 0)) ∧ cur.size = z ∧ ∀ u ∈ cur.toList, q u

theorem cell_block {w : World} {b : Nat} {arr : Array Value} {t : TypeId} (h : w.heap[b]? = some (.cells arr t)) (i : Nat) : w.cell? ⟨b, i, none⟩ = arr[i]? := by
  simp [World.cell?, h]

theorem BK.lt {q : Value → Prop} {w : World} {g z : Nat} {e : TypeId} (h : BK q w g e z) : g < w.heap.size := by
  obtain ⟨cur, h1, _⟩ := h
  exact (Array.getElem?_eq_some_iff.1 h1).1

theorem BK.frozen {q : Value → Prop} {w : World} {g z : Nat} {e : TypeId} (h : BK q w g e z) (j : Nat) : w.frozen? ⟨g, j, none⟩ = false := by
  obtain ⟨cur, h1, _⟩ := h
  simp [World.frozen?, h1]

theorem BK.cell {q : Value → Prop} {w : World} {g z : Nat} {e : TypeId} (h : BK q w g e z) {j : Nat} (hj : j < z) : ∃ v, w.cell? ⟨g, j, none⟩ = some v ∧ q v := by
  obtain ⟨cur, h1, h2, h3⟩ := h
  refine ⟨cur[j], by rw [cell_block h1]; simp [h2, hj], h3 _ (by simp)⟩

theorem BK.block {q : Value → Prop} {w w' : World} {g z : Nat} {e : TypeId} (h : BK q w g e z) (hb : w'.heap[g]? = w.heap[g]?) : BK q w' g e z := by
  obtain ⟨cur, h1, h2⟩ := h
  exact ⟨cur, hb.trans h1, h2⟩

theorem BK.set {q : Value → Prop} {w : World} {g z : Nat} {e : TypeId} (h : BK q w g e z) (j : Nat) (v : Value) (hv : q v) : BK q (w.setCell ⟨g, j, none⟩ v) g e z := by
  obtain ⟨cur, h1, h2, h3⟩ := h
  refine ⟨cur.setIfInBounds j v, ?_, by simp [h2], ?_⟩
  · simp only [World.setCell, Array.getElem?_modify, if_true, h1, Option.map_some, Option.isSome_none, Bool.false_eq_true, if_false]
  · intro u hu
    rw [Array.toList_setIfInBounds] at hu
    rcases List.mem_or_eq_of_mem_set hu with hu | rfl
    · exact h3 u hu
    · exact hv

theorem BK.other {q : Value → Prop} {w : World} {g z : Nat} {e : TypeId} (h : BK q w g e z) {g' j : Nat} {v : Value} (hne : g ≠ g') : BK q (w.setCell ⟨g', j, none⟩ v) g e z :=
  h.block (Below.heap_setCell _ _ _ _ hne)

theorem BK.alloc {q : Value → Prop} {w : World} {g z : Nat} {e : TypeId} (h : BK q w g e z) (o : Obj) : BK q (w.alloc o) g e z :=
  h.block (Below.heap_alloc _ _ _ h.lt)

theorem BK.below {q : Value → Prop} {w w' : World} {g z : Nat} {e : TypeId} {B : Nat} (h : BK q w g e z) (hb : Below B w w') (hg : g < B) : BK q w' g e z :=
  h.block (hb.block _ hg)

theorem madeCells_q {q : Value → Prop} (z : Array Value) (n : Nat) (hz : 0 < z.size) (h : ∀ u ∈ z.toList, q u) : ∀ u ∈ (madeCells z n).toList, q u := by
  intro u hu
  simp only [madeCells, Array.toList_map, List.mem_map] at hu
  obtain ⟨i, _, rfl⟩ := hu
  have hlt : i % z.size < z.size := Nat.mod_lt _ hz
  rw [getElem!_pos z (i % z.size) hlt]
  exact h _ (by simp)

theorem BK.new {q : Value → Prop} (w : World) (z : Array Value) (n : Nat) (e : TypeId) (hz : 0 < z.size) (h : ∀ u ∈ z.toList, q u) : BK q (w.alloc (.cells (madeCells z n) e)) w.heap.size e n :=
  ⟨_, heap_alloc_new _ _, size_madeCells _ _, madeCells_q z n hz h⟩

/-- The rows of pairs that the law lays: r of them made, the first kt (kw) of them told in the two outer rows. -/
structure Bld (w : World) (N T r kt kw : Nat) (len cap : Nat → Nat) : Prop where
  size : N + 2 + 2 * r ≤ w.heap.size
  tf : BK anyV w N 26 T
  wf : BK anyV w (N + 1) 27 T
  rt : ∀ i, i < r → BK isF w (N + 2 + 2 * i) 22 (cap i)
  rw : ∀ i, i < r → BK isI w (N + 3 + 2 * i) 29 (cap i * 2)
  ct : ∀ i, i < kt → w.cell? ⟨N, i, none⟩ = some (.slice (some ⟨N + 2 + 2 * i, 0, none⟩) (len i) (cap i))
  cw : ∀ i, i < kw → w.cell? ⟨N + 1, i, none⟩ = some (.slice (some ⟨N + 3 + 2 * i, 0, none⟩) (len i) (cap i))

theorem Bld.below {w w' : World} {N T r kt kw : Nat} {len cap : Nat → Nat} {B : Nat} (h : Bld w N T r kt kw len cap) (hb : Below B w w') (hB : N + 2 + 2 * r ≤ B) : Bld w' N T r kt kw len cap := by
  refine ⟨Nat.le_trans h.size hb.size, h.tf.below hb (by omega), h.wf.below hb (by omega), fun i hi => (h.rt i hi).below hb (by omega), fun i hi => (h.rw i hi).below hb (by omega), fun i hi => ?_, fun i hi => ?_⟩
  · rw [hb.cell (by show N < B; omega)]; exact h.ct i hi
  · rw [hb.cell (by show N + 1 < B; omega)]; exact h.cw i hi

theorem Bld.setF {w : World} {N T r kt kw : Nat} {len cap : Nat → Nat} (h : Bld w N T r kt kw len cap) (k j m : Nat) : Bld (w.setCell ⟨N + 2 + 2 * k, j, none⟩ (.float .f64 m)) N T r kt kw len cap := by
  refine ⟨by simpa [World.setCell] using h.size, h.tf.other (by omega), h.wf.other (by omega), fun i hi => ?_, fun i hi => (h.rw i hi).other (by omega), fun i hi => ?_, fun i hi => ?_⟩
  · by_cases e : i = k
    · subst e; exact (h.rt i hi).set j _ ⟨m, rfl⟩
    · exact (h.rt i hi).other (by omega)
  · rw [World.cell?_setCell_other _ _ _ _ (by simp <;> omega)]; exact h.ct i hi
  · rw [World.cell?_setCell_other _ _ _ _ (by simp <;> omega)]; exact h.cw i hi

theorem Bld.setI {w : World} {N T r kt kw : Nat} {len cap : Nat → Nat} (h : Bld w N T r kt kw len cap) (k j : Nat) (x : Int) : Bld (w.setCell ⟨N + 3 + 2 * k, j, none⟩ (.int .i64 x)) N T r kt kw len cap := by
  refine ⟨by simpa [World.setCell] using h.size, h.tf.other (by omega), h.wf.other (by omega), fun i hi => (h.rt i hi).other (by omega), fun i hi => ?_, fun i hi => ?_, fun i hi => ?_⟩
  · by_cases e : i = k
    · subst e; exact (h.rw i hi).set j _ ⟨x, rfl⟩
    · exact (h.rw i hi).other (by omega)
  · rw [World.cell?_setCell_other _ _ _ _ (by simp <;> omega)]; exact h.ct i hi
  · rw [World.cell?_setCell_other _ _ _ _ (by simp <;> omega)]; exact h.cw i hi

theorem BK.put {q : Value → Prop} {w : World} {g z : Nat} {e : TypeId} (h : BK q w g e z) {j : Nat} (hj : j < z) (v : Value) : (w.setCell ⟨g, j, none⟩ v).cell? ⟨g, j, none⟩ = some v := by
  obtain ⟨cur, h1, h2, _⟩ := h
  have : (w.setCell ⟨g, j, none⟩ v).heap[g]? = some (.cells (cur.setIfInBounds j v) e) := by
    simp only [World.setCell, Array.getElem?_modify, if_true, h1, Option.map_some, Option.isSome_none, Bool.false_eq_true, if_false]
  rw [cell_block this]
  simp [h2, hj]

theorem Bld.setT {w : World} {N T r kt kw : Nat} {len cap : Nat → Nat} (h : Bld w N T r kt kw len cap) (hk : kt < T) : Bld (w.setCell ⟨N, kt, none⟩ (.slice (some ⟨N + 2 + 2 * kt, 0, none⟩) (len kt) (cap kt))) N T r (kt + 1) kw len cap := by
  refine ⟨by simpa [World.setCell] using h.size, h.tf.set _ _ trivial, h.wf.other (by omega), fun i hi => (h.rt i hi).other (by omega), fun i hi => (h.rw i hi).other (by omega), fun i hi => ?_, fun i hi => ?_⟩
  · by_cases e : i = kt
    · subst e; exact h.tf.put hk _
    · rw [World.cell?_setCell_other _ _ _ _ (by simp <;> omega)]; exact h.ct i (by omega)
  · rw [World.cell?_setCell_other _ _ _ _ (by simp)]; exact h.cw i hi

theorem Bld.setW {w : World} {N T r kt kw : Nat} {len cap : Nat → Nat} (h : Bld w N T r kt kw len cap) (hk : kw < T) : Bld (w.setCell ⟨N + 1, kw, none⟩ (.slice (some ⟨N + 3 + 2 * kw, 0, none⟩) (len kw) (cap kw))) N T r kt (kw + 1) len cap := by
  refine ⟨by simpa [World.setCell] using h.size, h.tf.other (by omega), h.wf.set _ _ trivial, fun i hi => (h.rt i hi).other (by omega), fun i hi => (h.rw i hi).other (by omega), fun i hi => ?_, fun i hi => ?_⟩
  · rw [World.cell?_setCell_other _ _ _ _ (by simp)]; exact h.ct i hi
  · by_cases e : i = kw
    · subst e; exact h.wf.put hk _
    · rw [World.cell?_setCell_other _ _ _ _ (by simp <;> omega)]; exact h.cw i (by omega)

/-- The zero cells of the two kinds of rows. -/
def zF : Array Value := #[.float .f64 0]
def zI : Array Value := #[.int .i64 0, .int .i64 0]
def zS : Array Value := #[.slice none 0 0]

theorem Bld.more {w : World} {N T r kt kw : Nat} {len cap : Nat → Nat} (h : Bld w N T r kt kw len cap) (hs : w.heap.size = N + 2 + 2 * r) :
    Bld ((w.alloc (.cells (madeCells zF (cap r)) 22)).alloc (.cells (madeCells zI (cap r * 2)) 29)) N T (r + 1) kt kw len cap := by
  have hb := h.below (((Below.refl w.heap.size w).alloc (Nat.le_refl _) (.cells (madeCells zF (cap r)) 22)).alloc (by simp) (.cells (madeCells zI (cap r * 2)) 29)) (by omega)
  refine ⟨by simp; omega, hb.tf, hb.wf, fun i hi => ?_, fun i hi => ?_, hb.ct, hb.cw⟩
  · by_cases e : i = r
    · subst e
      rw [show N + 2 + 2 * i = w.heap.size by omega]
      exact (BK.new w zF (cap i) 22 (by decide) (by intro u hu; simp [zF] at hu; exact ⟨0, hu⟩)).alloc _
    · exact hb.rt i (by omega)
  · by_cases e : i = r
    · subst e
      have := BK.new (q := isI) (w.alloc (.cells (madeCells zF (cap i)) 22)) zI (cap i * 2) 29 (by decide) (by intro u hu; simp [zI] at hu; exact ⟨0, hu⟩)
      rw [World.size_alloc] at this
      rw [show N + 3 + 2 * i = w.heap.size + 1 by omega]
      exact this
    · exact hb.rw i (by omega)

theorem Bld.start (w : World) (T : Nat) (len cap : Nat → Nat) : Bld ((w.alloc (.cells (madeCells zS T) 26)).alloc (.cells (madeCells zS T) 27)) w.heap.size T 0 0 0 len cap := by
  have h2 := BK.new (q := anyV) (w.alloc (.cells (madeCells zS T) 26)) zS T 27 (by decide) (fun _ _ => trivial)
  rw [World.size_alloc] at h2
  exact ⟨by simp, (BK.new w zS T 26 (by decide) (fun _ _ => trivial)).alloc _, h2, fun i hi => by omega, fun i hi => by omega, fun i hi => by omega, fun i hi => by omega⟩

/-- A row of pairs as a row that is owned. -/
def cellsOf (w : World) (g k : Nat) : List Value := match w.heap[g]? with
  | some (.cells cur _ _) => cur.toList.take k
  | _ => []
theorem BK.owns {q : Value → Prop} {w : World} {g c size : Nat} {e : TypeId} (h : BK q w g e (c * size)) (n : Nat) (hn : n ≤ c) (hc : c ≤ maxLen) : w.ownsRow g e size (.slice (some ⟨g, 0, none⟩) n c) n (cellsOf w g (n * size)) ∧ ∀ u ∈ cellsOf w g (n * size), q u := by
  obtain ⟨cur, h1, h2, h3⟩ := h
  have hm : n * size ≤ c * size := Nat.mul_le_mul_right _ hn
  have e : cellsOf w g (n * size) = cur.toList.take (n * size) := by simp [cellsOf, h1]
  rw [e]
  refine ⟨⟨by rw [List.length_take, Array.length_toList, h2]; exact Nat.min_eq_left hm, .inr ⟨g, c, cur, rfl, Nat.le_refl _, h1, hn, hc, h2, rfl⟩⟩, fun u hu => h3 u (List.mem_of_mem_take hu)⟩

theorem mk24 (n : Nat) (hn : n ≤ 200000) (w : World) : (Instr.makeSlice 24 (.int .i64 (n : Int)) (.int .i64 (n : Int))).run Ybaf.prog w = .ok (.slice (some ⟨w.heap.size, 0, none⟩) n n) (w.alloc (.cells (madeCells zS n) 26)) := by
  obtain ⟨i, hi, hzz⟩ := Option.map_eq_some_iff.1 info26
  simp only [Prod.mk.injEq] at hzz
  obtain ⟨hz, hs, hb⟩ := hzz
  have := run_make (P := Ybaf.prog) w 24 26 i _ Ybaf.underlying24 hi hz .i64 .i64 n n (by omega) (by omega) (by rw [hb]; omega) (by omega)
  rw [hs] at this
  simpa [Value.cells, zS] using this
theorem mk25 (n : Nat) (hn : n ≤ 200000) (w : World) : (Instr.makeSlice 25 (.int .i64 (n : Int)) (.int .i64 (n : Int))).run Ybaf.prog w = .ok (.slice (some ⟨w.heap.size, 0, none⟩) n n) (w.alloc (.cells (madeCells zS n) 27)) := by
  obtain ⟨i, hi, hzz⟩ := Option.map_eq_some_iff.1 info27
  simp only [Prod.mk.injEq] at hzz
  obtain ⟨hz, hs, hb⟩ := hzz
  have := run_make (P := Ybaf.prog) w 25 27 i _ Ybaf.underlying25 hi hz .i64 .i64 n n (by omega) (by omega) (by rw [hb]; omega) (by omega)
  rw [hs] at this
  simpa [Value.cells, zS] using this
theorem mkT (l c : Nat) (hl : l ≤ c) (hn : c ≤ 200000) (w : World) : (Instr.makeSlice 26 (.int .i64 (l : Int)) (.int .i64 (c : Int))).run Ybaf.prog w = .ok (.slice (some ⟨w.heap.size, 0, none⟩) l c) (w.alloc (.cells (madeCells zF c) 22)) := by
  obtain ⟨i, hi, hzz⟩ := Option.map_eq_some_iff.1 info22
  simp only [Prod.mk.injEq] at hzz
  obtain ⟨hz, hs, hb⟩ := hzz
  have := run_make (P := Ybaf.prog) w 26 22 i _ Ybaf.underlying26 hi hz .i64 .i64 l c (by omega) (by omega) (by rw [hb]; omega) (by omega)
  rw [hs] at this
  simpa [Value.cells, zF] using this
theorem mkW (l c : Nat) (hl : l ≤ c) (hn : c ≤ 200000) (w : World) : (Instr.makeSlice 27 (.int .i64 (l : Int)) (.int .i64 (c : Int))).run Ybaf.prog w = .ok (.slice (some ⟨w.heap.size, 0, none⟩) l c) (w.alloc (.cells (madeCells zI (c * 2)) 29)) := by
  obtain ⟨i, hi, hzz⟩ := Option.map_eq_some_iff.1 info29
  simp only [Prod.mk.injEq] at hzz
  obtain ⟨hz, hs, hb⟩ := hzz
  have := run_make (P := Ybaf.prog) w 27 29 i _ Ybaf.underlying27 hi hz .i64 .i64 l c (by omega) (by omega) (by rw [hb]; omega) (by omega)
  rw [hs] at this
  simpa [Value.cells, zI] using this
end Go.Proofs.YbulkfslyFmt
