import Derived.Test.YbulkfsriRows
import Derived.WalkKit
import Derived.WalkLawsBesides
import Derived.WalkSpells
import Derived.BigRegion
import Derived.BigQuiet
import Derived.Laws.CopyRow
import Derived.LaidEqlPtr
import Derived.Deep.QuietTactic
import Derived.Deep.RegionHeld3
import Derived.Deep.LoopGhost
import Derived.Deep.DeepCutAuto
import Derived.Deep.Light
namespace Go.Proofs.Ybulkfsri
open Go.RowKit

theorem cell_block {w : World} {b : Nat} {c : Array Value} {t : TypeId} (h : w.heap[b]? = some (.cells c t)) (i : Nat) : w.cell? ⟨b, i, none⟩ = c[i]? := by
  simp [World.cell?, h]

/-- The four cells of each of the first k elements of a row of reads. -/
def C4 (w : World) (b off k : Nat) (fF fI fS fR : Nat → Int) : Prop :=
  ∀ j, j < k → w.cell? ⟨b, off + j * 4, none⟩ = some (.int .i64 (fF j)) ∧ w.cell? ⟨b, off + j * 4 + 1, none⟩ = some (.int .u64 (fI j)) ∧ w.cell? ⟨b, off + j * 4 + 2, none⟩ = some (.int .u64 (fS j)) ∧ w.cell? ⟨b, off + j * 4 + 3, none⟩ = some (.int .u64 (fR j))

/-- A row of n elements, the first k of them laid. -/
def RowL (w : World) (b n k : Nat) (fF fI fS fR : Nat → Int) : Prop :=
  (∃ arr, w.heap[b]? = some (.cells arr 29) ∧ arr.size = n * 4) ∧ C4 w b 0 k fF fI fS fR

theorem info29 : (Yba.prog.info? 29).map (fun i => (i.zero, i.size, i.bytes)) = some (some (.agg #[.int .i64 0, .int .u64 0, .int .u64 0, .int .u64 0]), 4, 32) := by kernel_rfl

theorem run_mk (n : Nat) (hn : n ≤ 1048576) (w : World) : (Instr.makeSlice 25 (.int .i64 (n : Int)) (.int .i64 (n : Int))).run Yba.prog w =
    .ok (.slice (some ⟨w.heap.size, 0, none⟩) n n) (w.alloc (.cells (madeCells #[.int .i64 0, .int .u64 0, .int .u64 0, .int .u64 0] (n * 4)) 29)) := by
  obtain ⟨i, hi, hzz⟩ := Option.map_eq_some_iff.1 info29
  simp only [Prod.mk.injEq] at hzz
  obtain ⟨hz, hs, hb⟩ := hzz
  have hr := run_make (P := Yba.prog) w 25 29 i _ Yba.underlying25 hi hz .i64 .i64 n n (by omega) (Int.le_refl _) (by rw [hb]; omega) (by omega)
  rw [hs] at hr
  simpa [Value.cells] using hr

theorem row_start (w : World) (n : Nat) (fF fI fS fR : Nat → Int) : RowL (w.alloc (.cells (madeCells #[.int .i64 0, .int .u64 0, .int .u64 0, .int .u64 0] (n * 4)) 29)) w.heap.size n 0 fF fI fS fR :=
  ⟨⟨_, heap_alloc_new _ _, size_madeCells _ _⟩, fun j hj => by omega⟩

/-- One element's four stores. -/
def put4 (w : World) (b o : Nat) (v0 v1 v2 v3 : Value) : World := (((w.setCell ⟨b, o, none⟩ v0).setCell ⟨b, o + 1, none⟩ v1).setCell ⟨b, o + 2, none⟩ v2).setCell ⟨b, o + 3, none⟩ v3
/-- Its last two alone. -/
def put2 (w : World) (b o : Nat) (v2 v3 : Value) : World := (w.setCell ⟨b, o + 2, none⟩ v2).setCell ⟨b, o + 3, none⟩ v3

theorem row_cell {w : World} {b n k : Nat} {fF fI fS fR : Nat → Int} (h : RowL w b n k fF fI fS fR) {i : Nat} (hi : i < n * 4) : (∃ v, w.cell? ⟨b, i, none⟩ = some v) ∧ w.frozen? ⟨b, i, none⟩ = false := by
  obtain ⟨⟨arr, h1, h2⟩, _⟩ := h
  exact ⟨⟨arr[i], by rw [cell_block h1]; simp [h2, hi]⟩, by simp [World.frozen?, h1]⟩

theorem row_lt {w : World} {b n k : Nat} {fF fI fS fR : Nat → Int} (h : RowL w b n k fF fI fS fR) : b < w.heap.size := by
  obtain ⟨⟨arr, h1, _⟩, _⟩ := h
  exact (Array.getElem?_eq_some_iff.1 h1).1

theorem put4_block {w : World} {b o : Nat} {v0 v1 v2 v3 : Value} {arr : Array Value} {t : TypeId} (h : w.heap[b]? = some (.cells arr t)) :
    (put4 w b o v0 v1 v2 v3).heap[b]? = some (.cells ((((arr.setIfInBounds o v0).setIfInBounds (o + 1) v1).setIfInBounds (o + 2) v2).setIfInBounds (o + 3) v3) t) := by
  simp only [put4, World.setCell, Array.getElem?_modify, if_true, h, Option.map_some, Option.isSome_none, Bool.false_eq_true, if_false]
theorem put2_block {w : World} {b o : Nat} {v2 v3 : Value} {arr : Array Value} {t : TypeId} (h : w.heap[b]? = some (.cells arr t)) :
    (put2 w b o v2 v3).heap[b]? = some (.cells ((arr.setIfInBounds (o + 2) v2).setIfInBounds (o + 3) v3) t) := by
  simp only [put2, World.setCell, Array.getElem?_modify, if_true, h, Option.map_some, Option.isSome_none, Bool.false_eq_true, if_false]

theorem row_step {w : World} {b n k : Nat} {fF fI fS fR : Nat → Int} (h : RowL w b n k fF fI fS fR) (hk : k < n) :
    RowL (put4 w b (k * 4) (.int .i64 (fF k)) (.int .u64 (fI k)) (.int .u64 (fS k)) (.int .u64 (fR k))) b n (k + 1) fF fI fS fR := by
  obtain ⟨⟨arr, h1, h2⟩, h3⟩ := h
  have hb := put4_block (o := k * 4) (v0 := .int .i64 (fF k)) (v1 := .int .u64 (fI k)) (v2 := .int .u64 (fS k)) (v3 := .int .u64 (fR k)) h1
  refine ⟨⟨_, hb, by simp [h2]⟩, fun j hj => ?_⟩
  simp only [cell_block hb, Nat.zero_add]
  by_cases e : j = k
  · subst e
    simp only [Array.getElem?_setIfInBounds, Array.size_setIfInBounds]
    refine ⟨?_, ?_, ?_, ?_⟩
    all_goals (simp; omega)
  · have := h3 j (by omega)
    simp only [cell_block h1, Nat.zero_add] at this
    simp only [Array.getElem?_setIfInBounds, Array.size_setIfInBounds]
    refine ⟨?_, ?_, ?_, ?_⟩
    · rw [if_neg (by omega), if_neg (by omega), if_neg (by omega), if_neg (by omega)]; exact this.1
    · rw [if_neg (by omega), if_neg (by omega), if_neg (by omega), if_neg (by omega)]; exact this.2.1
    · rw [if_neg (by omega), if_neg (by omega), if_neg (by omega), if_neg (by omega)]; exact this.2.2.1
    · rw [if_neg (by omega), if_neg (by omega), if_neg (by omega), if_neg (by omega)]; exact this.2.2.2

/-- Zero up to k, as it was from there on. -/
def zeroTo (k : Nat) (f : Nat → Int) : Nat → Int := fun j => if j < k then 0 else f j

theorem row_zero {w : World} {b n k : Nat} {fF fI fS fR : Nat → Int} (h : RowL w b n n fF fI (zeroTo k fS) (zeroTo k fR)) (hk : k < n) :
    RowL (put2 w b (k * 4) (.int .u64 0) (.int .u64 0)) b n n fF fI (zeroTo (k + 1) fS) (zeroTo (k + 1) fR) := by
  obtain ⟨⟨arr, h1, h2⟩, h3⟩ := h
  have hb := put2_block (o := k * 4) (v2 := .int .u64 0) (v3 := .int .u64 0) h1
  refine ⟨⟨_, hb, by simp [h2]⟩, fun j hj => ?_⟩
  have := h3 j hj
  simp only [cell_block h1, Nat.zero_add] at this
  simp only [cell_block hb, Nat.zero_add, Array.getElem?_setIfInBounds, Array.size_setIfInBounds]
  refine ⟨?_, ?_, ?_, ?_⟩
  · rw [if_neg (by omega), if_neg (by omega)]; exact this.1
  · rw [if_neg (by omega), if_neg (by omega)]; exact this.2.1
  · by_cases e : j = k
    · subst e
      rw [if_neg (by omega), if_pos rfl, if_pos (by omega)]
      simp [zeroTo]
    · rw [if_neg (by omega), if_neg (by omega), this.2.2.1]
      have e1 : (j < k + 1) = (j < k) := by apply propext; omega
      simp only [zeroTo, e1]
  · by_cases e : j = k
    · subst e
      rw [if_pos rfl, if_pos (by omega)]
      simp [zeroTo]
    · rw [if_neg (by omega), if_neg (by omega), this.2.2.2]
      have e1 : (j < k + 1) = (j < k) := by apply propext; omega
      simp only [zeroTo, e1]

theorem put4_below {B : Nat} {w0 w : World} (h : Below B w0 w) {b : Nat} (hb : B ≤ b) (o : Nat) (v0 v1 v2 v3 : Value) : Below B w0 (put4 w b o v0 v1 v2 v3) :=
  (((h.setCell (p := ⟨b, o, none⟩) hb v0).setCell (p := ⟨b, o + 1, none⟩) hb v1).setCell (p := ⟨b, o + 2, none⟩) hb v2).setCell (p := ⟨b, o + 3, none⟩) hb v3

theorem C4.below {B : Nat} {w w' : World} {b off k : Nat} {fF fI fS fR : Nat → Int} (h : C4 w b off k fF fI fS fR) (hb : Below B w w') (hB : b < B) : C4 w' b off k fF fI fS fR := by
  intro j hj
  obtain ⟨h0, h1, h2, h3⟩ := h j hj
  exact ⟨(hb.cell (by exact hB)).trans h0, (hb.cell (by exact hB)).trans h1, (hb.cell (by exact hB)).trans h2, (hb.cell (by exact hB)).trans h3⟩

/-- w1 is w but for the blocks s and g. -/
structure Turned (w w1 : World) (s g : Nat) : Prop where
  os : w1.os = w.os
  tape : w1.tape = w.tape
  output : w1.output = w.output
  size : w1.heap.size = w.heap.size
  block : ∀ k, k ≠ s → k ≠ g → w1.heap[k]? = w.heap[k]?

theorem Turned.refl (w : World) (s g : Nat) : Turned w w s g := ⟨rfl, rfl, rfl, rfl, fun _ _ _ => rfl⟩
theorem Turned.setCell {w w1 : World} {s g : Nat} (h : Turned w w1 s g) (b o : Nat) (v : Value) (hb : b = s ∨ b = g) : Turned w (w1.setCell ⟨b, o, none⟩ v) s g := by
  refine ⟨h.os, h.tape, h.output, by simp [World.setCell, h.size], fun k h1 h2 => ?_⟩
  rw [← h.block k h1 h2]
  simp only [World.setCell, Array.getElem?_modify]
  rw [if_neg (by rcases hb with rfl | rfl <;> omega)]

end Go.Proofs.Ybulkfsri
