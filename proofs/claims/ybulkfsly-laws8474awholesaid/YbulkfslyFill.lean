import Derived.Test.YbulkfslyNewRule
import Derived.Test.YbulkfslySame
import Derived.Deep.LoopGhost
import Derived.Deep.DeepCutAuto
import Derived.Deep.Light
namespace Go.Proofs.Ybulkfsly
open Go.RowKit

theorem run_store_float (P : Program) (w : World) (a : Addr) (m : Mode) (k : FloatKind) (n : Nat) : (store a (.float k n) m).run P w = stored P w a (.float k n) m := run_store P w a _ m rfl
attribute [local go_sem] run_store_float

/-- The four cells of each of the first k elements of a row of links. -/
def C4 (w : World) (b off k : Nat) (fF fT : Nat → Int) (fM fU : Nat → Nat) : Prop :=
  ∀ j, j < k → w.cell? ⟨b, off + j * 4, none⟩ = some (.int .i64 (fF j)) ∧ w.cell? ⟨b, off + j * 4 + 1, none⟩ = some (.int .i64 (fT j)) ∧ w.cell? ⟨b, off + j * 4 + 2, none⟩ = some (.float .f64 (fM j)) ∧ w.cell? ⟨b, off + j * 4 + 3, none⟩ = some (.float .f64 (fU j))

/-- The row that is being filled: n elements, the first k of them laid. -/
def RowL (w : World) (b n k : Nat) (fF fT : Nat → Int) (fM fU : Nat → Nat) : Prop :=
  (∃ arr, w.heap[b]? = some (.cells arr 27) ∧ arr.size = n * 4) ∧ C4 w b 0 k fF fT fM fU

theorem info27 : (Yba.prog.info? 27).map (fun i => (i.zero, i.size, i.bytes)) = some (some (.agg #[.int .i64 0, .int .i64 0, .float .f64 0, .float .f64 0]), 4, 32) := by kernel_rfl

theorem run_mk (n : Nat) (hn : n ≤ 4096) (w : World) : (Instr.makeSlice 23 (.int .i64 (n : Int)) (.int .i64 (n : Int))).run Yba.prog w =
    .ok (.slice (some ⟨w.heap.size, 0, none⟩) n n) (w.alloc (.cells (madeCells #[.int .i64 0, .int .i64 0, .float .f64 0, .float .f64 0] (n * 4)) 27)) := by
  obtain ⟨i, hi, hzz⟩ := Option.map_eq_some_iff.1 info27
  simp only [Prod.mk.injEq] at hzz
  obtain ⟨hz, hs, hb⟩ := hzz
  have hr := run_make (P := Yba.prog) w 23 27 i _ Yba.underlying23 hi hz .i64 .i64 n n (by omega) (Int.le_refl _) (by rw [hb]; omega) (by omega)
  rw [hs] at hr
  simpa [Value.cells] using hr

theorem row_start (w : World) (n : Nat) (fF fT : Nat → Int) (fM fU : Nat → Nat) : RowL (w.alloc (.cells (madeCells #[.int .i64 0, .int .i64 0, .float .f64 0, .float .f64 0] (n * 4)) 27)) w.heap.size n 0 fF fT fM fU :=
  ⟨⟨_, heap_alloc_new _ _, size_madeCells _ _⟩, fun j hj => by omega⟩

/-- One element's four stores. -/
def put4 (w : World) (b o : Nat) (v0 v1 v2 v3 : Value) : World := (((w.setCell ⟨b, o, none⟩ v0).setCell ⟨b, o + 1, none⟩ v1).setCell ⟨b, o + 2, none⟩ v2).setCell ⟨b, o + 3, none⟩ v3

theorem row_cell {w : World} {b n k : Nat} {fF fT : Nat → Int} {fM fU : Nat → Nat} (h : RowL w b n k fF fT fM fU) {i : Nat} (hi : i < n * 4) : (∃ v, w.cell? ⟨b, i, none⟩ = some v) ∧ w.frozen? ⟨b, i, none⟩ = false := by
  obtain ⟨⟨arr, h1, h2⟩, _⟩ := h
  exact ⟨⟨arr[i], by rw [cell_block h1]; simp [h2, hi]⟩, by simp [World.frozen?, h1]⟩

theorem row_lt {w : World} {b n k : Nat} {fF fT : Nat → Int} {fM fU : Nat → Nat} (h : RowL w b n k fF fT fM fU) : b < w.heap.size := by
  obtain ⟨⟨arr, h1, _⟩, _⟩ := h
  exact (Array.getElem?_eq_some_iff.1 h1).1

theorem put4_block {w : World} {b o : Nat} {v0 v1 v2 v3 : Value} {arr : Array Value} {t : TypeId} (h : w.heap[b]? = some (.cells arr t)) :
    (put4 w b o v0 v1 v2 v3).heap[b]? = some (.cells ((((arr.setIfInBounds o v0).setIfInBounds (o + 1) v1).setIfInBounds (o + 2) v2).setIfInBounds (o + 3) v3) t) := by
  simp only [put4, World.setCell, Array.getElem?_modify, if_true, h, Option.map_some, Option.isSome_none, Bool.false_eq_true, if_false]

theorem row_step {w : World} {b n k : Nat} {fF fT : Nat → Int} {fM fU : Nat → Nat} (h : RowL w b n k fF fT fM fU) (hk : k < n) :
    RowL (put4 w b (k * 4) (.int .i64 (fF k)) (.int .i64 (fT k)) (.float .f64 (fM k)) (.float .f64 (fU k))) b n (k + 1) fF fT fM fU := by
  obtain ⟨⟨arr, h1, h2⟩, h3⟩ := h
  have hb := put4_block (o := k * 4) (v0 := .int .i64 (fF k)) (v1 := .int .i64 (fT k)) (v2 := .float .f64 (fM k)) (v3 := .float .f64 (fU k)) h1
  refine ⟨⟨_, hb, by simp [h2]⟩, fun j hj => ?_⟩
  simp only [cell_block hb, Nat.zero_add]
  by_cases e : j = k
  · subst e
    simp only [Array.getElem?_setIfInBounds, Array.size_setIfInBounds]
    refine ⟨?_, ?_, ?_, ?_⟩
    all_goals (simp; omega)
  · have := h3 j (by omega)
    simp only [cell_block h1, Nat.zero_add] at this
    simp only [Array.getElem?_setIfInBounds, Array.size_setIfInBounds]
    refine ⟨?_, ?_, ?_, ?_⟩
    · rw [if_neg (by omega), if_neg (by omega), if_neg (by omega), if_neg (by omega)]; exact this.1
    · rw [if_neg (by omega), if_neg (by omega), if_neg (by omega), if_neg (by omega)]; exact this.2.1
    · rw [if_neg (by omega), if_neg (by omega), if_neg (by omega), if_neg (by omega)]; exact this.2.2.1
    · rw [if_neg (by omega), if_neg (by omega), if_neg (by omega), if_neg (by omega)]; exact this.2.2.2

theorem put4_below {B : Nat} {w0 w : World} (h : Below B w0 w) {b : Nat} (hb : B ≤ b) (o : Nat) (v0 v1 v2 v3 : Value) : Below B w0 (put4 w b o v0 v1 v2 v3) :=
  (((h.setCell (p := ⟨b, o, none⟩) hb v0).setCell (p := ⟨b, o + 1, none⟩) hb v1).setCell (p := ⟨b, o + 2, none⟩) hb v2).setCell (p := ⟨b, o + 3, none⟩) hb v3

theorem C4.below {B : Nat} {w w' : World} {b off k : Nat} {fF fT : Nat → Int} {fM fU : Nat → Nat} (h : C4 w b off k fF fT fM fU) (hb : Below B w w') (hB : b < B) : C4 w' b off k fF fT fM fU := by
  intro j hj
  obtain ⟨h0, h1, h2, h3⟩ := h j hj
  exact ⟨(hb.cell (by exact hB)).trans h0, (hb.cell (by exact hB)).trans h1, (hb.cell (by exact hB)).trans h2, (hb.cell (by exact hB)).trans h3⟩

end Go.Proofs.Ybulkfsly
