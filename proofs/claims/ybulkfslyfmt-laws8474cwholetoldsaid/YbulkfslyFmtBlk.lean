import Derived.Test.YbulkfslyFmtAdd5
import Derived.Deep.RegionLawGrows
namespace Go.Proofs.YbulkfslyFmt
open Go.RowKit
set_option linter.unusedVariables false
set_option linter.unusedSimpArgs false

set_option maxRecDepth 1000000 in
set_option maxHeartbeats 4000000 in
theorem blockA (PS TB L C n c : Nat) (a : Option Addr) (w : World) (p0 : w.cell? ⟨PS, 0, none⟩ = some (.slice (some ⟨TB, 0, none⟩) (L + 1) C)) (x0 : w.cell? ⟨TB, L, none⟩ = some (.slice a n c)) (hn : n < 65536) (hL : L ≤ 65536) :
    Calls Ybaf.prog 11 #[.pointer (some ⟨PS, 0, none⟩)] w fun e w' => e = .returned (.int .i64 (L : Int)) ∧ w' = w := by
  have h1 : ((L + 1 : Nat) : Int) = (L : Int) + 1 := by omega
  have h2 : (0 : Int) ≤ (L : Int) := by omega
  have h3 : (n : Int) < 65536 := by omega
  go_enter Ybaf.func11, Ybaf.ntmps11
  go_wp2
  go_ret
  exact ⟨rfl, rfl⟩

/-- The world but for block PS (and draws). -/
structure R6 (w wq : World) (PS TB WB L C : Nat) : Prop where
  p0 : wq.cell? ⟨PS, 0, none⟩ = some (.slice (some ⟨TB, 0, none⟩) (L + 1) C)
  p1 : wq.cell? ⟨PS, 1, none⟩ = some (.slice (some ⟨WB, 0, none⟩) (L + 1) C)
  pj : ∀ j, j ≠ 0 → j ≠ 1 → wq.cell? ⟨PS, j, none⟩ = w.cell? ⟨PS, j, none⟩
  pf : ∀ j, wq.frozen? ⟨PS, j, none⟩ = w.frozen? ⟨PS, j, none⟩
  block : ∀ k, k ≠ PS → wq.heap[k]? = w.heap[k]?
  os : wq.os = w.os
  tape : wq.tape = w.tape
  output : wq.output = w.output
  size : wq.heap.size = w.heap.size

theorem R6_of {w : World} {PS TB WB L C : Nat} {v0 v1 : Value} (p0 : w.cell? ⟨PS, 0, none⟩ = some v0) (p1 : w.cell? ⟨PS, 1, none⟩ = some v1) :
    R6 w ((w.setCell ⟨PS, 0, none⟩ (.slice (some ⟨TB, 0, none⟩) (L + 1) C)).setCell ⟨PS, 1, none⟩ (.slice (some ⟨WB, 0, none⟩) (L + 1) C)).drew PS TB WB L C := by
  refine ⟨?_, ?_, ?_, ?_, ?_, rfl, rfl, rfl, by simp⟩
  · simp only [World.cell?_drew]
    rw [World.cell?_setCell_other _ _ _ _ (by simp)]
    exact World.cell?_setCell_same _ _ _ p0
  · simp only [World.cell?_drew]
    exact World.cell?_setCell_same _ _ _ ((World.cell?_setCell_other _ _ _ _ (by simp)).trans p1)
  · intro j h0 h1
    simp only [World.cell?_drew]
    rw [World.cell?_setCell_other _ _ _ _ (by intro e; cases e; exact h1 rfl), World.cell?_setCell_other _ _ _ _ (by intro e; cases e; exact h0 rfl)]
  · intro j; simp
  · intro k hk
    show ((w.setCell _ _).setCell _ _).heap[k]? = _
    rw [Below.heap_setCell _ _ _ _ hk, Below.heap_setCell _ _ _ _ hk]

/-- What 'block' leaves where it opens a new block. -/
structure Blk (w w' : World) (PS TB WB L base X Y C1 C2 : Nat) (tv wv : Value) : Prop where
  p0 : w'.cell? ⟨PS, 0, none⟩ = some (.slice (some ⟨X, 0, none⟩) (L + 1) C1)
  p1 : w'.cell? ⟨PS, 1, none⟩ = some (.slice (some ⟨Y, 0, none⟩) (L + 1) C2)
  pj : ∀ j, j ≠ 0 → j ≠ 1 → w'.cell? ⟨PS, j, none⟩ = w.cell? ⟨PS, j, none⟩
  pf : ∀ j, w'.frozen? ⟨PS, j, none⟩ = w.frozen? ⟨PS, j, none⟩
  x0 : w'.cell? ⟨X, L, none⟩ = some tv
  y0 : w'.cell? ⟨Y, L, none⟩ = some wv
  fx : w'.frozen? ⟨X, L, none⟩ = false
  fy : w'.frozen? ⟨Y, L, none⟩ = false
  xs : ∀ i, i < L → w'.cell? ⟨X, i, none⟩ = w.cell? ⟨TB, i, none⟩
  ys : ∀ i, i < L → w'.cell? ⟨Y, i, none⟩ = w.cell? ⟨WB, i, none⟩
  ot : w'.ownsRow base 22 1 tv 0 []
  ow : w'.ownsRow base 29 2 wv 0 []
  block : ∀ k, k < w.heap.size → k ≠ PS → k ≠ TB → k ≠ WB → w'.heap[k]? = w.heap[k]?
  hX : X = TB ∨ w.heap.size ≤ X
  hY : Y = WB ∨ w.heap.size ≤ Y
  hXY : X ≠ Y
  tX : tv.ownBlock ≠ some X
  tY : tv.ownBlock ≠ some Y
  tP : tv.ownBlock ≠ some PS
  wX : wv.ownBlock ≠ some X
  wY : wv.ownBlock ≠ some Y
  wP : wv.ownBlock ≠ some PS
  tw : ∀ k, tv.ownBlock = some k → wv.ownBlock ≠ some k
  os : w'.os = w.os
  tape : w'.tape = w.tape
  output : w'.output = w.output
  size : w.heap.size ≤ w'.heap.size

theorem own_zero {w : World} {base e size v n xs} (h : w.ownsRow base e size v n xs) (w' : World) (hb : ∀ k, v.ownBlock = some k → w'.heap[k]? = w.heap[k]?) {x c : Nat} (hv : v = .slice (some ⟨x, 0, none⟩) n c) : w'.ownsRow base e size (.slice (some ⟨x, 0, none⟩) 0 c) 0 [] := by
  subst hv
  obtain ⟨_, ⟨h1, _⟩ | ⟨g, cap, cur, h1, h2, h3, h4, h5, h6, _⟩⟩ := h
  · cases h1
  · cases h1
    exact ⟨by simp, .inr ⟨x, c, cur, rfl, h2, by rw [hb x rfl]; exact h3, Nat.zero_le _, h5, h6, by simp⟩⟩

theorem Blk_of {w wc : World} {PS TB WB L C x y n' c' base : Nat} {fs0 gs0 : List Value} (h6 : R6 w wc PS TB WB L C)
    (ob : w.ownsRow base 22 1 (.slice (some ⟨x, 0, none⟩) n' c') n' fs0) (oc : w.ownsRow base 29 2 (.slice (some ⟨y, 0, none⟩) n' c') n' gs0)
    (k2 : wc.cell? ⟨TB, L, none⟩ = some (.slice (some ⟨x, 0, none⟩) n' c')) (k3 : wc.cell? ⟨WB, L, none⟩ = some (.slice (some ⟨y, 0, none⟩) n' c')) (k4 : wc.frozen? ⟨TB, L, none⟩ = false) (k5 : wc.frozen? ⟨WB, L, none⟩ = false)
    (hPT : PS ≠ TB) (hPW : PS ≠ WB) (hTW : TB ≠ WB) (xP : x ≠ PS) (xT : x ≠ TB) (xW : x ≠ WB) (yP : y ≠ PS) (yT : y ≠ TB) (yW : y ≠ WB) (xy : x ≠ y) :
    Blk w (((wc.setCell ⟨TB, L, none⟩ (.slice (some ⟨x, 0, none⟩) 0 c')).setCell ⟨WB, L, none⟩ (.slice (some ⟨y, 0, none⟩) 0 c')).drew) PS TB WB L base TB WB C C (.slice (some ⟨x, 0, none⟩) 0 c') (.slice (some ⟨y, 0, none⟩) 0 c') := by
  have ho : ∀ k j, k ≠ TB → k ≠ WB → (((wc.setCell ⟨TB, L, none⟩ (.slice (some ⟨x, 0, none⟩) 0 c')).setCell ⟨WB, L, none⟩ (.slice (some ⟨y, 0, none⟩) 0 c')).drew).cell? ⟨k, j, none⟩ = wc.cell? ⟨k, j, none⟩ := by
    intro k j h1 h2
    simp only [World.cell?_drew]
    rw [World.cell?_setCell_other _ _ _ _ (by intro e; cases e; exact h2 rfl), World.cell?_setCell_other _ _ _ _ (by intro e; cases e; exact h1 rfl)]
  have hb : ∀ k, k ≠ TB → k ≠ WB → (((wc.setCell ⟨TB, L, none⟩ (.slice (some ⟨x, 0, none⟩) 0 c')).setCell ⟨WB, L, none⟩ (.slice (some ⟨y, 0, none⟩) 0 c')).drew).heap[k]? = wc.heap[k]? := by
    intro k h1 h2
    show ((wc.setCell _ _).setCell _ _).heap[k]? = _
    rw [Below.heap_setCell _ _ _ _ h2, Below.heap_setCell _ _ _ _ h1]
  refine ⟨(ho PS 0 hPT hPW).trans h6.p0, (ho PS 1 hPT hPW).trans h6.p1, fun j a b => (ho PS j hPT hPW).trans (h6.pj j a b), fun j => by simp [h6.pf j], ?_, ?_, by simpa using k4, by simpa using k5, ?_, ?_, ?_, ?_, ?_, .inl rfl, .inl rfl, hTW, ?_, ?_, ?_, ?_, ?_, ?_, ?_, h6.os, h6.tape, h6.output, ?_⟩
  · simp only [World.cell?_drew]
    rw [World.cell?_setCell_other _ _ _ _ (by intro e; cases e; exact hTW rfl)]
    exact World.cell?_setCell_same _ _ _ k2
  · simp only [World.cell?_drew]
    exact World.cell?_setCell_same _ _ _ ((World.cell?_setCell_other _ _ _ _ (by intro e; cases e; exact hTW rfl)).trans k3)
  · intro i hi
    simp only [World.cell?_drew]
    rw [World.cell?_setCell_other _ _ _ _ (by intro e; cases e; exact hTW rfl), World.cell?_setCell_other _ _ _ _ (by intro e; cases e; omega)]
    exact World.cell?_of_block (a := ⟨TB, i, none⟩) (h6.block TB (Ne.symm hPT))
  · intro i hi
    simp only [World.cell?_drew]
    rw [World.cell?_setCell_other _ _ _ _ (by intro e; cases e; omega), World.cell?_setCell_other _ _ _ _ (by intro e; cases e; exact hTW rfl)]
    exact World.cell?_of_block (a := ⟨WB, i, none⟩) (h6.block WB (Ne.symm hPW))
  · refine own_zero ob _ (fun k hk => ?_) rfl
    cases hk
    rw [hb x xT xW]; exact h6.block x xP
  · refine own_zero oc _ (fun k hk => ?_) rfl
    cases hk
    rw [hb y yT yW]; exact h6.block y yP
  · intro k hk h1 h2 h3
    rw [hb k h2 h3]; exact h6.block k h1
  · simp [Value.ownBlock]; exact xT
  · simp [Value.ownBlock]; exact xW
  · simp [Value.ownBlock]; exact xP
  · simp [Value.ownBlock]; exact yT
  · simp [Value.ownBlock]; exact yW
  · simp [Value.ownBlock]; exact yP
  · intro k hk; cases hk; simp [Value.ownBlock]; exact Ne.symm xy
  · simp [h6.size]

theorem mk26 : ∃ arr : Array Value, arr.size = 65536 ∧ ∀ w : World, (Instr.makeSlice 26 (.int .i64 0) (.int .i64 65536)).run Ybaf.prog w = .ok (.slice (some ⟨w.heap.size, 0, none⟩) 0 65536) (w.alloc (.cells arr 22)) := by
  obtain ⟨i, hi, hzz⟩ := Option.map_eq_some_iff.1 info22
  simp only [Prod.mk.injEq] at hzz
  obtain ⟨hz, hs, hb⟩ := hzz
  refine ⟨madeCells (Value.float .f64 0).cells ((65536 : Int).toNat * i.size), ?_, fun w => ?_⟩
  · rw [size_madeCells, hs]; omega
  · exact run_make (P := Ybaf.prog) w 26 22 i _ Ybaf.underlying26 hi hz .i64 .i64 0 65536 (by omega) (by omega) (by rw [hb]; omega) (by omega)
theorem mk27 : ∃ arr : Array Value, arr.size = 65536 * 2 ∧ ∀ w : World, (Instr.makeSlice 27 (.int .i64 0) (.int .i64 65536)).run Ybaf.prog w = .ok (.slice (some ⟨w.heap.size, 0, none⟩) 0 65536) (w.alloc (.cells arr 29)) := by
  obtain ⟨i, hi, hzz⟩ := Option.map_eq_some_iff.1 info29
  simp only [Prod.mk.injEq] at hzz
  obtain ⟨hz, hs, hb⟩ := hzz
  refine ⟨madeCells (Value.agg #[.int .i64 0, .int .i64 0]).cells ((65536 : Int).toNat * i.size), ?_, fun w => ?_⟩
  · rw [size_madeCells, hs]; omega
  · exact run_make (P := Ybaf.prog) w 27 29 i _ Ybaf.underlying27 hi hz .i64 .i64 0 65536 (by omega) (by omega) (by rw [hb]; omega) (by omega)

/-- The times' new block made: what stands. -/
theorem Blk_t {w w1 : World} {PS TB WB L base X Y C1 C2 : Nat} {tv wv : Value} (h : Blk w w1 PS TB WB L base X Y C1 C2 tv wv) (hPX : PS ≠ X) (hPY : PS ≠ Y) (hbase : base ≤ w.heap.size) (arr : Array Value) (harr : arr.size = 65536) :
    Blk w (((w1.alloc (.cells arr 22)).setCell ⟨X, L, none⟩ (.slice (some ⟨w1.heap.size, 0, none⟩) 0 65536)).drew) PS TB WB L base X Y C1 C2 (.slice (some ⟨w1.heap.size, 0, none⟩) 0 65536) wv := by
  have lX : X < w1.heap.size := World.block_lt_of_cell? w1 _ h.x0
  have lY : Y < w1.heap.size := World.block_lt_of_cell? w1 _ h.y0
  have lP : PS < w1.heap.size := World.block_lt_of_cell? w1 _ h.p0
  have sz := h.size
  have ho : ∀ k j, k < w1.heap.size → (k ≠ X ∨ j ≠ L) → (((w1.alloc (.cells arr 22)).setCell ⟨X, L, none⟩ (.slice (some ⟨w1.heap.size, 0, none⟩) 0 65536)).drew).cell? ⟨k, j, none⟩ = w1.cell? ⟨k, j, none⟩ := by
    intro k j h1 h2
    simp only [World.cell?_drew]
    rw [World.cell?_setCell_other _ _ _ _ (by intro e; cases e; rcases h2 with h2 | h2 <;> exact h2 rfl), World.cell?_alloc_lt _ _ _ (by exact h1)]
  have hf : ∀ k j, k < w1.heap.size → (((w1.alloc (.cells arr 22)).setCell ⟨X, L, none⟩ (.slice (some ⟨w1.heap.size, 0, none⟩) 0 65536)).drew).frozen? ⟨k, j, none⟩ = w1.frozen? ⟨k, j, none⟩ := by
    intro k j h1
    simp only [World.frozen?_drew, World.frozen?_setCell]
    rw [World.frozen?_alloc_old _ _ _ (by show k ≠ _; omega)]
  have hb : ∀ k, k < w1.heap.size → k ≠ X → (((w1.alloc (.cells arr 22)).setCell ⟨X, L, none⟩ (.slice (some ⟨w1.heap.size, 0, none⟩) 0 65536)).drew).heap[k]? = w1.heap[k]? := by
    intro k h1 h2
    show ((w1.alloc _).setCell _ _).heap[k]? = _
    rw [Below.heap_setCell _ _ _ _ h2, Below.heap_alloc _ _ _ h1]
  refine ⟨(ho PS 0 lP (.inl hPX)).trans h.p0, (ho PS 1 lP (.inl hPX)).trans h.p1, fun j a b => (ho PS j lP (.inl hPX)).trans (h.pj j a b), fun j => (hf PS j lP).trans (h.pf j), ?_, (ho Y L lY (.inl (Ne.symm h.hXY))).trans h.y0, (hf X L lX).trans h.fx, (hf Y L lY).trans h.fy, fun i hi => (ho X i lX (.inr (by omega))).trans (h.xs i hi), fun i hi => (ho Y i lY (.inl (Ne.symm h.hXY))).trans (h.ys i hi), ?_, ?_, ?_, h.hX, h.hY, h.hXY, ?_, ?_, ?_, h.wX, h.wY, h.wP, ?_, h.os, h.tape, h.output, ?_⟩
  · simp only [World.cell?_drew]
    exact World.cell?_setCell_same _ _ _ ((World.cell?_alloc_lt _ _ _ lX).trans h.x0)
  · refine ⟨by simp, .inr ⟨w1.heap.size, 65536, arr, rfl, by omega, ?_, by omega, by simp [maxLen], by omega, by simp⟩⟩
    show ((w1.alloc _).setCell _ _).heap[w1.heap.size]? = _
    rw [Below.heap_setCell _ _ _ _ (by show w1.heap.size ≠ X; omega), heap_alloc_new]
  · have := h.ow.lt
    obtain ⟨h1, h2⟩ := h.ow
    refine ⟨h1, ?_⟩
    rcases h2 with h2 | ⟨g, cap, cur, rfl, hbb, hg, h3⟩
    · exact .inl h2
    · have hgX : g ≠ X := by intro e; subst e; exact h.wX rfl
      exact .inr ⟨g, cap, cur, rfl, hbb, (hb g (this g rfl).2 hgX).trans hg, h3⟩
  · intro k hk h1 h2 h3
    by_cases hkX : k = X
    · rcases h.hX with e | e
      · exact absurd (hkX.trans e) h2
      · omega
    · rw [hb k (by omega) hkX]; exact h.block k hk h1 h2 h3
  · simp [Value.ownBlock]; omega
  · simp [Value.ownBlock]; omega
  · simp [Value.ownBlock]; omega
  · intro k hk
    have hk' : k = w1.heap.size := by simpa [Value.ownBlock, eq_comm] using hk
    intro e; have := h.ow.lt _ e; omega
  · simp; omega

theorem Blk_w {w w1 : World} {PS TB WB L base X Y C1 C2 : Nat} {tv wv : Value} (h : Blk w w1 PS TB WB L base X Y C1 C2 tv wv) (hPX : PS ≠ X) (hPY : PS ≠ Y) (hbase : base ≤ w.heap.size) (arr : Array Value) (harr : arr.size = 65536 * 2) :
    Blk w (((w1.alloc (.cells arr 29)).setCell ⟨Y, L, none⟩ (.slice (some ⟨w1.heap.size, 0, none⟩) 0 65536)).drew) PS TB WB L base X Y C1 C2 tv (.slice (some ⟨w1.heap.size, 0, none⟩) 0 65536) := by
  have lX : X < w1.heap.size := World.block_lt_of_cell? w1 _ h.x0
  have lY : Y < w1.heap.size := World.block_lt_of_cell? w1 _ h.y0
  have lP : PS < w1.heap.size := World.block_lt_of_cell? w1 _ h.p0
  have sz := h.size
  have ho : ∀ k j, k < w1.heap.size → (k ≠ Y ∨ j ≠ L) → (((w1.alloc (.cells arr 29)).setCell ⟨Y, L, none⟩ (.slice (some ⟨w1.heap.size, 0, none⟩) 0 65536)).drew).cell? ⟨k, j, none⟩ = w1.cell? ⟨k, j, none⟩ := by
    intro k j h1 h2
    simp only [World.cell?_drew]
    rw [World.cell?_setCell_other _ _ _ _ (by intro e; cases e; rcases h2 with h2 | h2 <;> exact h2 rfl), World.cell?_alloc_lt _ _ _ (by exact h1)]
  have hf : ∀ k j, k < w1.heap.size → (((w1.alloc (.cells arr 29)).setCell ⟨Y, L, none⟩ (.slice (some ⟨w1.heap.size, 0, none⟩) 0 65536)).drew).frozen? ⟨k, j, none⟩ = w1.frozen? ⟨k, j, none⟩ := by
    intro k j h1
    simp only [World.frozen?_drew, World.frozen?_setCell]
    rw [World.frozen?_alloc_old _ _ _ (by show k ≠ _; omega)]
  have hb : ∀ k, k < w1.heap.size → k ≠ Y → (((w1.alloc (.cells arr 29)).setCell ⟨Y, L, none⟩ (.slice (some ⟨w1.heap.size, 0, none⟩) 0 65536)).drew).heap[k]? = w1.heap[k]? := by
    intro k h1 h2
    show ((w1.alloc _).setCell _ _).heap[k]? = _
    rw [Below.heap_setCell _ _ _ _ h2, Below.heap_alloc _ _ _ h1]
  refine ⟨(ho PS 0 lP (.inl hPY)).trans h.p0, (ho PS 1 lP (.inl hPY)).trans h.p1, fun j a b => (ho PS j lP (.inl hPY)).trans (h.pj j a b), fun j => (hf PS j lP).trans (h.pf j), (ho X L lX (.inl h.hXY)).trans h.x0, ?_, (hf X L lX).trans h.fx, (hf Y L lY).trans h.fy, fun i hi => (ho X i lX (.inl h.hXY)).trans (h.xs i hi), fun i hi => (ho Y i lY (.inr (by omega))).trans (h.ys i hi), ?_, ?_, ?_, h.hX, h.hY, h.hXY, h.tX, h.tY, h.tP, ?_, ?_, ?_, ?_, h.os, h.tape, h.output, ?_⟩
  · simp only [World.cell?_drew]
    exact World.cell?_setCell_same _ _ _ ((World.cell?_alloc_lt _ _ _ lY).trans h.y0)
  · have := h.ot.lt
    obtain ⟨h1, h2⟩ := h.ot
    refine ⟨h1, ?_⟩
    rcases h2 with h2 | ⟨g, cap, cur, rfl, hbb, hg, h3⟩
    · exact .inl h2
    · have hgX : g ≠ Y := by intro e; subst e; exact h.tY rfl
      exact .inr ⟨g, cap, cur, rfl, hbb, (hb g (this g rfl).2 hgX).trans hg, h3⟩
  · refine ⟨by simp, .inr ⟨w1.heap.size, 65536, arr, rfl, by omega, ?_, by omega, by simp [maxLen], by omega, by simp⟩⟩
    show ((w1.alloc _).setCell _ _).heap[w1.heap.size]? = _
    rw [Below.heap_setCell _ _ _ _ (by show w1.heap.size ≠ Y; omega), heap_alloc_new]
  · intro k hk h1 h2 h3
    by_cases hkX : k = Y
    · rcases h.hY with e | e
      · exact absurd (hkX.trans e) h3
      · omega
    · rw [hb k (by omega) hkX]; exact h.block k hk h1 h2 h3
  · simp [Value.ownBlock]; omega
  · simp [Value.ownBlock]; omega
  · simp [Value.ownBlock]; omega
  · intro k hk
    have := h.ot.lt _ hk
    simp [Value.ownBlock]; omega
  · simp; omega

set_option maxRecDepth 1000000 in
set_option maxHeartbeats 4000000 in
theorem block9 (PS TB WB L base X Y C1 C2 tc wq : Nat) (ta wa : Option Addr) (w w1 : World) (R : Ending → World → Prop) {u1 u2 u4 u5 u6 u7 u8 u9 u10 u11 u12 u13 u14 u15 u16 u17 u18 u19 u20 u21 u22 u23 u24 u25 u26 u27 u28 u29 u30 u31 u32 u33 u34 u35 u36 u37 u38 u39 u40 u41 u42 u43 u44 u45 u46 u47 u48 u49 u50 u51 u52 u53 u54 u55 u56 u57 u58 u59 u60 u61 u62 u63 u64 u65 u66 u67 u68 u69 u70 u71 u72 u73 u74 u75 u76 u77 u78 u79 u80 u81 u82 u83 u84 u85 u86 u87 u88 u89 u90 u91 u92 u93 u94 u95 u96 u97 u98 u99 u100 u101 u102 u103 u104 u105 u106 u107 u108 u109 u110 u111 u112 u113 u114 u115 u116 u117 u118 u119 u120 u121 u122 u123 u124 u125 u126 u127 u128 u129 u130 u131 u132 u133 u134 u135 : Value}
    (h : Blk w w1 PS TB WB L base X Y C1 C2 (.slice ta 0 tc) (.slice wa 0 wq)) (hPX : PS ≠ X) (hPY : PS ≠ Y) (hL : L ≤ 65536) (hbase : base ≤ w.heap.size)
    (hR : ∀ w' tv wv, Blk w w' PS TB WB L base X Y C1 C2 tv wv → (∀ k, tv.ownBlock = some k → (Value.slice ta 0 tc).ownBlock = some k ∨ w.heap.size ≤ k) → (∀ k, wv.ownBlock = some k → (Value.slice wa 0 wq).ownBlock = some k ∨ w.heap.size ≤ k) → R (.returned (.int .i64 (L : Int))) w') :
    Code.wp Ybaf.prog ((Ybaf.f11.body.map (tailAt 9)).getD .skip) (bodyPost Ybaf.prog Ybaf.f11 R) ⟨#[.pointer (some ⟨PS, 0, none⟩), u1, u2, .int .i64 (L : Int), u4, u5, u6, u7, u8, u9, u10, u11, u12, u13, u14, u15, u16, u17, u18, u19, u20, u21, u22, u23, u24, u25, u26, u27, u28, u29, u30, u31, u32, u33, u34, u35, u36, u37, u38, u39, u40, u41, u42, u43, u44, u45, u46, u47, u48, u49, u50, u51, u52, u53, u54, u55, u56, u57, u58, u59, u60, u61, u62, u63, u64, u65, u66, u67, u68, u69, u70, u71, u72, u73, u74, u75, u76, u77, u78, u79, u80, u81, u82, u83, u84, u85, u86, u87, u88, u89, u90, u91, u92, u93, u94, u95, u96, u97, u98, u99, u100, u101, u102, u103, u104, u105, u106, u107, u108, u109, u110, u111, u112, u113, u114, u115, u116, u117, u118, u119, u120, u121, u122, u123, u124, u125, u126, u127, u128, u129, u130, u131, u132, u133, u134, u135], []⟩ w1 := by
  conv => arg 2; whnf
  dsimp only
  have p0 := h.p0
  have p1 := h.p1
  have x0 := h.x0
  have y0 := h.y0
  have fx := h.fx
  have fy := h.fy
  have hb0 : (0 : Int) ≤ (L : Int) := Int.natCast_nonneg _
  have hb1 : (L : Int) < ((L + 1 : Nat) : Int) := by omega
  by_cases hc : 0 < L ∧ tc = 0
  · obtain ⟨hc1, rfl⟩ := hc
    have hd : (0 : Int) < (L : Int) := by omega
    obtain ⟨arr, harr, hmk⟩ := mk26
    obtain ⟨arr2, harr2, hmk2⟩ := mk27
    have HB := Blk_t h hPX hPY hbase arr harr
    have HB2 : Hid (Blk w (((w1.alloc (.cells arr 22)).setCell ⟨X, L, none⟩ (.slice (some ⟨w1.heap.size, 0, none⟩) 0 65536)).drew) PS TB WB L base X Y C1 C2 (.slice (some ⟨w1.heap.size, 0, none⟩) 0 65536) (.slice wa 0 wq)) := HB
    have HR : Hid (∀ w' tv wv, Blk w w' PS TB WB L base X Y C1 C2 tv wv → (∀ k, tv.ownBlock = some k → (Value.slice ta 0 0).ownBlock = some k ∨ w.heap.size ≤ k) → (∀ k, wv.ownBlock = some k → (Value.slice wa 0 wq).ownBlock = some k ∨ w.heap.size ≤ k) → R (.returned (.int .i64 (L : Int))) w') := hR
    have hsz := h.size
    have lX : X < w1.heap.size := World.block_lt_of_cell? w1 _ x0
    have lP : PS < w1.heap.size := World.block_lt_of_cell? w1 _ p0
    have a1 : ∀ o, (w1.alloc o).cell? ⟨X, L, none⟩ = some (.slice ta 0 0) := fun o => (World.cell?_alloc_lt _ _ _ lX).trans x0
    have a2 : ∀ o, (w1.alloc o).frozen? ⟨X, L, none⟩ = false := fun o => by rw [World.frozen?_alloc_old _ _ _ (by show X ≠ _; omega)]; exact fx
    have a3 : ∀ o, (w1.alloc o).cell? ⟨PS, 0, none⟩ = some (.slice (some ⟨X, 0, none⟩) (L + 1) C1) := fun o => (World.cell?_alloc_lt _ _ _ lP).trans p0
    clear HB hR h
    go_upto_region 10 with fail
    go_cut [3] (fun s wd => s = .int .i64 (L : Int) ∧ wd = ((w1.alloc (.cells arr 22)).setCell ⟨X, L, none⟩ (.slice (some ⟨w1.heap.size, 0, none⟩) 0 65536)).drew)
    case first =>
      go_region
      all_goals (go_wp2; go_meet)
      all_goals exact ⟨rfl, by rw [World.setCell_alloc_past (hn := lX)]⟩
    case rest =>
      obtain ⟨rfl, hwd⟩ := hcut
      have HB3 : Blk w wc PS TB WB L base X Y C1 C2 (.slice (some ⟨w1.heap.size, 0, none⟩) 0 65536) (.slice wa 0 wq) := by rw [hwd]; exact HB2.out
      clear hwd HB2 p0 p1 x0 y0 fx fy a1 a2 a3
      have p1 := HB3.p1
      have y0 := HB3.y0
      have fy := HB3.fy
      have lY : Y < wc.heap.size := World.block_lt_of_cell? wc _ y0
      have lP1 : PS < wc.heap.size := World.block_lt_of_cell? wc _ p1
      have a1 : ∀ o, (wc.alloc o).cell? ⟨Y, L, none⟩ = some (.slice wa 0 wq) := fun o => (World.cell?_alloc_lt _ _ _ lY).trans y0
      have a2 : ∀ o, (wc.alloc o).frozen? ⟨Y, L, none⟩ = false := fun o => by rw [World.frozen?_alloc_old _ _ _ (by show Y ≠ _; omega)]; exact fy
      have a3 : ∀ o, (wc.alloc o).cell? ⟨PS, 1, none⟩ = some (.slice (some ⟨Y, 0, none⟩) (L + 1) C2) := fun o => (World.cell?_alloc_lt _ _ _ lP1).trans p1
      have HB4 := Blk_w HB3 hPX hPY hbase arr2 harr2
      have hsz3 := HB3.size
      have HF := HR.out _ _ _ HB4 (fun k hk => by cases hk; right; omega) (fun k hk => by cases hk; right; omega)
      have HF' : Hid (R (.returned (.int .i64 (L : Int))) (((wc.alloc (.cells arr2 29)).setCell ⟨Y, L, none⟩ (.slice (some ⟨wc.heap.size, 0, none⟩) 0 65536)).drew)) := HF
      clear HF HB4 HB3 HR
      go_upto_region 11 with fail
      go_region
      all_goals go_wp2
      all_goals (have HF2 := HF'.out; rw [World.setCell_alloc_past (hn := lY)] at HF2; exact HF2)
  · have HF := hR _ _ _ h (fun k hk => .inl hk) (fun k hk => .inl hk)
    have HF' : Hid (R (.returned (.int .i64 (L : Int))) w1) := HF
    clear HF hR h
    by_cases hL0 : 0 < L
    · have ht : ((tc : Int) == 0) = false := by simp; omega
      have hd : (0 : Int) < (L : Int) := by omega
      go_wp2
      exact HF'.out
    · have hd : ¬ (0 : Int) < (L : Int) := by omega
      have hd2 : decide ((0 : Int) < (L : Int)) = false := decide_eq_false hd
      go_wp2
      exact HF'.out
end Go.Proofs.YbulkfslyFmt
