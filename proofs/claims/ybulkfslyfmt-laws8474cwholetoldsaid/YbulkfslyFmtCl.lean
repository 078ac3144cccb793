import Derived.Test.YbulkfslyFmtBld
import Derived.Test.YbulkfslyFmtAdd5
namespace Go.Proofs.YbulkfslyFmt
open Go.RowKit
set_option linter.unusedVariables false
set_option linter.unusedSimpArgs false

theorem owns_block {w w' : World} {base g l c : Nat} {e : TypeId} {size : Nat} {xs : List Value} (h : w.ownsRow base e size (.slice (some ⟨g, 0, none⟩) l c) l xs) (hb : w'.heap[g]? = w.heap[g]?) : w'.ownsRow base e size (.slice (some ⟨g, 0, none⟩) l c) l xs := by
  obtain ⟨h1, h2⟩ := h
  refine ⟨h1, ?_⟩
  rcases h2 with ⟨h2, _⟩ | ⟨g', cap, cur, hv, hg, hh, r⟩
  · cases h2
  · cases hv
    exact .inr ⟨g, c, cur, rfl, hg, hb.trans hh, r⟩

theorem owns_mono {w : World} {base base' : Nat} {e : TypeId} {size : Nat} {v : Value} {n : Nat} {xs : List Value} (h : w.ownsRow base e size v n xs) (hb : base' ≤ base) : w.ownsRow base' e size v n xs := by
  obtain ⟨h1, h2⟩ := h
  refine ⟨h1, ?_⟩
  rcases h2 with h2 | ⟨g', cap, cur, hv, hg, r⟩
  · exact .inl h2
  · exact .inr ⟨g', cap, cur, hv, Nat.le_trans hb hg, r⟩

/-- What stands while the clones are taken. -/
structure Cl (w : World) (N n m PS kt kw : Nat) (len cap : Nat → Nat) (xt xw : Nat → List Value) (cnt room lim : Int) (sd : Bool) : Prop where
  size : PS + 3 ≤ w.heap.size
  bld : Bld w N (n + m) (n + m) (n + m) (n + m) len cap
  ot : ∀ i, i < n + m → w.ownsRow N 22 1 (.slice (some ⟨N + 2 + 2 * i, 0, none⟩) (len i) (cap i)) (len i) (xt i)
  ow : ∀ i, i < n + m → w.ownsRow N 29 2 (.slice (some ⟨N + 3 + 2 * i, 0, none⟩) (len i) (cap i)) (len i) (xw i)
  p0 : w.cell? ⟨PS, 0, none⟩ = some (.slice (some ⟨N, 0, none⟩) n (n + m))
  p1 : w.cell? ⟨PS, 1, none⟩ = some (.slice (some ⟨N + 1, 0, none⟩) n (n + m))
  p2 : w.cell? ⟨PS, 2, none⟩ = some (.int .i64 cnt)
  p3 : w.cell? ⟨PS, 3, none⟩ = some (.int .i64 room)
  p4 : w.cell? ⟨PS, 4, none⟩ = some (.int .i64 lim)
  p5 : w.cell? ⟨PS, 5, none⟩ = some (.bool sd)
  pf : ∀ j, w.frozen? ⟨PS, j, none⟩ = false
  bt : BK anyV w (PS + 1) 26 n
  bw : BK anyV w (PS + 2) 27 n
  dt : ∀ i, i < kt → ∃ g c, w.cell? ⟨PS + 1, i, none⟩ = some (.slice (some ⟨g, 0, none⟩) (len i) c) ∧ w.ownsRow (PS + 3) 22 1 (.slice (some ⟨g, 0, none⟩) (len i) c) (len i) (xt i)
  dw : ∀ i, i < kw → ∃ g c, w.cell? ⟨PS + 2, i, none⟩ = some (.slice (some ⟨g, 0, none⟩) (len i) c) ∧ w.ownsRow (PS + 3) 29 2 (.slice (some ⟨g, 0, none⟩) (len i) c) (len i) (xw i)

section
variable {w w' : World} {N n m PS kt kw : Nat} {len cap : Nat → Nat} {xt xw : Nat → List Value} {cnt room lim : Int} {sd : Bool}

theorem owns_lt {w : World} {base g l c : Nat} {e : TypeId} {size : Nat} {xs : List Value} (h : w.ownsRow base e size (.slice (some ⟨g, 0, none⟩) l c) l xs) : base ≤ g ∧ g < w.heap.size := h.lt g rfl

theorem Cl.below {B : Nat} (h : Cl w N n m PS kt kw len cap xt xw cnt room lim sd) (hb : Below B w w') (hB : w.heap.size ≤ B) (hPS : PS = N + 2 + 2 * (n + m)) : Cl w' N n m PS kt kw len cap xt xw cnt room lim sd := by
  have hs := h.size
  have bl : ∀ k, k < w.heap.size → w'.heap[k]? = w.heap[k]? := fun k hk => hb.block k (by omega)
  have cl : ∀ k j, k < w.heap.size → w'.cell? ⟨k, j, none⟩ = w.cell? ⟨k, j, none⟩ := fun k j hk => hb.cell (p := ⟨k, j, none⟩) (by show k < B; omega)
  refine ⟨Nat.le_trans hs hb.size, h.bld.below hb (by have := h.bld.size; omega), fun i hi => owns_block (h.ot i hi) (bl _ (owns_lt (h.ot i hi)).2), fun i hi => owns_block (h.ow i hi) (bl _ (owns_lt (h.ow i hi)).2), (cl _ _ (by omega)).trans h.p0, (cl _ _ (by omega)).trans h.p1, (cl _ _ (by omega)).trans h.p2, (cl _ _ (by omega)).trans h.p3, (cl _ _ (by omega)).trans h.p4, (cl _ _ (by omega)).trans h.p5, fun j => (hb.frozen (p := ⟨PS, j, none⟩) (by show PS < B; omega)).trans (h.pf j), h.bt.below hb (by omega), h.bw.below hb (by omega), fun i hi => ?_, fun i hi => ?_⟩
  · obtain ⟨g, c, h1, h2⟩ := h.dt i hi
    exact ⟨g, c, (cl _ _ (by omega)).trans h1, owns_block h2 (bl _ (owns_lt h2).2)⟩
  · obtain ⟨g, c, h1, h2⟩ := h.dw i hi
    exact ⟨g, c, (cl _ _ (by omega)).trans h1, owns_block h2 (bl _ (owns_lt h2).2)⟩

theorem Cl.setBT (h : Cl w N n m PS kt kw len cap xt xw cnt room lim sd) (hPS : PS = N + 2 + 2 * (n + m)) (hk : kt < n) (g c : Nat) (ho : w.ownsRow (PS + 3) 22 1 (.slice (some ⟨g, 0, none⟩) (len kt) c) (len kt) (xt kt)) :
    Cl (w.setCell ⟨PS + 1, kt, none⟩ (.slice (some ⟨g, 0, none⟩) (len kt) c)) N n m PS (kt + 1) kw len cap xt xw cnt room lim sd := by
  have hs := h.size
  have bl : ∀ k, k ≠ PS + 1 → (w.setCell ⟨PS + 1, kt, none⟩ (.slice (some ⟨g, 0, none⟩) (len kt) c)).heap[k]? = w.heap[k]? := fun k hk => Below.heap_setCell _ _ _ _ hk
  have cl : ∀ k j, k ≠ PS + 1 → (w.setCell ⟨PS + 1, kt, none⟩ (.slice (some ⟨g, 0, none⟩) (len kt) c)).cell? ⟨k, j, none⟩ = w.cell? ⟨k, j, none⟩ := fun k j hk => World.cell?_setCell_other _ _ _ _ (by simp <;> omega)
  refine ⟨by simpa [World.setCell] using hs, h.bld.below (B := PS + 1) ((Below.refl _ _).setCell (p := ⟨PS + 1, kt, none⟩) (Nat.le_refl _) _) (by omega), fun i hi => owns_block (h.ot i hi) (bl _ (by omega)), fun i hi => owns_block (h.ow i hi) (bl _ (by omega)), (cl _ _ (by omega)).trans h.p0, (cl _ _ (by omega)).trans h.p1, (cl _ _ (by omega)).trans h.p2, (cl _ _ (by omega)).trans h.p3, (cl _ _ (by omega)).trans h.p4, (cl _ _ (by omega)).trans h.p5, fun j => by rw [World.frozen?_setCell]; exact h.pf j, h.bt.set _ _ trivial, h.bw.other (by omega), fun i hi => ?_, fun i hi => ?_⟩
  · by_cases e : i = kt
    · subst e
      exact ⟨g, c, h.bt.put hk _, owns_block ho (bl _ (by have := (owns_lt ho).1; omega))⟩
    · obtain ⟨g', c', h1, h2⟩ := h.dt i (by omega)
      exact ⟨g', c', (World.cell?_setCell_other _ _ _ _ (by simp <;> omega)).trans h1, owns_block h2 (bl _ (by have := (owns_lt h2).1; omega))⟩
  · obtain ⟨g', c', h1, h2⟩ := h.dw i hi
    exact ⟨g', c', (cl _ _ (by omega)).trans h1, owns_block h2 (bl _ (by have := (owns_lt h2).1; omega))⟩

theorem Cl.setBW (h : Cl w N n m PS kt kw len cap xt xw cnt room lim sd) (hPS : PS = N + 2 + 2 * (n + m)) (hk : kw < n) (g c : Nat) (ho : w.ownsRow (PS + 3) 29 2 (.slice (some ⟨g, 0, none⟩) (len kw) c) (len kw) (xw kw)) :
    Cl (w.setCell ⟨PS + 2, kw, none⟩ (.slice (some ⟨g, 0, none⟩) (len kw) c)) N n m PS kt (kw + 1) len cap xt xw cnt room lim sd := by
  have hs := h.size
  have bl : ∀ k, k ≠ PS + 2 → (w.setCell ⟨PS + 2, kw, none⟩ (.slice (some ⟨g, 0, none⟩) (len kw) c)).heap[k]? = w.heap[k]? := fun k hk => Below.heap_setCell _ _ _ _ hk
  have cl : ∀ k j, k ≠ PS + 2 → (w.setCell ⟨PS + 2, kw, none⟩ (.slice (some ⟨g, 0, none⟩) (len kw) c)).cell? ⟨k, j, none⟩ = w.cell? ⟨k, j, none⟩ := fun k j hk => World.cell?_setCell_other _ _ _ _ (by simp <;> omega)
  refine ⟨by simpa [World.setCell] using hs, h.bld.below (B := PS + 2) ((Below.refl _ _).setCell (p := ⟨PS + 2, kw, none⟩) (Nat.le_refl _) _) (by omega), fun i hi => owns_block (h.ot i hi) (bl _ (by omega)), fun i hi => owns_block (h.ow i hi) (bl _ (by omega)), (cl _ _ (by omega)).trans h.p0, (cl _ _ (by omega)).trans h.p1, (cl _ _ (by omega)).trans h.p2, (cl _ _ (by omega)).trans h.p3, (cl _ _ (by omega)).trans h.p4, (cl _ _ (by omega)).trans h.p5, fun j => by rw [World.frozen?_setCell]; exact h.pf j, h.bt.other (by omega), h.bw.set _ _ trivial, fun i hi => ?_, fun i hi => ?_⟩
  · obtain ⟨g', c', h1, h2⟩ := h.dt i hi
    exact ⟨g', c', (cl _ _ (by omega)).trans h1, owns_block h2 (bl _ (by have := (owns_lt h2).1; omega))⟩
  · by_cases e : i = kw
    · subst e
      exact ⟨g, c, h.bw.put hk _, owns_block ho (bl _ (by have := (owns_lt ho).1; omega))⟩
    · obtain ⟨g', c', h1, h2⟩ := h.dw i (by omega)
      exact ⟨g', c', (World.cell?_setCell_other _ _ _ _ (by simp <;> omega)).trans h1, owns_block h2 (bl _ (by have := (owns_lt h2).1; omega))⟩
end

/-- The rows as they stand when all have been laid. -/
def xtOf (w : World) (N : Nat) (len : Nat → Nat) (i : Nat) : List Value := cellsOf w (N + 2 + 2 * i) (len i * 1)
def xwOf (w : World) (N : Nat) (len : Nat → Nat) (i : Nat) : List Value := cellsOf w (N + 3 + 2 * i) (len i * 2)

theorem Cl.start {w : World} {N n m PS : Nat} {len cap : Nat → Nat} (cnt room lim : Int) (sd : Bool) (h : Bld w N (n + m) (n + m) (n + m) (n + m) len cap) (hs : w.heap.size = PS) (hPS : PS = N + 2 + 2 * (n + m)) (hlc : ∀ i, i < n + m → len i ≤ cap i ∧ cap i ≤ 200000) :
    Cl (((w.alloc (.cells #[.slice (some ⟨N, 0, none⟩) n (n + m), .slice (some ⟨N + 1, 0, none⟩) n (n + m), .int .i64 cnt, .int .i64 room, .int .i64 lim, .bool sd] 32)).alloc (.cells (madeCells zS n) 26)).alloc (.cells (madeCells zS n) 27)) N n m PS 0 0 len cap (xtOf w N len) (xwOf w N len) cnt room lim sd := by
  subst hs
  generalize hw1 : w.alloc (.cells #[.slice (some ⟨N, 0, none⟩) n (n + m), .slice (some ⟨N + 1, 0, none⟩) n (n + m), .int .i64 cnt, .int .i64 room, .int .i64 lim, .bool sd] 32) = w1
  have hs1 : w1.heap.size = w.heap.size + 1 := by rw [← hw1]; simp
  have b1 : Below w.heap.size w w1 := by rw [← hw1]; exact (Below.refl _ _).alloc (Nat.le_refl _) _
  have b2 : Below w.heap.size w ((w1.alloc (.cells (madeCells zS n) 26)).alloc (.cells (madeCells zS n) 27)) := (b1.alloc (by omega) _).alloc (by simp; omega) _
  have b3 : Below (w.heap.size + 1) w1 ((w1.alloc (.cells (madeCells zS n) 26)).alloc (.cells (madeCells zS n) 27)) := ((Below.refl _ _).alloc (by omega) _).alloc (by simp; omega) _
  have c1 : ∀ j, w1.cell? ⟨w.heap.size, j, none⟩ = (#[Value.slice (some ⟨N, 0, none⟩) n (n + m), .slice (some ⟨N + 1, 0, none⟩) n (n + m), .int .i64 cnt, .int .i64 room, .int .i64 lim, .bool sd] : Array Value)[j]? := fun j => by rw [← hw1]; exact World.cell?_alloc_new _ _ _ _
  have f1 : ∀ j, w1.frozen? ⟨w.heap.size, j, none⟩ = false := fun j => by
    have : w1.heap[w.heap.size]? = some (.cells #[Value.slice (some ⟨N, 0, none⟩) n (n + m), .slice (some ⟨N + 1, 0, none⟩) n (n + m), .int .i64 cnt, .int .i64 room, .int .i64 lim, .bool sd] 32) := by rw [← hw1]; exact heap_alloc_new _ _
    simp [World.frozen?, this]
  have n1 := (BK.new (q := anyV) w1 zS n 26 (by decide) (fun _ _ => trivial)).alloc (.cells (madeCells zS n) 27)
  have n2 := BK.new (q := anyV) (w1.alloc (.cells (madeCells zS n) 26)) zS n 27 (by decide) (fun _ _ => trivial)
  rw [World.size_alloc] at n2
  rw [hs1] at n1 n2
  clear hw1
  have cc : ∀ j, ((w1.alloc (.cells (madeCells zS n) 26)).alloc (.cells (madeCells zS n) 27)).cell? ⟨w.heap.size, j, none⟩ = w1.cell? ⟨w.heap.size, j, none⟩ := fun j => b3.cell (p := ⟨w.heap.size, j, none⟩) (by show w.heap.size < w.heap.size + 1; omega)
  refine ⟨by simp; omega, h.below b2 (by omega), fun i hi => ?_, fun i hi => ?_, by rw [cc, c1]; rfl, by rw [cc, c1]; rfl, by rw [cc, c1]; rfl, by rw [cc, c1]; rfl, by rw [cc, c1]; rfl, by rw [cc, c1]; rfl, fun j => ?_, n1, n2, fun i hi => by omega, fun i hi => by omega⟩
  · have hb := h.rt i hi
    rw [show cap i = cap i * 1 by omega] at hb
    exact owns_block (owns_mono (hb.owns (len i) (hlc i hi).1 (by have := (hlc i hi).2; unfold maxLen; omega)).1 (by omega)) (b2.block _ (by omega))
  · exact owns_block (owns_mono ((h.rw i hi).owns (len i) (hlc i hi).1 (by have := (hlc i hi).2; unfold maxLen; omega)).1 (by omega)) (b2.block _ (by omega))
  · rw [b3.frozen (p := ⟨w.heap.size, j, none⟩) (by show w.heap.size < w.heap.size + 1; omega)]; exact f1 j

theorem xtOf_isF {w : World} {N T r kt kw : Nat} {len cap : Nat → Nat} (h : Bld w N T r kt kw len cap) (i : Nat) (hi : i < r) : ∀ u ∈ xtOf w N len i, isF u := by
  obtain ⟨cur, h1, h2, h3⟩ := h.rt i hi
  intro u hu
  simp [xtOf, cellsOf, h1] at hu
  exact h3 u (List.mem_of_mem_take hu)
theorem xwOf_isI {w : World} {N T r kt kw : Nat} {len cap : Nat → Nat} (h : Bld w N T r kt kw len cap) (i : Nat) (hi : i < r) : ∀ u ∈ xwOf w N len i, isI u := by
  obtain ⟨cur, h1, h2, h3⟩ := h.rw i hi
  intro u hu
  simp [xwOf, cellsOf, h1] at hu
  exact h3 u (List.mem_of_mem_take hu)
end Go.Proofs.YbulkfslyFmt
