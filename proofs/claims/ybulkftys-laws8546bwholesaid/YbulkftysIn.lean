import Derived.Test.YbulkftysRec
namespace Go.Proofs.Ybulkftys
open Go.RowKit
set_option linter.unusedVariables false
set_option linter.unusedSimpArgs false

/-- The number of the first region of a piece of code. -/
def firstId : Code → Option Nat
  | .region i _ _ => some i
  | .seq a _ => firstId a
  | .block _ b => firstId b
  | .loop b => firstId b
  | .scope b => firstId b
  | _ => none
/-- What is left of a body from the statement on that opens with region 'id'. -/
def tailAt (id : Nat) : Code → Code
  | .seq a b => if firstId a == some id then .seq a b else tailAt id b
  | c => c
/-- The one statement that opens with region 'id', wherever it lies. -/
def stmtAt (id : Nat) : Code → Option Code
  | .seq a b => if firstId a == some id then some a else match stmtAt id a with
    | some c => some c
    | none => stmtAt id b
  | .cond _ a b => match stmtAt id a with
    | some c => some c
    | none => stmtAt id b
  | .block _ b => stmtAt id b
  | .loop b => stmtAt id b
  | _ => none
theorem wp_gen {P : Program} {a b : Code} {Q : Exit → Act → World → Prop} {act : Act} {w : World} (h : ∀ r : Code, (∀ (a' : Act) (w' : World), Code.wp P b Q a' w' → Code.wp P r Q a' w') → Code.wp P (.seq a r) Q act w) : Code.wp P (.seq a b) Q act w := h b (fun _ _ h => h)

/-- The parts' row, as it came. -/
structure Src (W w : World) (qb qo n : Nat) (mask : Nat → Int) (pa : Nat → Option Addr) (pc : Nat → Nat) (z : Nat → Bool) (es : Nat → Es) : Prop where
  m : ∀ i, i < n → w.cell? ⟨qb, qo + i * 2, none⟩ = some (.int .u16 (mask i))
  p : ∀ i, i < n → w.cell? ⟨qb, qo + i * 2 + 1, none⟩ = some (.slice (pa i) (es i).length (pc i))
  s : ∀ i, i < n → Ss w (fun b => b < W.heap.size) (.slice (pa i) (es i).length (pc i)) (z i) (es i)

theorem Src.below {W w w' : World} {qb qo n : Nat} {mask : Nat → Int} {pa : Nat → Option Addr} {pc : Nat → Nat} {z : Nat → Bool} {es : Nat → Es} (h : Src W w qb qo n mask pa pc z es) (hb : Below W.heap.size w w') (hq : 0 < n → qb < W.heap.size) : Src W w' qb qo n mask pa pc z es :=
  ⟨fun i hi => (hb.cell (by exact hq (by omega))).trans (h.m i hi), fun i hi => (hb.cell (by exact hq (by omega))).trans (h.p i hi), fun i hi => (h.s i hi).mono (fun k hk => hb.block k hk) (fun _ h => h)⟩

/-- Bit k of the mask. -/
def bitOf (m : Int) (k : Nat) : Bool := bits BinOp.and IntKind.u16 (m / 2 ^ k) 1 == 1

/-- The inner loop that lays a part's links: j of them laid. -/
structure Inn (w wr : World) (RB LB size j : Nat) (bit : Nat → Bool) (z : Bool) (es : Es) : Prop where
  os : wr.os = w.os
  tape : wr.tape = w.tape
  output : wr.output = w.output
  hsize : w.heap.size ≤ wr.heap.size
  block : ∀ b, b < w.heap.size → b ≠ RB → b ≠ LB → wr.heap[b]? = w.heap[b]?
  rrow : ∃ arr, wr.heap[RB]? = some (.cells arr 4) ∧ arr.size = size ∧ ∀ t, t < j → arr[t]? = some (.bool (bit t))
  lrow : ∃ (arr : Array Value) (lnk : Nat → Nat), wr.heap[LB]? = some (.cells arr 25) ∧ arr.size = size ∧ ∀ t, t < j → ∃ v lo hi, arr[t]? = some v ∧ Lk wr lo hi v z es ∧ w.heap.size ≤ lo ∧ lo ≤ hi ∧ hi ≤ wr.heap.size ∧ ∀ b, lo ≤ b → b < hi → lnk b = t

theorem Lk.form {w : World} {lo hi : Nat} {v : Value} {z : Bool} {es : Es} (h : Lk w lo hi v z es) : ∃ a n c, v = .slice a n c := by
  obtain ⟨us, ⟨_, ⟨h1, _⟩ | ⟨g, cap, cur, h1, _⟩⟩, _⟩ := h
  · exact ⟨_, _, _, h1⟩
  · exact ⟨_, _, _, h1⟩

theorem Inn.step {w wr w2 : World} {RB LB size j : Nat} {bit : Nat → Bool} {z : Bool} {es : Es} {v : Value} (h : Inn w wr RB LB size j bit z es) (hj : j < size) (hR : RB < w.heap.size) (hL : LB < w.heap.size) (hRL : RB ≠ LB)
    (hb : Below wr.heap.size (wr.setCell ⟨RB, j, none⟩ (.bool (bit j))) w2) (hv : Lk w2 wr.heap.size w2.heap.size v z es) : Inn w (w2.setCell ⟨LB, j, none⟩ v) RB LB size (j + 1) bit z es := by
  have hs := h.hsize
  have hs2 : wr.heap.size ≤ w2.heap.size := by have := hb.size; simpa [World.setCell] using this
  have hk : ∀ b, b < wr.heap.size → b ≠ RB → b ≠ LB → (w2.setCell ⟨LB, j, none⟩ v).heap[b]? = wr.heap[b]? := by
    intro b h1 h2 h3
    rw [Below.heap_setCell _ _ _ _ (by exact h3), hb.block b h1, Below.heap_setCell _ _ _ _ (by exact h2)]
  obtain ⟨ar, hr1, hr2, hr3⟩ := h.rrow
  obtain ⟨al, lnk, hl1, hl2, hl3⟩ := h.lrow
  have hR2 : (w2.setCell ⟨LB, j, none⟩ v).heap[RB]? = some (.cells (ar.setIfInBounds j (.bool (bit j))) 4) := by
    rw [Below.heap_setCell _ _ _ _ (by exact hRL), hb.block RB (by omega)]
    simp only [World.setCell, Array.getElem?_modify, if_true, hr1, Option.map_some, Option.isSome_none, Bool.false_eq_true, if_false]
  have hL1 : w2.heap[LB]? = some (.cells al 25) := by
    rw [hb.block LB (by omega), Below.heap_setCell _ _ _ _ (by exact Ne.symm hRL), hl1]
  have hL2 : (w2.setCell ⟨LB, j, none⟩ v).heap[LB]? = some (.cells (al.setIfInBounds j v) 25) := by
    simp only [World.setCell, Array.getElem?_modify, if_true, hL1, Option.map_some, Option.isSome_none, Bool.false_eq_true, if_false]
  have hsz : (w2.setCell ⟨LB, j, none⟩ v).heap.size = w2.heap.size := by simp [World.setCell]
  refine ⟨hb.os.trans h.os, hb.tape.trans h.tape, hb.output.trans h.output, by omega, fun b h1 h2 h3 => (hk b (by omega) h2 h3).trans (h.block b h1 h2 h3), ⟨_, hR2, by simp [hr2], fun t ht => ?_⟩, ⟨_, fun b => if b < wr.heap.size then lnk b else j, hL2, by simp [hl2], fun t ht => ?_⟩⟩
  · rw [Array.getElem?_setIfInBounds]
    by_cases e : j = t
    · subst e; simp [hr2, hj]
    · rw [if_neg e]; exact hr3 t (by omega)
  · rw [Array.getElem?_setIfInBounds]
    by_cases e : j = t
    · subst e
      refine ⟨v, wr.heap.size, w2.heap.size, by simp [hl2, hj], hv.mono (fun b h1 h2 => Below.heap_setCell _ _ _ _ (by show b ≠ LB; omega)), hs, hs2, by omega, fun b h1 h2 => ?_⟩
      show (if b < wr.heap.size then lnk b else j) = j
      rw [if_neg (by omega)]
    · rw [if_neg e]
      obtain ⟨v', lo, hi, h1, h2, h3, h4, h5, h6⟩ := hl3 t (by omega)
      refine ⟨v', lo, hi, h1, h2.mono (fun b h7 h8 => hk b (by omega) (by omega) (by omega)), h3, h4, by omega, fun b h7 h8 => ?_⟩
      show (if b < wr.heap.size then lnk b else j) = t
      rw [if_pos (by omega)]
      exact h6 b h7 h8
end Go.Proofs.Ybulkftys
