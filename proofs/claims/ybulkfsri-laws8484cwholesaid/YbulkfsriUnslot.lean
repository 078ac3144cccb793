import Derived.Test.YbulkfsriRow
namespace Go.Proofs.Ybulkfsri
open Go.RowKit

/-- What unslotReads leaves. -/
structure Un (w w' : World) (SB G len hl : Nat) (ha : Option Addr) (fF fI : Nat → Int) : Prop where
  turned : Turned w w' SB G
  row : 0 < len → RowL w' SB len len fF fI (fun _ => 0) (fun _ => 0)
  other : ∀ i, i ≠ 54 → i ≠ 55 → w'.cell? ⟨G, i, none⟩ = w.cell? ⟨G, i, none⟩
  round : w'.cell? ⟨G, 54, none⟩ = some (.int .u64 0)
  heard : w'.cell? ⟨G, 55, none⟩ = some (.slice ha 0 hl)

/-- In the loop's round k. -/
structure Mid (w w' : World) (SB G len k : Nat) (fF fI fS fR : Nat → Int) : Prop where
  turned : Turned w w' SB G
  keep : w'.heap[G]? = w.heap[G]?
  row : 0 < len → RowL w' SB len len fF fI (zeroTo k fS) (zeroTo k fR)

theorem Mid.step {w w' : World} {SB G len k : Nat} {fF fI fS fR : Nat → Int} (h : Mid w w' SB G len k fF fI fS fR) (hk : k < len) (hne : SB ≠ G) :
    Mid w (put2 w' SB (k * 4) (.int .u64 0) (.int .u64 0)) SB G len (k + 1) fF fI fS fR := by
  refine ⟨(h.turned.setCell _ _ _ (.inl rfl)).setCell _ _ _ (.inl rfl), ?_, fun hl => row_zero (h.row hl) hk⟩
  rw [← h.keep]
  simp only [put2, World.setCell, Array.getElem?_modify]
  rw [if_neg hne, if_neg hne]

theorem zeroTo_none (f : Nat → Int) : zeroTo 0 f = f := by funext j; simp [zeroTo]

theorem zeroTo_all {w : World} {b n : Nat} {fF fI fS fR : Nat → Int} (h : RowL w b n n fF fI (zeroTo n fS) (zeroTo n fR)) : RowL w b n n fF fI (fun _ => 0) (fun _ => 0) := by
  refine ⟨h.1, fun j hj => ?_⟩
  have := h.2 j hj
  simpa [zeroTo, hj] using this

theorem RowL.other {w : World} {b n k : Nat} {fF fI fS fR : Nat → Int} (h : RowL w b n k fF fI fS fR) (g o : Nat) (v : Value) (hne : b ≠ g) : RowL (w.setCell ⟨g, o, none⟩ v) b n k fF fI fS fR := by
  have e : (w.setCell ⟨g, o, none⟩ v).heap[b]? = w.heap[b]? := by
    simp only [World.setCell, Array.getElem?_modify]
    rw [if_neg (Ne.symm hne)]
  obtain ⟨⟨arr, h1, h2⟩, h3⟩ := h
  refine ⟨⟨arr, e.trans h1, h2⟩, fun j hj => ?_⟩
  have := h3 j hj
  simp only [cell_block h1] at this
  simp only [cell_block (e.trans h1)]
  exact this

theorem Mid.done {w w' : World} {SB G len hl : Nat} {ha : Option Addr} {fF fI fS fR : Nat → Int} {arr : Array Value} (h : Mid w w' SB G len len fF fI fS fR) (hG : w.heap[G]? = some (.cells arr 80)) (hs : arr.size = 66) (hne : 0 < len → SB ≠ G) :
    Un w ((w'.setCell ⟨G, 54, none⟩ (.int .u64 0)).setCell ⟨G, 55, none⟩ (.slice ha 0 hl)) SB G len hl ha fF fI := by
  have hb : ((w'.setCell ⟨G, 54, none⟩ (.int .u64 0)).setCell ⟨G, 55, none⟩ (.slice ha 0 hl)).heap[G]? = some (.cells ((arr.setIfInBounds 54 (.int .u64 0)).setIfInBounds 55 (.slice ha 0 hl)) 80) := by
    simp only [World.setCell, Array.getElem?_modify, if_true, h.keep, hG, Option.map_some, Option.isSome_none, Bool.false_eq_true, if_false]
  refine ⟨(h.turned.setCell _ _ _ (.inr rfl)).setCell _ _ _ (.inr rfl), fun hp => ((zeroTo_all (h.row hp)).other _ _ _ (hne hp)).other _ _ _ (hne hp), fun i h1 h2 => ?_, ?_, ?_⟩
  · rw [cell_block hb, cell_block hG]
    simp only [Array.getElem?_setIfInBounds]
    rw [if_neg (Ne.symm h2), if_neg (Ne.symm h1)]
  · rw [cell_block hb]
    simp [hs]
  · rw [cell_block hb]
    simp [hs]

theorem Un.draw {w w' : World} {SB G len hl : Nat} {ha : Option Addr} {fF fI : Nat → Int} (h : Un w w' SB G len hl ha fF fI) : Un w w'.drew SB G len hl ha fF fI := ⟨⟨h.turned.os, h.turned.tape, h.turned.output, h.turned.size, h.turned.block⟩, h.row, h.other, h.round, h.heard⟩

set_option maxRecDepth 100000 in
set_option maxHeartbeats 1000000 in
theorem unslot (wa : Option Addr) (SB len : Nat) (ha : Option Addr) (hl G : Nat) (ro : Int) (fF fI fS fR : Nat → Int) (w : World) (hwa : 0 < len → wa = some ⟨SB, 0, none⟩ ∧ SB ≠ G) (hlen : len ≤ 1048576)
    (arr : Array Value) (hG : w.heap[G]? = some (.cells arr 80)) (hs : arr.size = 66)
    (g53 : w.cell? ⟨G, 53, none⟩ = some (.slice wa len len)) (g54 : w.cell? ⟨G, 54, none⟩ = some (.int .u64 ro)) (g55 : w.cell? ⟨G, 55, none⟩ = some (.slice ha hl hl))
    (hrow : 0 < len → RowL w SB len len fF fI fS fR) :
    Calls Yba.prog 4 #[.pointer (some ⟨G, 0, none⟩)] w fun e w' => e = .returned (.tuple #[]) ∧ Un w w' SB G len hl ha fF fI := by
  go_enter Yba.func4, Yba.ntmps4
  go_wp2
  go_loopw [10] (fun i wr => ∃ k : Nat, k ≤ len ∧ i = .int .i64 k ∧ Mid w wr SB G len k fF fI fS fR) (fun i _ => len - (intOf i).toNat)
  case atStart => exact ⟨0, Nat.zero_le _, rfl, Turned.refl _ _ _, rfl, fun h => by rw [zeroTo_none, zeroTo_none]; exact hrow h⟩
  case round =>
    obtain ⟨k, hk, rfl, hm⟩ := hrel
    have c53 : wr.cell? ⟨G, 53, none⟩ = some (.slice wa len len) := by rw [cell_block (hm.keep.trans hG)]; rw [cell_block hG] at g53; exact g53
    have c54 : wr.cell? ⟨G, 54, none⟩ = some (.int .u64 ro) := by rw [cell_block (hm.keep.trans hG)]; rw [cell_block hG] at g54; exact g54
    have c55 : wr.cell? ⟨G, 55, none⟩ = some (.slice ha hl hl) := by rw [cell_block (hm.keep.trans hG)]; rw [cell_block hG] at g55; exact g55
    have z4 : wr.frozen? ⟨G, 54, none⟩ = false := by simp [World.frozen?, hm.keep.trans hG]
    have z5 : wr.frozen? ⟨G, 55, none⟩ = false := by simp [World.frozen?, hm.keep.trans hG]
    by_cases hlt : k < len
    · obtain ⟨rfl, hne⟩ := hwa (by omega)
      obtain ⟨⟨x2, y2⟩, q2⟩ := row_cell (hm.row (by omega)) (i := k * 4 + 2) (by omega)
      obtain ⟨⟨x3, y3⟩, q3⟩ := row_cell (hm.row (by omega)) (i := k * 4 + 3) (by omega)
      have R := hm.step hlt hne
      have hklt : (k : Int) < (len : Int) := by omega
      have hk0 : (0 : Int) ≤ (k : Int) := by omega
      clear hrow hm hwa g53 g54 g55 hG
      go_wp2
      go_roundw
      case rel => exact ⟨k + 1, by omega, by go_num, R⟩
      case measure => simp [intOf]; omega
    · have : k = len := by omega
      subst this
      have R := hm.done (ha := ha) (hl := hl) hG hs (fun h => (hwa h).2)
      clear hm g53 g54 g55 hG hrow
      go_wp2
      go_region
      all_goals go_wp2
      all_goals go_end0
      all_goals exact ⟨rfl, R.draw⟩
end Go.Proofs.Ybulkfsri
