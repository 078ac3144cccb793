import Derived.Test.YbulkfslyParts
import Derived.WalkKit
import Derived.WalkLawsBesides
import Derived.WalkSpells
import Derived.BigRegion
import Derived.BigQuiet
import Derived.Deep.QuietTactic
import Derived.Deep.RegionHeld3
namespace Go.Proofs.Ybulkfsly
open Go.RowKit

theorem run_mm (w : World) (n : Int) : (Instr.makeMap 35 (some (.int .i64 n))).run Yba.prog w = .ok (.map (some w.heap.size)) (w.alloc (.map #[] 0)) := by
  simp [Instr.makeMap, go_sem]

theorem cell_block {w : World} {b : Nat} {c : Array Value} {t : TypeId} (h : w.heap[b]? = some (.cells c t)) (i : Nat) : w.cell? ⟨b, i, none⟩ = c[i]? := by
  simp [World.cell?, h]

/-- What NewRule leaves: below the old size nothing has turned; three blocks more: the map, an empty linksFrom, the rule. -/
structure NR (w w' : World) (SB G : Nat) (ms : List ((Int × Int) × Nat)) : Prop where
  below : Below w.heap.size w w'
  size : w'.heap.size = w.heap.size + 3
  map : MapIs w' w.heap.size SB ms
  from_ : w'.heap[w.heap.size + 1]? = some (.cells #[.int .u32 0, .int .i32 0, .int .u32 0, .slice none 0 0] 53)
  rule : w'.heap[w.heap.size + 1 + 1]? = some (.cells #[.pointer (some ⟨G, 0, none⟩), .map (some w.heap.size), .pointer (some ⟨w.heap.size + 1, 0, none⟩)] 38)

theorem NR_start (w : World) (SB G : Nat) : NR w (((w.alloc (.map #[] 0)).alloc (.cells #[.int .u32 0, .int .i32 0, .int .u32 0, .slice none 0 0] 53)).alloc
    (.cells #[.pointer (some ⟨G, 0, none⟩), .map (some w.heap.size), .pointer (some ⟨w.heap.size + 1, 0, none⟩)] 38)) SB G [] := by
  refine ⟨?_, by simp, ⟨#[], 0, ?_, rfl⟩, ?_, ?_⟩
  · exact (((Below.refl _ _).alloc (Nat.le_refl _) _).alloc (by simp) _).alloc (by simp; omega) _
  · rw [Below.heap_alloc _ _ _ (by simp; omega), Below.heap_alloc _ _ _ (by simp), heap_alloc_new]
  · rw [Below.heap_alloc _ _ _ (by simp)]
    have := heap_alloc_new (w.alloc (.map #[] 0)) (.cells #[.int .u32 0, .int .i32 0, .int .u32 0, .slice none 0 0] 53)
    simpa using this
  · have := heap_alloc_new ((w.alloc (.map #[] 0)).alloc (.cells #[.int .u32 0, .int .i32 0, .int .u32 0, .slice none 0 0] 53)) (.cells #[.pointer (some ⟨G, 0, none⟩), .map (some w.heap.size), .pointer (some ⟨w.heap.size + 1, 0, none⟩)] 38)
    simpa using this

theorem NR_step {w wr w1 : World} {SB G : Nat} {ms ms' : List ((Int × Int) × Nat)} (h : NR w wr SB G ms) (hm : MapIs w1 w.heap.size SB ms') (ht : Turned wr.drew w1 w.heap.size) : NR w w1 SB G ms' := by
  refine ⟨?_, ?_, hm, ?_, ?_⟩
  · refine h.below.trans ⟨ht.os, ht.tape, ht.output, Nat.le_of_eq ht.size.symm, fun k hk => ht.block k (by omega)⟩
  · rw [ht.size]; exact h.size
  · rw [ht.block _ (by omega)]; exact h.from_
  · rw [ht.block _ (by omega)]; exact h.rule

set_option maxRecDepth 100000 in
set_option maxHeartbeats 1000000 in
theorem newRule (a : Option Addr) (SB n G : Nat) (ks : Nat → Int × Int) (w : World) (hG : w.cell? ⟨G, 1, none⟩ = some (.slice a n n)) (ha : 0 < n → a = some ⟨SB, 0, none⟩) (hn : n ≤ 4096)
    (hf : ∀ j, j < n → w.cell? ⟨SB, j * 4, none⟩ = some (.int .i64 (ks j).1)) (ht : ∀ j, j < n → w.cell? ⟨SB, j * 4 + 1, none⟩ = some (.int .i64 (ks j).2)) :
    Calls Yba.prog 4 #[.pointer (some ⟨G, 0, none⟩)] w fun e w' => e = .returned (.pointer (some ⟨w.heap.size + 1 + 1, 0, none⟩)) ∧ NR w w' SB G (msTo ks n) := by
  have hmm := run_mm
  have hGlt : G < w.heap.size := World.block_lt_of_cell? w _ hG
  have hG' : ∀ o1 o2 o3, (((w.alloc o1).alloc o2).alloc o3).cell? ⟨G, 1, none⟩ = some (.slice a n n) := by
    intro o1 o2 o3
    rw [World.cell?_alloc_lt _ _ _ (by simp; omega), World.cell?_alloc_lt _ _ _ (by simp; omega), World.cell?_alloc_lt _ _ _ (by simpa using hGlt), hG]
  go_enter Yba.func4, Yba.ntmps4
  go_wp2
  go_loopw [22] (fun i wr => ∃ k : Nat, k ≤ n ∧ i = .int .i64 k ∧ NR w wr SB G (msTo ks k)) (fun i _ => n - (intOf i).toNat)
  case atStart => exact ⟨0, Nat.zero_le _, rfl, NR_start w SB G⟩
  case round =>
    obtain ⟨k, hk, rfl, hnr⟩ := hrel
    have hgr : wr.cell? ⟨G, 1, none⟩ = some (.slice a n n) := (hnr.below.cell (by exact hGlt)).trans hG
    by_cases hlt : k < n
    · obtain rfl := ha (by omega)
      have hSB : SB < w.heap.size := World.block_lt_of_cell? w _ (hf k hlt)
      have hcf : wr.cell? ⟨SB, k * 4, none⟩ = some (.int .i64 (ks k).1) := (hnr.below.cell (by exact hSB)).trans (hf k hlt)
      have hct : wr.cell? ⟨SB, k * 4 + 1, none⟩ = some (.int .i64 (ks k).2) := (hnr.below.cell (by exact hSB)).trans (ht k hlt)
      have hcm : wr.cell? ⟨w.heap.size + 1 + 1, 1, none⟩ = some (.map (some w.heap.size)) := by rw [cell_block hnr.rule]; rfl
      have hklt : (k : Int) < (n : Int) := by omega
      have hk0 : (0 : Int) ≤ (k : Int) := by omega
      obtain ⟨w1, hrun, hm1, htn⟩ := run_upd wr.drew w.heap.size SB (msTo ks k) (ks k) k hnr.map
      have hrun' : (Instr.mapUpdate 35 (.map (some w.heap.size)) (.agg #[.int .i64 (ks k).1, .int .i64 (ks k).2]) (.pointer (some ⟨SB, k * 4, none⟩))).run Yba.prog wr.drew = .ok () w1 := hrun
      have R := NR_step hnr hm1 htn
      clear hrun hm1 htn hnr hf ht hG hG' ha
      go_wp2
      go_region
      all_goals go_wp2
      all_goals go_roundw
      case rel => exact ⟨k + 1, by omega, by go_num, R⟩
      case measure => simp [intOf]; omega
    · have : k = n := by omega
      subst this
      go_wp2
      go_ret
      exact ⟨rfl, hnr⟩
end Go.Proofs.Ybulkfsly
