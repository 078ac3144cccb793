import Derived.Test.YbulkfslyFill
import Derived.Laws.CopyRow
namespace Go.Proofs.Ybulkfsly
open Go.RowKit

/-- What cell t of a row of links holds. -/
def cellAt (fF fT : Nat → Int) (fM fU : Nat → Nat) (t : Nat) : Value :=
  if t % 4 = 0 then .int .i64 (fF (t / 4)) else if t % 4 = 1 then .int .i64 (fT (t / 4)) else if t % 4 = 2 then .float .f64 (fM (t / 4)) else .float .f64 (fU (t / 4))
def cellsAll (fF fT : Nat → Int) (fM fU : Nat → Nat) (n : Nat) : List Value := (List.range (n * 4)).map (cellAt fF fT fM fU)

theorem cellAt_0 (fF fT : Nat → Int) (fM fU : Nat → Nat) (j : Nat) : cellAt fF fT fM fU (j * 4) = .int .i64 (fF j) := by
  have h1 : j * 4 % 4 = 0 := by omega
  have h2 : j * 4 / 4 = j := by omega
  simp only [cellAt, h1, h2, if_true]
theorem cellAt_1 (fF fT : Nat → Int) (fM fU : Nat → Nat) (j : Nat) : cellAt fF fT fM fU (j * 4 + 1) = .int .i64 (fT j) := by
  have h1 : (j * 4 + 1) % 4 = 1 := by omega
  have h2 : (j * 4 + 1) / 4 = j := by omega
  simp [cellAt, h1, h2]
theorem cellAt_2 (fF fT : Nat → Int) (fM fU : Nat → Nat) (j : Nat) : cellAt fF fT fM fU (j * 4 + 2) = .float .f64 (fM j) := by
  have h1 : (j * 4 + 2) % 4 = 2 := by omega
  have h2 : (j * 4 + 2) / 4 = j := by omega
  simp [cellAt, h1, h2]
theorem cellAt_3 (fF fT : Nat → Int) (fM fU : Nat → Nat) (j : Nat) : cellAt fF fT fM fU (j * 4 + 3) = .float .f64 (fU j) := by
  have h1 : (j * 4 + 3) % 4 = 3 := by omega
  have h2 : (j * 4 + 3) / 4 = j := by omega
  simp [cellAt, h1, h2]

theorem cellsAll_at (fF fT : Nat → Int) (fM fU : Nat → Nat) (n t : Nat) : (cellsAll fF fT fM fU n)[t]? = if t < n * 4 then some (cellAt fF fT fM fU t) else none := by
  simp only [cellsAll, List.getElem?_map]
  by_cases h : t < n * 4 <;> simp [h]

theorem C4_src {w : World} {b k : Nat} {fF fT : Nat → Int} {fM fU : Nat → Nat} (h : C4 w b 0 k fF fT fM fU) (t : Nat) (v : Value) (ht : (cellsAll fF fT fM fU k)[t]? = some v) : w.cell? ((⟨b, 0, none⟩ : Addr).add t) = some v := by
  rw [cellsAll_at] at ht
  split at ht
  case isFalse => cases ht
  case isTrue hlt =>
    simp only [Option.some.injEq] at ht
    subst ht
    have hadd : (⟨b, 0, none⟩ : Addr).add t = ⟨b, t, none⟩ := by unfold Addr.add; split <;> simp_all
    rw [hadd]
    obtain ⟨h0, h1, h2, h3⟩ := h (t / 4) (by omega)
    simp only [Nat.zero_add] at h0 h1 h2 h3
    have hc : t = t / 4 * 4 ∨ t = t / 4 * 4 + 1 ∨ t = t / 4 * 4 + 2 ∨ t = t / 4 * 4 + 3 := by omega
    rcases hc with e | e | e | e
    · rw [e, cellAt_0]; exact h0
    · rw [e, cellAt_1]; rw [← h1]
    · rw [e, cellAt_2]; exact h2
    · rw [e, cellAt_3]; exact h3

theorem run_copy4 (w : World) (g dCap : Nat) (a : Addr) (n sCap : Nat) (cur : Array Value) (cs : List Value) (hg : w.heap[g]? = some (.cells cur 27 (0, 0))) (hn : cs.length = n * 4)
    (hsrc : ∀ j v, cs[j]? = some v → w.cell? (a.add j) = some v) (hfit : cs.length ≤ cur.size) (h1 : ∀ v ∈ cs, v.oneCell' = true) :
    (Builtin.copy_ #[23, 23] 3 #[.slice (some ⟨g, 0, none⟩) n dCap, .slice (some a) n sCap]).run Yba.prog w = .ok (goInt n) (w.setRow g (cs ++ cur.toList.drop cs.length).toArray) := by
  have hl := run_loadCells_list (P := Yba.prog) w a cs hsrc
  have hst := run_storeCells_at Yba.prog g 0 27 cs 0 cur w hg (by simpa using hfit) h1
  obtain ⟨i, hi, hzz⟩ := Option.map_eq_some_iff.1 info27
  simp only [Prod.mk.injEq] at hzz
  have hs : i.size = 4 := hzz.2.1
  have hm : Nat.min n n = n := Nat.min_self n
  simp only [Nat.zero_add, List.take_zero, List.nil_append] at hst
  simp [Builtin.copy_, run_underlying Yba.underlying23, Builtin.lenOf, Builtin.firstCells, sizeOf, typeInfo, hi, hs, hm, ← hn, hl, hst]

theorem cellAt_one (fF fT : Nat → Int) (fM fU : Nat → Nat) (t : Nat) : (cellAt fF fT fM fU t).oneCell' = true := by
  unfold cellAt
  split
  · rfl
  · split
    · rfl
    · split <;> rfl

theorem copy_ok (wc : World) (sa : Option Addr) (SB len : Nat) (fF fT : Nat → Int) (fM fU : Nat → Nat) (hsa : 0 < len → sa = some ⟨SB, 0, none⟩ ∧ SB < wc.heap.size) (hc : C4 wc SB 0 len fF fT fM fU) :
    ∃ w2, (Builtin.copy_ #[23, 23] 3 #[.slice (some ⟨wc.heap.size, 0, none⟩) len len, .slice sa len len]).run Yba.prog (wc.alloc (.cells (madeCells #[.int .i64 0, .int .i64 0, .float .f64 0, .float .f64 0] (len * 4)) 27)) = .ok (.int .i64 len) w2 ∧
      C4 w2 wc.heap.size 0 len fF fT fM fU ∧ Below wc.heap.size wc w2 ∧ w2.heap.size = wc.heap.size + 1 := by
  rcases Nat.eq_zero_or_pos len with h0 | hp
  · subst h0
    refine ⟨wc.alloc (.cells (madeCells #[.int .i64 0, .int .i64 0, .float .f64 0, .float .f64 0] (0 * 4)) 27), ?_, fun j hj => by omega, (Below.refl _ _).alloc (Nat.le_refl _) _, by simp⟩
    obtain ⟨i, hi, hzz⟩ := Option.map_eq_some_iff.1 info27
    cases sa with
    | none => simp [Builtin.copy_, run_underlying Yba.underlying23, Builtin.lenOf, Builtin.firstCells, sizeOf, typeInfo, hi, storeCells, goInt]
    | some a => simp [Builtin.copy_, run_underlying Yba.underlying23, Builtin.lenOf, Builtin.firstCells, sizeOf, typeInfo, hi, storeCells, goInt, loadCells, loadCellsFrom]
  · obtain ⟨rfl, hlt⟩ := hsa hp
    have hb1 : Below wc.heap.size wc (wc.alloc (.cells (madeCells #[.int .i64 0, .int .i64 0, .float .f64 0, .float .f64 0] (len * 4)) 27)) := (Below.refl _ _).alloc (Nat.le_refl _) _
    have hg := heap_alloc_new wc (.cells (madeCells #[.int .i64 0, .int .i64 0, .float .f64 0, .float .f64 0] (len * 4)) 27)
    have hlen : (cellsAll fF fT fM fU len).length = len * 4 := by simp [cellsAll]
    have hr := run_copy4 _ wc.heap.size len ⟨SB, 0, none⟩ len len _ (cellsAll fF fT fM fU len) hg hlen (C4_src (hc.below hb1 hlt)) (by rw [hlen, size_madeCells]; exact Nat.le_refl _)
      (fun v hv => by simp only [cellsAll, List.mem_map] at hv; obtain ⟨t, _, rfl⟩ := hv; exact cellAt_one _ _ _ _ t)
    refine ⟨_, hr, fun j hj => ?_, hb1.trans ⟨rfl, rfl, rfl, by simp [World.setRow], fun k hk => ?_⟩, by simp [World.setRow]⟩
    · have hz := setRow_heap _ _ _ (cellsAll fF fT fM fU len ++ (madeCells #[.int .i64 0, .int .i64 0, .float .f64 0, .float .f64 0] (len * 4)).toList.drop (cellsAll fF fT fM fU len).length).toArray _ _ hg
      have hdrop : (madeCells #[.int .i64 0, .int .i64 0, .float .f64 0, .float .f64 0] (len * 4)).toList.drop (cellsAll fF fT fM fU len).length = [] := by
        apply List.drop_eq_nil_of_le
        rw [hlen]; simp [size_madeCells]
      rw [hdrop, List.append_nil] at hz ⊢
      simp only [cell_block hz, List.getElem?_toArray, cellsAll_at, Nat.zero_add]
      refine ⟨?_, ?_, ?_, ?_⟩
      · rw [if_pos (by omega), cellAt_0]
      · rw [if_pos (by omega), cellAt_1]
      · rw [if_pos (by omega), cellAt_2]
      · rw [if_pos (by omega), cellAt_3]
    · simp only [World.setRow, Array.getElem?_modify]
      rw [if_neg (by omega)]
end Go.Proofs.Ybulkfsly
