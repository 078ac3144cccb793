import Derived.Test.YbulkfslyFmtL1
namespace Go.Proofs.YbulkfslyFmt
open Go.RowKit
set_option linter.unusedVariables false
set_option linter.unusedSimpArgs false
attribute [local go_sem] run_store_float

set_option maxRecDepth 1000000 in
set_option maxHeartbeats 4000000 in
theorem law_small (va ha : Option Addr) (vb vo hbk ho n m vc hc t : Nat) (e v cnt room lim : Int) (sd fb : Bool) (f h : Nat → Nat) (sa : Addr) (st : ByteArray) (w : World)
    (hva : 0 < n → va = some ⟨vb, vo, none⟩ ∧ vb < w.heap.size) (hvc : ∀ j, j < n → w.cell? ⟨vb, vo + j, none⟩ = some (.int .u8 (f j : Int))) (hf : ∀ j, f j ≤ 255)
    (hha : 0 < m → ha = some ⟨hbk, ho, none⟩ ∧ hbk < w.heap.size) (hhc : ∀ j, j < m → w.cell? ⟨hbk, ho + j, none⟩ = some (.int .u8 (h j : Int))) (hh : ∀ j, h j ≤ 255)
    (hg0 : w.cell? ⟨0, 0, none⟩ = some (.iface 66 (.pointer (some sa)))) (hgs : w.cell? sa = some (.string st)) (hsa : sa.block < w.heap.size) (h00 : 0 < w.heap.size) (hn : n ≤ 65536) (hm : m ≤ 65536) :
    Calls Ybaf.prog 3 #[.float .f64 t, .int .i64 e, .int .i64 v, .int .i64 cnt, .int .i64 room, .int .i64 lim, .bool sd, .slice va n vc, .bool fb, .slice ha m hc] w fun e w' => e = .returned (.bool true) ∧ Below w.heap.size w w' := by
  have m24 := mk24 (n + m) (by omega)
  have m25 := mk25 (n + m) (by omega)
  rw [show ((n + m : Nat) : Int) = (n : Int) + (m : Int) by omega] at m24 m25
  have hn1 : ¬ (65536 : Int) < (n : Int) := by omega
  have hm1 : ¬ (65536 : Int) < (m : Int) := by omega
  have hst := Bld.start w (n + m) (lenF fb n f h) (capF fb n f h)
  have Hst : Hid (Bld _ w.heap.size (n + m) 0 0 0 (lenF fb n f h) (capF fb n f h)) := hst
  have H1 : Hid ((∀ j, j < n → w.cell? ⟨vb, vo + j, none⟩ = some (.int .u8 (f j : Int))) ∧ (∀ j, j < m → w.cell? ⟨hbk, ho + j, none⟩ = some (.int .u8 (h j : Int)))) := ⟨hvc, hhc⟩
  have H2 : Hid (w.cell? ⟨0, 0, none⟩ = some (.iface 66 (.pointer (some sa))) ∧ w.cell? sa = some (.string st)) := ⟨hg0, hgs⟩
  clear hst hvc hhc hg0 hgs
  go_enter Ybaf.func3, Ybaf.ntmps3
  go_upto_region 7 with fail
  go_cut [25] (fun s wq => s = .bool false ∧ wq = (w.alloc (.cells (madeCells zS (n + m)) 26)).alloc (.cells (madeCells zS (n + m)) 27))
  case first =>
    go_wp2
    go_meet
    case rel => exact ⟨rfl, rfl⟩
  case rest =>
  obtain ⟨rfl, rfl⟩ := hcut
  refine (‹∀ (a : Act) (w : World), Code.wp _ _ _ a w → _› _ _ ?_)
  exact partL1 w _ va ha vb vo w.heap.size n m vc hc fb f h t e v cnt room lim sd sa st hn hm H2.out.1 H2.out.2 hsa h00 hbk ho hha H1.out.2 hh hva H1.out.1 hf Hst.out (by simp) (((Below.refl _ _).alloc (Nat.le_refl _) _).alloc (by simp) _)

set_option maxRecDepth 1000000 in
set_option maxHeartbeats 4000000 in
theorem law_big (va ha : Option Addr) (n m vc hc t : Nat) (e v cnt room lim : Int) (sd fb : Bool) (w : World) (hb : ¬ (n ≤ 65536 ∧ m ≤ 65536)) :
    Calls Ybaf.prog 3 #[.float .f64 t, .int .i64 e, .int .i64 v, .int .i64 cnt, .int .i64 room, .int .i64 lim, .bool sd, .slice va n vc, .bool fb, .slice ha m hc] w fun e w' => e = .returned (.bool true) ∧ Below w.heap.size w w' := by
  by_cases hn : n ≤ 65536
  · have hn1 : ¬ (65536 : Int) < (n : Int) := by omega
    have hm1 : (65536 : Int) < (m : Int) := by omega
    clear hb
    go_enter Ybaf.func3, Ybaf.ntmps3
    go_wp2
    go_ret
    exact ⟨rfl, Below.refl _ _⟩
  · have hn1 : (65536 : Int) < (n : Int) := by omega
    clear hb
    go_enter Ybaf.func3, Ybaf.ntmps3
    go_wp2
    go_ret
    exact ⟨rfl, Below.refl _ _⟩
end Go.Proofs.YbulkfslyFmt
