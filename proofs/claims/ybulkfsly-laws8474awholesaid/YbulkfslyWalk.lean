import Derived.Test.YbulkfslyPart2
namespace Go.Proofs.Ybulkfsly
open Go.RowKit
attribute [local go_sem] run_store_float

set_option maxRecDepth 100000 in
set_option maxHeartbeats 2000000 in
theorem law_small (a : Option Addr) (b off len cap : Nat) (fF fT : Nat → Int) (fM fU : Nat → Nat) (w : World) (hb : 0 < len → a = some ⟨b, off, none⟩ ∧ b < w.heap.size) (hlen : len ≤ 4096)
    (hnil : a = none → len = 0)
    (hc : C4 w b off len fF fT fM fU) :
    Calls Yba.prog 3 #[.slice a len cap] w fun e w' => e = .returned (.bool true) ∧ Below w.heap.size w w' := by
  have hmk := run_mk len hlen
  have hbig : ¬ (4096 : Int) < (len : Int) := by omega
  go_enter Yba.func3, Yba.ntmps3
  go_upto_if 22 with fail
  go_cut [3] (fun s3 wc => ∃ (sa : Option Addr) (SB : Nat), s3 = .slice sa len len ∧ (0 < len → sa = some ⟨SB, 0, none⟩ ∧ SB < wc.heap.size) ∧ C4 wc SB 0 len fF fT fM fU ∧ Below w.heap.size w wc)
  case first =>
    cases a with
    | none =>
      obtain rfl := hnil rfl
      go_wp2
      go_meet
      case rel => exact ⟨none, 0, rfl, fun h => by omega, fun j hj => by omega, Below.refl _ _⟩
    | some ad =>
    go_wp2
    go_loopg [28] len (fun g i wr => ∃ k : Nat, k + g = len ∧ i = .int .i64 k ∧ RowL wr w.heap.size len k fF fT fM fU ∧ Below w.heap.size w wr)
    case atStart => exact ⟨0, by omega, rfl, row_start _ _ _ _ _ _, (Below.refl _ _).alloc (Nat.le_refl _) _⟩
    case round =>
      obtain ⟨k, hk, rfl, hrow, hbel⟩ := hrel
      by_cases hlt : k < len
      · obtain ⟨e, hbw⟩ := hb (by omega)
        cases e
        obtain ⟨d0, d1, d2, d3⟩ := hc.below hbel hbw k hlt
        obtain ⟨⟨x0, y0⟩, z0⟩ := row_cell hrow (i := k * 4) (by omega)
        obtain ⟨⟨x1, y1⟩, z1⟩ := row_cell hrow (i := k * 4 + 1) (by omega)
        obtain ⟨⟨x2, y2⟩, z2⟩ := row_cell hrow (i := k * 4 + 2) (by omega)
        obtain ⟨⟨x3, y3⟩, z3⟩ := row_cell hrow (i := k * 4 + 3) (by omega)
        have R1 := row_step hrow hlt
        have R2 := put4_below hbel (Nat.le_refl _) (k * 4) (.int .i64 (fF k)) (.int .i64 (fT k)) (.float .f64 (fM k)) (.float .f64 (fU k))
        have hklt : (k : Int) < (len : Int) := by omega
        have hk0 : (0 : Int) ≤ (k : Int) := by omega
        clear hrow hbel hc hb hnil
        go_wp2
        go_region
        all_goals go_wp2
        go_roundg (gk - 1)
        case measure => omega
        case rel => exact ⟨k + 1, by omega, by go_num, R1, R2.drew⟩
      · have : k = len := by omega
        subst this
        go_wp2
        go_meet
        case rel => exact ⟨some ⟨w.heap.size, 0, none⟩, w.heap.size, rfl, fun _ => ⟨rfl, row_lt hrow⟩, hrow.2, hbel⟩
  case rest =>
    obtain ⟨sa, SB, rfl, hsa, hc4, hbel⟩ := hcut
    refine (‹∀ (a : Act) (w : World), Code.wp _ _ _ a w → _› _ _ ?_)
    exact part2 w sa SB len fF fT fM fU hlen wc hsa hc4 hbel

set_option maxRecDepth 100000 in
theorem law_big (a : Option Addr) (len cap : Nat) (w : World) (hlen : ¬ len ≤ 4096) :
    Calls Yba.prog 3 #[.slice a len cap] w fun e w' => e = .returned (.bool true) ∧ Below w.heap.size w w' := by
  have hbig : (4096 : Int) < (len : Int) := by omega
  go_enter Yba.func3, Yba.ntmps3
  go_wp2
  go_ret
  exact ⟨rfl, Below.refl _ _⟩
end Go.Proofs.Ybulkfsly
