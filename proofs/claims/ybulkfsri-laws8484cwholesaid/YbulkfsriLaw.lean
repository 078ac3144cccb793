import Derived.Test.YbulkfsriP10
namespace Go.Proofs.Ybulkfsri
open Go.RowKit
set_option linter.unusedVariables false

set_option maxRecDepth 1000000 in
set_option maxHeartbeats 4000000 in
theorem law_small (a ah : Option Addr) (b off len cap hb hoff hl hcap : Nat) (fF fI fS fR fH : Nat → Int) (ro at_ sent lease : Int) (W : World) (hlen : len + hl ≤ 1048576) (ha0 : 0 < len → a = some ⟨b, off, none⟩) (hah : 0 < hl → ah = some ⟨hb, hoff, none⟩) (hnb : 0 < len → b < W.heap.size) (hnh : 0 < hl → hb < W.heap.size)
    (hna : a = none → len = 0) (hnil : ah = none → hl = 0) (hsrc : C4 W b off len fF fI fS fR) (hhs : H1 W hb hoff hl fH) :
    Calls Yba.prog 3 #[.slice a len cap, .int .u64 ro, .slice ah hl hcap, .int .i64 at_, .int .i64 sent, .int .i64 lease] W fun e w' => e = .returned (.bool true) ∧ Below W.heap.size W w' := by
  have hmk := run_mk len (by omega)
  have hbig : ¬ (1048576 : Int) < (len : Int) + (hl : Int) := by omega
  have hwr : wrap64 ((len : Int) + (hl : Int)) = (len : Int) + (hl : Int) := by unfold wrap64; omega
  go_enter Yba.func3, Yba.ntmps3
  go_upto_if 27 with fail
  go_cut [13] (fun s wc => ∃ (sa : Option Addr) (SB : Nat), s = .slice sa len len ∧ (0 < len → sa = some ⟨SB, 0, none⟩) ∧ (0 < len → SB < wc.heap.size) ∧ W.heap.size ≤ SB ∧ SB ≠ wc.heap.size ∧ (0 < len → RowL wc SB len len fF fI fS fR) ∧ Below W.heap.size W wc)
  case first =>
    cases a with
    | none =>
      obtain rfl := hna rfl
      go_wp2
      go_meet
      case rel => exact ⟨none, W.heap.size + 1, rfl, fun h => by omega, fun h => by omega, by omega, by omega, fun h => by omega, Below.refl _ _⟩
    | some ad =>
    go_wp2
    go_loopg [14] len (fun g i wr => ∃ k : Nat, k + g = len ∧ i = .int .i64 k ∧ RowL wr W.heap.size len k fF fI fS fR ∧ Below W.heap.size W wr)
    case atStart => exact ⟨0, by omega, rfl, row_start _ _ _ _ _ _, (Below.refl _ _).alloc (Nat.le_refl _) _⟩
    case round =>
      obtain ⟨k, hk, rfl, hrow, hbel⟩ := hrel
      by_cases hlt : k < len
      · have e := ha0 (by omega)
        cases e
        obtain ⟨d0, d1, d2, d3⟩ := hsrc.below hbel (hnb (by omega)) k hlt
        obtain ⟨⟨x0, y0⟩, z0⟩ := row_cell hrow (i := k * 4) (by omega)
        obtain ⟨⟨x1, y1⟩, z1⟩ := row_cell hrow (i := k * 4 + 1) (by omega)
        obtain ⟨⟨x2, y2⟩, z2⟩ := row_cell hrow (i := k * 4 + 2) (by omega)
        obtain ⟨⟨x3, y3⟩, z3⟩ := row_cell hrow (i := k * 4 + 3) (by omega)
        have R1 := row_step hrow hlt
        have R2 := put4_below hbel (Nat.le_refl _) (k * 4) (.int .i64 (fF k)) (.int .u64 (fI k)) (.int .u64 (fS k)) (.int .u64 (fR k))
        have hklt : (k : Int) < (len : Int) := by omega
        have hk0 : (0 : Int) ≤ (k : Int) := by omega
        clear hrow hbel hsrc hhs ha0 hah hnb hnh hna hnil
        go_wp2
        go_region
        all_goals go_wp2
        go_roundg (gk - 1)
        case measure => omega
        case rel => exact ⟨k + 1, by omega, by go_num, R1, R2.drew⟩
      · have : k = len := by omega
        subst this
        go_wp2
        go_meet
        case rel => exact ⟨some ⟨W.heap.size, 0, none⟩, W.heap.size, rfl, fun _ => rfl, fun _ => row_lt hrow, Nat.le_refl _, Nat.ne_of_lt (row_lt hrow), fun _ => hrow, hbel⟩
  case rest =>
    obtain ⟨sa, SB, rfl, hwa, hsb, hsW, hsne, hrow, hbel⟩ := hcut
    refine (‹∀ (a : Act) (w : World), Code.wp _ _ _ a w → _› _ _ ?_)
    refine part10 W wc a ah sa b off SB len cap hb hoff hl hcap fF fI fS fR fH ro at_ sent lease (by omega) (by omega) ha0 hah hwa hnb hnh hsW hsb hsne hnil ?_ hrow ?_ hbel
    · intro j hj
      exact hsrc.below hbel (hnb (by omega)) j hj
    · intro j hj
      exact (hbel.cell (by exact hnh (by omega))).trans (hhs j hj)

set_option maxRecDepth 100000 in
theorem law_big (a ah : Option Addr) (len cap hl hcap : Nat) (ro at_ sent lease : Int) (W : World) (hlen : ¬ len + hl ≤ 1048576) (hfit : len + hl < 2 ^ 62) :
    Calls Yba.prog 3 #[.slice a len cap, .int .u64 ro, .slice ah hl hcap, .int .i64 at_, .int .i64 sent, .int .i64 lease] W fun e w' => e = .returned (.bool true) ∧ Below W.heap.size W w' := by
  have hbig : (1048576 : Int) < (len : Int) + (hl : Int) := by omega
  have hwr : wrap64 ((len : Int) + (hl : Int)) = (len : Int) + (hl : Int) := by unfold wrap64; omega
  go_enter Yba.func3, Yba.ntmps3
  go_wp2
  go_ret
  exact ⟨rfl, Below.refl _ _⟩
end Go.Proofs.Ybulkfsri
