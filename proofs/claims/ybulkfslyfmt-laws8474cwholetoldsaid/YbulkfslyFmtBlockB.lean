import Derived.Test.YbulkfslyFmtBlk
namespace Go.Proofs.YbulkfslyFmt
open Go.RowKit
set_option linter.unusedVariables false
set_option linter.unusedSimpArgs false

set_option maxRecDepth 1000000 in
set_option maxHeartbeats 4000000 in
theorem blockB (PS TB WB L C x y n' c' base : Nat) (fs0 gs0 : List Value) (w : World) (p0 : w.cell? ⟨PS, 0, none⟩ = some (.slice (some ⟨TB, 0, none⟩) L C)) (p1 : w.cell? ⟨PS, 1, none⟩ = some (.slice (some ⟨WB, 0, none⟩) L C))
    (z0 : w.frozen? ⟨PS, 0, none⟩ = false) (z1 : w.frozen? ⟨PS, 1, none⟩ = false)
    (hfull : ∀ l, L = l + 1 → ∃ a c, w.cell? ⟨TB, l, none⟩ = some (.slice a 65536 c)) (hC : L < C) (hCC : C ≤ 200000) (hLL : L ≤ 65536)
    (x0 : w.cell? ⟨TB, L, none⟩ = some (.slice (some ⟨x, 0, none⟩) n' c')) (y0 : w.cell? ⟨WB, L, none⟩ = some (.slice (some ⟨y, 0, none⟩) n' c')) (fx : w.frozen? ⟨TB, L, none⟩ = false) (fy : w.frozen? ⟨WB, L, none⟩ = false)
    (hPT : PS ≠ TB) (hPW : PS ≠ WB) (hTW : TB ≠ WB)
    (ob : w.ownsRow base 22 1 (.slice (some ⟨x, 0, none⟩) n' c') n' fs0) (oc : w.ownsRow base 29 2 (.slice (some ⟨y, 0, none⟩) n' c') n' gs0) (hbase : base ≤ w.heap.size)
    (xP : x ≠ PS) (xT : x ≠ TB) (xW : x ≠ WB) (yP : y ≠ PS) (yT : y ≠ TB) (yW : y ≠ WB) (xy : x ≠ y) :
    Calls Ybaf.prog 11 #[.pointer (some ⟨PS, 0, none⟩)] w fun e w' => e = .returned (.int .i64 (L : Int)) ∧ ∃ tv wv, Blk w w' PS TB WB L base TB WB C C tv wv ∧ (∀ k, tv.ownBlock = some k → k = x ∨ w.heap.size ≤ k) ∧ (∀ k, wv.ownBlock = some k → k = y ∨ w.heap.size ≤ k) := by
  have h2 : (0 : Int) ≤ (L : Int) := by omega
  have h3 : (L : Int) < (C : Int) := by omega
  have h4 : (L : Int) + 1 ≤ (C : Int) := by omega
  have h5 : (0 : Int) ≤ (L : Int) + 1 := by omega
  go_enter Ybaf.func11, Ybaf.ntmps11
  go_upto_region 2 with fail
  go_cut [22] (fun s wc => s = .bool false ∧ wc = w)
  case first =>
    cases L with
    | zero =>
      have h7 : decide ((0 : Int) ≤ ((0 : Nat) : Int) - 1) = false := by decide
      go_wp2
      go_meet
      case rel => exact ⟨rfl, rfl⟩
    | succ l =>
      obtain ⟨fa, fc, hf⟩ := hfull l rfl
      have h7 : ((l + 1 : Nat) : Int) - 1 = (l : Int) := by omega
      have h8 : (0 : Int) ≤ (l : Int) := by omega
      have h9 : (l : Int) < ((l + 1 : Nat) : Int) := by omega
      go_wp2
      go_meet
      case rel => exact ⟨rfl, rfl⟩
  case rest =>
    obtain ⟨rfl, hww⟩ := hcut
    have hww' : w = wc := hww.symm
    subst hww'
    clear hww
    have h6 : (L : Int) - 1 + 1 = (L : Int) := by omega
    go_upto_if 41 with fail
    go_cut [3] (fun s wq => s = .int .i64 (L : Int) ∧ Blk w wq PS TB WB L base TB WB C C (.slice (some ⟨x, 0, none⟩) 0 c') (.slice (some ⟨y, 0, none⟩) 0 c'))
    case first =>
      go_upto_region 6 with fail
      go_cut [3] (fun s wq => s = .int .i64 (L : Int) ∧ R6 w wq PS TB WB L C)
      case first =>
        go_region
        all_goals (go_wp2; go_meet)
        case rel => exact ⟨rfl, R6_of p0 p1⟩
      case rest =>
        obtain ⟨rfl, h6r⟩ := hcut
        have k0 := h6r.p0
        have k1 := h6r.p1
        have k2 : wc.cell? ⟨TB, L, none⟩ = some (.slice (some ⟨x, 0, none⟩) n' c') := (World.cell?_of_block (a := ⟨TB, L, none⟩) (h6r.block TB (Ne.symm hPT))).trans x0
        have k3 : wc.cell? ⟨WB, L, none⟩ = some (.slice (some ⟨y, 0, none⟩) n' c') := (World.cell?_of_block (a := ⟨WB, L, none⟩) (h6r.block WB (Ne.symm hPW))).trans y0
        have k4 : wc.frozen? ⟨TB, L, none⟩ = false := (World.frozen?_of_block (a := ⟨TB, L, none⟩) (h6r.block TB (Ne.symm hPT))).trans fx
        have k5 : wc.frozen? ⟨WB, L, none⟩ = false := (World.frozen?_of_block (a := ⟨WB, L, none⟩) (h6r.block WB (Ne.symm hPW))).trans fy
        have k6 : (L : Int) < ((L + 1 : Nat) : Int) := by omega
        have HB := Blk_of h6r ob oc k2 k3 k4 k5 hPT hPW hTW xP xT xW yP yT yW xy
        have HB' : Hid (Blk w (((wc.setCell ⟨TB, L, none⟩ (.slice (some ⟨x, 0, none⟩) 0 c')).setCell ⟨WB, L, none⟩ (.slice (some ⟨y, 0, none⟩) 0 c')).drew) PS TB WB L base TB WB C C (.slice (some ⟨x, 0, none⟩) 0 c') (.slice (some ⟨y, 0, none⟩) 0 c')) := HB
        clear HB h6r p0 p1 z0 z1 x0 y0 fx fy ob oc
        go_upto_region 7 with fail
        go_region
        all_goals (go_wp2; go_meet)
        case rel => exact ⟨rfl, HB'.out⟩
    case rest =>
      obtain ⟨rfl, hblk⟩ := hcut
      refine (‹∀ (a : Act) (w : World), Code.wp _ _ _ a w → _› _ _ ?_)
      refine block9 PS TB WB L base TB WB C C c' c' (some ⟨x, 0, none⟩) (some ⟨y, 0, none⟩) w wc _ hblk hPT hPW (by omega) hbase ?_
      intro w' tv wv hb' h1 h2
      exact ⟨rfl, tv, wv, hb', fun k hk => orMap (h1 k hk) (fun e => by simpa [Value.ownBlock, eq_comm] using e) id, fun k hk => orMap (h2 k hk) (fun e => by simpa [Value.ownBlock, eq_comm] using e) id⟩
end Go.Proofs.YbulkfslyFmt
