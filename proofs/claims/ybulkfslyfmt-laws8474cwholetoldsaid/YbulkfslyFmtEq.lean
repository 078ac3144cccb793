import Derived.Test.YbulkfslyFmtRows
import Derived.WalkKit
import Derived.WalkLawsBesides
import Derived.WalkSpells
import Derived.BigRegion
import Derived.BigQuiet
import Derived.Deep.QuietTactic
import Derived.Deep.RegionHeld3
import Derived.Deep.LoopGhost
import Derived.Deep.DeepCutAuto
import Derived.Deep.Light
import Derived.Deep.AppendLies
import Derived.Maps.AppendAt
namespace Go.Proofs.YbulkfslyFmt
open Go.RowKit
set_option linter.unusedVariables false
set_option linter.unusedSimpArgs false

theorem orMap {a b c d : Prop} (h : a ∨ b) (f : a → c) (g : b → d) : c ∨ d := h.elim (fun x => .inl (f x)) (fun x => .inr (g x))
theorem exMap {α : Type} {p q : α → Prop} (h : ∃ x, p x) (f : ∀ x, p x → q x) : ∃ x, q x := by
  obtain ⟨x, hx⟩ := h
  exact ⟨x, f x hx⟩
theorem run_bits (m : Nat) (w : World) : (callFunc 14 #[.float .f64 m]).run Ybaf.prog w = .ok (.value (.int .u64 m)) w := by kernel_rfl
theorem info22 : (Ybaf.prog.info? 22).map (fun i => (i.zero, i.size, i.bytes)) = some (some (.float .f64 0), 1, 8) := by kernel_rfl
theorem info29 : (Ybaf.prog.info? 29).map (fun i => (i.zero, i.size, i.bytes)) = some (some (.agg #[.int .i64 0, .int .i64 0]), 2, 16) := by kernel_rfl
theorem info26 : (Ybaf.prog.info? 26).map (fun i => (i.zero, i.size, i.bytes)) = some (some (.slice none 0 0), 1, 24) := by kernel_rfl
theorem info27 : (Ybaf.prog.info? 27).map (fun i => (i.zero, i.size, i.bytes)) = some (some (.slice none 0 0), 1, 24) := by kernel_rfl

set_option maxRecDepth 100000 in
set_option maxHeartbeats 1000000 in
theorem eqf (a b : Option Addr) (x y n ca cb : Nat) (f : Nat → Nat) (w : World) (hn : n ≤ 65537) (hA : 0 < n → a = some ⟨x, 0, none⟩) (hB : 0 < n → b = some ⟨y, 0, none⟩)
    (cA : ∀ j, j < n → w.cell? ⟨x, j, none⟩ = some (.float .f64 (f j))) (cB : ∀ j, j < n → w.cell? ⟨y, j, none⟩ = some (.float .f64 (f j))) :
    Calls Ybaf.prog 8 #[.slice a n ca, .slice b n cb] w fun e w' => e = .returned (.bool true) ∧ ∃ k, w' = w.drewN k := by
  have hll : ((n : Int) != (n : Int)) = false := by simp
  have hbits := run_bits
  go_enter Ybaf.func8, Ybaf.ntmps8
  go_wp2_with fail
  go_loopg [5] n (fun g i wr => ∃ k : Nat, k + g = n ∧ i = .int .i64 k ∧ ∃ q, wr = w.drewN q)
  case atStart => exact ⟨0, by omega, rfl, 0, rfl⟩
  case round =>
    obtain ⟨k, hk, rfl, q, rfl⟩ := hrel
    by_cases hlt : k < n
    · obtain rfl := hA (by omega)
      obtain rfl := hB (by omega)
      have c1 := cA k hlt
      have c2 := cB k hlt
      have hklt : (k : Int) < (n : Int) := by omega
      have hk0 : (0 : Int) ≤ (k : Int) := by omega
      have hff : ((f k : Int) != (f k : Int)) = false := by simp
      clear cA cB hA hB
      go_wp2_with fail
      go_quiet (fail)
      go_wp2
      go_roundg (gk - 1)
      case measure => omega
      case rel => exact ⟨k + 1, by omega, by go_num, _, rfl⟩
    · go_wp2
      go_ret
      exact ⟨rfl, _, rfl⟩

set_option maxRecDepth 100000 in
set_option maxHeartbeats 1000000 in
theorem eqw (a b : Option Addr) (x y n ca cb : Nat) (f g : Nat → Int) (w : World) (hn : n ≤ 65537) (hA : 0 < n → a = some ⟨x, 0, none⟩) (hB : 0 < n → b = some ⟨y, 0, none⟩)
    (cA : ∀ j, j < n → w.cell? ⟨x, j * 2, none⟩ = some (.int .i64 (f j)) ∧ w.cell? ⟨x, j * 2 + 1, none⟩ = some (.int .i64 (g j)))
    (cB : ∀ j, j < n → w.cell? ⟨y, j * 2, none⟩ = some (.int .i64 (f j)) ∧ w.cell? ⟨y, j * 2 + 1, none⟩ = some (.int .i64 (g j))) :
    Calls Ybaf.prog 9 #[.slice a n ca, .slice b n cb] w fun e w' => e = .returned (.bool true) ∧ ∃ k, w' = w.drewN k := by
  have hll : ((n : Int) != (n : Int)) = false := by simp
  go_enter Ybaf.func9, Ybaf.ntmps9
  go_wp2_with fail
  go_loopg [5] n (fun g i wr => ∃ k : Nat, k + g = n ∧ i = .int .i64 k ∧ ∃ q, wr = w.drewN q)
  case atStart => exact ⟨0, by omega, rfl, 0, rfl⟩
  case round =>
    obtain ⟨k, hk, rfl, q, rfl⟩ := hrel
    by_cases hlt : k < n
    · obtain rfl := hA (by omega)
      obtain rfl := hB (by omega)
      obtain ⟨c1, c3⟩ := cA k hlt
      obtain ⟨c2, c4⟩ := cB k hlt
      have hklt : (k : Int) < (n : Int) := by omega
      have hk0 : (0 : Int) ≤ (k : Int) := by omega
      have e1 : (f k == f k) = true := by simp
      have e2 : (g k == g k) = true := by simp
      clear cA cB hA hB
      go_wp2_with fail
      go_quiet (fail)
      go_wp2
      go_roundg (gk - 1)
      case measure => omega
      case rel => exact ⟨k + 1, by omega, by go_num, _, rfl⟩
    · go_wp2
      go_ret
      exact ⟨rfl, _, rfl⟩
end Go.Proofs.YbulkfslyFmt
