import Derived.Test.YbulkftysCu
namespace Go.Proofs.Ybulkftys
open Go.RowKit
set_option linter.unusedVariables false
set_option linter.unusedSimpArgs false

/-- The larger of the two, up to k. -/
def mx (fv fw : Nat → Int) (k : Nat) : Nat → Int := fun i => if i < k then (if fv i < fw i then fw i else fv i) else fv i

theorem mx_zero (fv fw : Nat → Int) : mx fv fw 0 = fv := by funext i; simp [mx]

/-- w1 is w but for block g. -/
structure Turned (w w1 : World) (g : Nat) : Prop where
  os : w1.os = w.os
  tape : w1.tape = w.tape
  output : w1.output = w.output
  size : w1.heap.size = w.heap.size
  block : ∀ k, k ≠ g → w1.heap[k]? = w.heap[k]?
theorem Turned.refl (w : World) (g : Nat) : Turned w w g := ⟨rfl, rfl, rfl, rfl, fun _ _ => rfl⟩
theorem Turned.setCell {w w1 : World} {g : Nat} (h : Turned w w1 g) (o : Nat) (v : Value) : Turned w (w1.setCell ⟨g, o, none⟩ v) g :=
  ⟨h.os, h.tape, h.output, by simp [World.setCell, h.size], fun k h1 => (Below.heap_setCell _ _ _ _ (by exact h1)).trans (h.block k h1)⟩
theorem Turned.below {w w1 : World} {g B : Nat} (h : Turned w w1 g) (hg : B ≤ g) : Below B w w1 := ⟨h.os, h.tape, h.output, Nat.le_of_eq h.size.symm, fun k hk => h.block k (by omega)⟩
theorem U1.turned {w w' : World} {g b off n : Nat} {f : Nat → Int} (h : U1 w b off n f) (ht : Turned w w' g) (hb : 0 < n → b ≠ g) : U1 w' b off n f :=
  fun i hi => (World.cell?_of_block (a := ⟨b, off + i, none⟩) (ht.block b (hb (by omega)))).trans (h i hi)

set_option maxRecDepth 100000 in
set_option maxHeartbeats 1000000 in
theorem raise_ (w : World) (g n c : Nat) (wa : Option Addr) (wb wo m wc : Nat) (fv fw : Nat → Int) (hmn : m ≤ n) (hn : n ≤ 1048576) (hw : 0 < m → wa = some ⟨wb, wo, none⟩ ∧ wb ≠ g) (hu : U1 w wb wo m fw) (hr : Row w g n fv) :
    Calls Yba.prog 15 #[.slice (some ⟨g, 0, none⟩) n c, .slice wa m wc] w fun e w' => e = .returned (.tuple #[]) ∧ Row w' g n (mx fv fw m) ∧ Turned w w' g := by
  go_enter Yba.func15, Yba.ntmps15
  go_wp2_with fail
  go_loopg [8] m (fun q i wr => ∃ k : Nat, k + q = m ∧ i = .int .i64 k ∧ Row wr g n (mx fv fw k) ∧ Turned w wr g)
  case atStart => exact ⟨0, by omega, rfl, by rw [mx_zero]; exact hr, Turned.refl _ _⟩
  case round =>
    obtain ⟨k, hk, rfl, hrow, ht⟩ := hrel
    by_cases hlt : k < m
    · obtain ⟨rfl, hne⟩ := hw (by omega)
      have c1 := (hu.turned ht (fun _ => hne)) k hlt
      obtain ⟨c2, c3⟩ := hrow.cell (show k < n by omega)
      have e1 : mx fv fw k k = fv k := by simp [mx]
      rw [e1] at c2
      have hklt : (k : Int) < (m : Int) := by omega
      have hkn : (k : Int) < (n : Int) := by omega
      have hk0 : (0 : Int) ≤ (k : Int) := by omega
      by_cases hmx : fv k < fw k
      · have R := hrow.set (show k < n by omega) (fw k) (mx fv fw (k + 1)) (by simp [mx, hmx]) (fun i hi => by
          have e : (i < k + 1) = (i < k) := by apply propext; omega
          simp only [mx, e])
        have T := ht.setCell k (.int .u64 (fw k))
        have hmx2 : ¬ fw k < fv k := by omega
        have hmx3 : ¬ fw k ≤ fv k := by omega
        have hmx4 : fv k ≤ fw k := by omega
        clear hu hr hw hrow ht
        go_wp2_with fail
        all_goals first
          | (exfalso; omega)
          | skip
        go_roundg (gk - 1)
        case measure => omega
        case rel => exact ⟨k + 1, by omega, by go_num, R, T⟩
      · have R := hrow.set (show k < n by omega) (fv k) (mx fv fw (k + 1)) (by simp [mx, hmx]) (fun i hi => by
          have e : (i < k + 1) = (i < k) := by apply propext; omega
          simp only [mx, e])
        have T := ht.setCell k (.int .u64 (fv k))
        have hmx3 : fw k ≤ fv k := by omega
        clear hu hr hw hrow ht
        by_cases heq : fw k < fv k
        · go_wp2_with fail
          all_goals first
            | (exfalso; omega)
            | skip
          go_roundg (gk - 1)
          case measure => omega
          case rel => exact ⟨k + 1, by omega, by go_num, R, T⟩
        · have e2 : fw k = fv k := by omega
          rw [e2] at c1
          clear hmx hmx3 heq e2
          go_wp2_with fail
          all_goals first
            | (exfalso; omega)
            | skip
          go_roundg (gk - 1)
          case measure => omega
          case rel => exact ⟨k + 1, by omega, by go_num, R, T⟩
    · have : k = m := by omega
      subst this
      go_wp2_with fail
      go_end0
      exact ⟨rfl, hrow, ht⟩
end Go.Proofs.Ybulkftys
