import Derived.Test.YbulkfslyFmtCl
namespace Go.Proofs.YbulkfslyFmt
open Go.RowKit
set_option linter.unusedVariables false
set_option linter.unusedSimpArgs false

/-- Two rows of times told at one place of two outer rows, equal. -/
def EqT (w : World) (X BT i : Nat) : Prop := ∃ (g g' l c c' : Nat) (f : Nat → Nat), w.cell? ⟨X, i, none⟩ = some (.slice (some ⟨g, 0, none⟩) l c) ∧ w.cell? ⟨BT, i, none⟩ = some (.slice (some ⟨g', 0, none⟩) l c') ∧ l ≤ 65537 ∧ (∀ j, j < l → w.cell? ⟨g, j, none⟩ = some (.float .f64 (f j))) ∧ ∀ j, j < l → w.cell? ⟨g', j, none⟩ = some (.float .f64 (f j))
def EqW (w : World) (X BT i : Nat) : Prop := ∃ (g g' l c c' : Nat) (f h : Nat → Int), w.cell? ⟨X, i, none⟩ = some (.slice (some ⟨g, 0, none⟩) l c) ∧ w.cell? ⟨BT, i, none⟩ = some (.slice (some ⟨g', 0, none⟩) l c') ∧ l ≤ 65537 ∧ (∀ j, j < l → w.cell? ⟨g, j * 2, none⟩ = some (.int .i64 (f j)) ∧ w.cell? ⟨g, j * 2 + 1, none⟩ = some (.int .i64 (h j))) ∧ ∀ j, j < l → w.cell? ⟨g', j * 2, none⟩ = some (.int .i64 (f j)) ∧ w.cell? ⟨g', j * 2 + 1, none⟩ = some (.int .i64 (h j))

def getF : Option Value → Nat
  | some (.float _ m) => m
  | _ => 0
def getI : Option Value → Int
  | some (.int _ x) => x
  | _ => 0

theorem ownsF {w : World} {base g l c : Nat} {xs : List Value} (h : w.ownsRow base 22 1 (.slice (some ⟨g, 0, none⟩) l c) l xs) (hq : ∀ u ∈ xs, isF u) : ∀ j, j < l → w.cell? ⟨g, j, none⟩ = some (.float .f64 (getF xs[j]?)) := by
  intro j hj
  have h1 := h.1
  rw [h.cellAt j (by omega)]
  have hlt : j < xs.length := by omega
  rw [List.getElem?_eq_getElem hlt]
  obtain ⟨m, hm⟩ := hq _ (List.getElem_mem hlt)
  rw [hm]
  rfl

theorem ownsI {w : World} {base g l c : Nat} {xs : List Value} (h : w.ownsRow base 29 2 (.slice (some ⟨g, 0, none⟩) l c) l xs) (hq : ∀ u ∈ xs, isI u) : ∀ j, j < l → w.cell? ⟨g, j * 2, none⟩ = some (.int .i64 (getI xs[j * 2]?)) ∧ w.cell? ⟨g, j * 2 + 1, none⟩ = some (.int .i64 (getI xs[j * 2 + 1]?)) := by
  intro j hj
  have h1 := h.1
  have e : ∀ k, k < xs.length → w.cell? ⟨g, k, none⟩ = some (.int .i64 (getI xs[k]?)) := by
    intro k hk
    rw [h.cellAt k (by omega), List.getElem?_eq_getElem hk]
    obtain ⟨m, hm⟩ := hq _ (List.getElem_mem hk)
    rw [hm]
    rfl
  exact ⟨e _ (by omega), e _ (by omega)⟩

theorem EqT.of {w : World} {X BT i g g' l c c' b b' : Nat} {xs : List Value} (h1 : w.cell? ⟨X, i, none⟩ = some (.slice (some ⟨g, 0, none⟩) l c)) (h2 : w.cell? ⟨BT, i, none⟩ = some (.slice (some ⟨g', 0, none⟩) l c')) (hl : l ≤ 65537)
    (o1 : w.ownsRow b 22 1 (.slice (some ⟨g, 0, none⟩) l c) l xs) (o2 : w.ownsRow b' 22 1 (.slice (some ⟨g', 0, none⟩) l c') l xs) (hq : ∀ u ∈ xs, isF u) : EqT w X BT i :=
  ⟨g, g', l, c, c', fun j => getF xs[j]?, h1, h2, hl, ownsF o1 hq, ownsF o2 hq⟩
theorem EqW.of {w : World} {X BT i g g' l c c' b b' : Nat} {xs : List Value} (h1 : w.cell? ⟨X, i, none⟩ = some (.slice (some ⟨g, 0, none⟩) l c)) (h2 : w.cell? ⟨BT, i, none⟩ = some (.slice (some ⟨g', 0, none⟩) l c')) (hl : l ≤ 65537)
    (o1 : w.ownsRow b 29 2 (.slice (some ⟨g, 0, none⟩) l c) l xs) (o2 : w.ownsRow b' 29 2 (.slice (some ⟨g', 0, none⟩) l c') l xs) (hq : ∀ u ∈ xs, isI u) : EqW w X BT i :=
  ⟨g, g', l, c, c', fun j => getI xs[j * 2]?, fun j => getI xs[j * 2 + 1]?, h1, h2, hl, ownsI o1 hq, ownsI o2 hq⟩

theorem EqT.call {w : World} {X BT i : Nat} (h : EqT w X BT i) : ∃ (g g' l c c' : Nat), w.cell? ⟨X, i, none⟩ = some (.slice (some ⟨g, 0, none⟩) l c) ∧ w.cell? ⟨BT, i, none⟩ = some (.slice (some ⟨g', 0, none⟩) l c') ∧
    ∀ q, Calls Ybaf.prog 8 #[.slice (some ⟨g, 0, none⟩) l c, .slice (some ⟨g', 0, none⟩) l c'] (w.drewN q) fun e w' => e = .returned (.bool true) ∧ ∃ k, w' = (w.drewN q).drewN k := by
  obtain ⟨g, g', l, c, c', f, h1, h2, h3, h4, h5⟩ := h
  exact ⟨g, g', l, c, c', h1, h2, fun q => eqf _ _ g g' l c c' f _ h3 (fun _ => rfl) (fun _ => rfl) (fun j hj => h4 j hj) (fun j hj => h5 j hj)⟩
theorem EqW.call {w : World} {X BT i : Nat} (h : EqW w X BT i) : ∃ (g g' l c c' : Nat), w.cell? ⟨X, i, none⟩ = some (.slice (some ⟨g, 0, none⟩) l c) ∧ w.cell? ⟨BT, i, none⟩ = some (.slice (some ⟨g', 0, none⟩) l c') ∧
    ∀ q, Calls Ybaf.prog 9 #[.slice (some ⟨g, 0, none⟩) l c, .slice (some ⟨g', 0, none⟩) l c'] (w.drewN q) fun e w' => e = .returned (.bool true) ∧ ∃ k, w' = (w.drewN q).drewN k := by
  obtain ⟨g, g', l, c, c', f, k, h1, h2, h3, h4, h5⟩ := h
  exact ⟨g, g', l, c, c', h1, h2, fun q => eqw _ _ g g' l c c' f k _ h3 (fun _ => rfl) (fun _ => rfl) (fun j hj => h4 j hj) (fun j hj => h5 j hj)⟩

/-- The state in which the law compares: k places of the two outer rows agree with the clones. -/
structure Cmp (w : World) (PS X Y L C1 C2 k : Nat) : Prop where
  p0 : w.cell? ⟨PS, 0, none⟩ = some (.slice (some ⟨X, 0, none⟩) L C1)
  p1 : w.cell? ⟨PS, 1, none⟩ = some (.slice (some ⟨Y, 0, none⟩) L C2)
  et : ∀ i, i < k → EqT w X (PS + 1) i
  ew : ∀ i, i < k → EqW w Y (PS + 2) i

theorem Cl.cmp {w : World} {N n m PS : Nat} {len cap : Nat → Nat} {xt xw : Nat → List Value} {cnt room lim : Int} {sd : Bool} (h : Cl w N n m PS n n len cap xt xw cnt room lim sd) (hl : ∀ i, i < n → len i ≤ 65536) (hF : ∀ i, i < n + m → ∀ u ∈ xt i, isF u) (hI : ∀ i, i < n + m → ∀ u ∈ xw i, isI u) : Cmp w PS N (N + 1) n (n + m) (n + m) n := by
  refine ⟨h.p0, h.p1, fun i hi => ?_, fun i hi => ?_⟩
  · obtain ⟨g, c, h1, h2⟩ := h.dt i hi
    exact EqT.of (h.bld.ct i (by omega)) h1 (by have := hl i hi; omega) (h.ot i (by omega)) h2 (hF i (by omega))
  · obtain ⟨g, c, h1, h2⟩ := h.dw i hi
    exact EqW.of (h.bld.cw i (by omega)) h1 (by have := hl i hi; omega) (h.ow i (by omega)) h2 (hI i (by omega))
end Go.Proofs.YbulkfslyFmt
