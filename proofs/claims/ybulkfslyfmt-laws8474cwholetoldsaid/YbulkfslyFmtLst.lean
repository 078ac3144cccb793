import Derived.Test.YbulkfslyFmtAft
namespace Go.Proofs.YbulkfslyFmt
open Go.RowKit
set_option linter.unusedVariables false
set_option linter.unusedSimpArgs false

/-- What the last comparison of a block that was not full wants. -/
structure Lst (w : World) (PS X Y M C1 C2 nn l H : Nat) (fs gs ys : List Value) : Prop where
  p0 : w.cell? ⟨PS, 0, none⟩ = some (.slice (some ⟨X, 0, none⟩) (M + 1) C1)
  p1 : w.cell? ⟨PS, 1, none⟩ = some (.slice (some ⟨Y, 0, none⟩) (M + 1) C2)
  hX : X < PS ∨ H ≤ X
  hY : Y < PS ∨ H ≤ Y
  tl : ∃ g c, w.cell? ⟨X, M, none⟩ = some (.slice (some ⟨g, 0, none⟩) nn c) ∧ w.ownsRow 0 22 1 (.slice (some ⟨g, 0, none⟩) nn c) nn fs ∧ (g < PS ∨ H ≤ g)
  wl : ∃ g c, w.cell? ⟨Y, M, none⟩ = some (.slice (some ⟨g, 0, none⟩) nn c) ∧ w.ownsRow 0 29 2 (.slice (some ⟨g, 0, none⟩) nn c) nn gs ∧ (g < PS ∨ H ≤ g)

theorem Aft.lst {w : World} {N n PS X Y C1 C2 M nn H : Nat} {len : Nat → Nat} {xt xw : Nat → List Value} {fs gs ys : List Value} {cnt room lim : Int} {sd : Bool} (h : Aft w N n PS X Y C1 C2 M nn H len xt xw fs gs cnt room lim sd) (l : Nat) : Lst w PS X Y M C1 C2 nn l H fs gs ys :=
  ⟨h.cmp.p0, h.cmp.p1, h.hX, h.hY, h.tl, h.wl⟩

theorem owns_type {w : World} {base base' g l c l' c' : Nat} {e e' : TypeId} {size size' : Nat} {xs xs' : List Value} (h : w.ownsRow base e size (.slice (some ⟨g, 0, none⟩) l c) l xs) (h' : w.ownsRow base' e' size' (.slice (some ⟨g, 0, none⟩) l' c') l' xs') : e = e' := by
  rcases h.2 with ⟨h2, _⟩ | ⟨a, b, cur, hv, hg, hh, r⟩
  · cases h2
  · rcases h'.2 with ⟨h2, _⟩ | ⟨a', b', cur', hv', hg', hh', r'⟩
    · cases h2
    · cases hv; cases hv'
      rw [hh] at hh'
      cases hh'
      rfl

theorem Lst.step {w w1 : World} {PS X Y M C1 C2 nn l H : Nat} {fs gs ys : List Value} (h : Lst w PS X Y M C1 C2 nn l H fs gs ys) {gc : Nat} (h1 : PS + 3 ≤ gc) (h2 : gc < H) (hb : ∀ k, k < w.heap.size → k ≠ gc → w1.heap[k]? = w.heap[k]?) : Lst w1 PS X Y M C1 C2 nn l H fs gs ys := by
  obtain ⟨g, c, t1, t2, t3⟩ := h.tl
  obtain ⟨g', c', s1, s2, s3⟩ := h.wl
  have cl : ∀ k j v, w.cell? ⟨k, j, none⟩ = some v → k ≠ gc → w1.cell? ⟨k, j, none⟩ = some v := fun k j v hv hk => (World.cell?_of_block (a := ⟨k, j, none⟩) (hb k (World.block_lt_of_cell? w ⟨k, j, none⟩ hv) hk)).trans hv
  have hX := h.hX
  have hY := h.hY
  exact ⟨cl _ _ _ h.p0 (by omega), cl _ _ _ h.p1 (by omega), hX, hY, ⟨g, c, cl _ _ _ t1 (by omega), owns_block t2 (hb _ (owns_lt t2).2 (by omega)), t3⟩, ⟨g', c', cl _ _ _ s1 (by omega), owns_block s2 (hb _ (owns_lt s2).2 (by omega)), s3⟩⟩

/-- Equal rows, told by what they own: the two calls. -/
theorem callT {w : World} {g g' l c c' b b' : Nat} {xs : List Value} (o1 : w.ownsRow b 22 1 (.slice (some ⟨g, 0, none⟩) l c) l xs) (o2 : w.ownsRow b' 22 1 (.slice (some ⟨g', 0, none⟩) l c') l xs) (hq : ∀ u ∈ xs, isF u) (hl : l ≤ 65537) (q : Nat) :
    Calls Ybaf.prog 8 #[.slice (some ⟨g, 0, none⟩) l c, .slice (some ⟨g', 0, none⟩) l c'] (w.drewN q) fun e w' => e = .returned (.bool true) ∧ ∃ k, w' = (w.drewN q).drewN k :=
  eqf _ _ g g' l c c' (fun j => getF xs[j]?) _ hl (fun _ => rfl) (fun _ => rfl) (fun j hj => ownsF o1 hq j hj) (fun j hj => ownsF o2 hq j hj)
theorem callW {w : World} {g g' l c c' b b' : Nat} {xs : List Value} (o1 : w.ownsRow b 29 2 (.slice (some ⟨g, 0, none⟩) l c) l xs) (o2 : w.ownsRow b' 29 2 (.slice (some ⟨g', 0, none⟩) l c') l xs) (hq : ∀ u ∈ xs, isI u) (hl : l ≤ 65537) (q : Nat) :
    Calls Ybaf.prog 9 #[.slice (some ⟨g, 0, none⟩) l c, .slice (some ⟨g', 0, none⟩) l c'] (w.drewN q) fun e w' => e = .returned (.bool true) ∧ ∃ k, w' = (w.drewN q).drewN k :=
  eqw _ _ g g' l c c' (fun j => getI xs[j * 2]?) (fun j => getI xs[j * 2 + 1]?) _ hl (fun _ => rfl) (fun _ => rfl) (fun j hj => ownsI o1 hq j hj) (fun j hj => ownsI o2 hq j hj)

theorem isF_snoc {xs : List Value} (h : ∀ u ∈ xs, isF u) (t : Nat) : ∀ u ∈ xs ++ [.float .f64 t], isF u := by
  intro u hu
  simp at hu
  rcases hu with hu | rfl
  · exact h u hu
  · exact ⟨t, rfl⟩
theorem isI_snoc {xs : List Value} (h : ∀ u ∈ xs, isI u) (e v : Int) : ∀ u ∈ xs ++ [.int .i64 e, .int .i64 v], isI u := by
  intro u hu
  simp at hu
  rcases hu with hu | rfl | rfl
  · exact h u hu
  · exact ⟨e, rfl⟩
  · exact ⟨v, rfl⟩
end Go.Proofs.YbulkfslyFmt
