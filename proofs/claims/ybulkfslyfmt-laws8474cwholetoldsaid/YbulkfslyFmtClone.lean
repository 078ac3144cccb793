import Derived.Test.YbulkfslyFmtEq
namespace Go.Proofs.YbulkfslyFmt
open Go.RowKit
set_option linter.unusedVariables false
set_option linter.unusedSimpArgs false

/-- A slice value that owns a row of its own, told nil or not. -/
theorem own_form {w : World} {base : Nat} {e : TypeId} {size : Nat} {v : Value} {n : Nat} {xs : List Value} (h : w.ownsRow base e size v n xs) (hne : v ≠ .slice none 0 0) :
    ∃ g cap, v = .slice (some ⟨g, 0, none⟩) n cap ∧ base ≤ g := by
  obtain ⟨_, ⟨h1, _⟩ | ⟨g, cap, cur, h1, h2, _⟩⟩ := h
  · exact absurd h1 hne
  · exact ⟨g, cap, h1, h2⟩

set_option maxRecDepth 100000 in
set_option maxHeartbeats 1000000 in
theorem cloneF (b n cap : Nat) (xs : List Value) (w : World) (hl : xs.length = n) (hc : ∀ j u, xs[j]? = some u → w.cell? ((⟨b, 0, none⟩ : Addr).add j) = some u) (h1 : ∀ u ∈ xs, u.oneCell' = true) (hn : n ≤ 65536) (hb : b < w.heap.size) :
    Calls Ybaf.prog 4 #[.slice (some ⟨b, 0, none⟩) n cap] w fun e w' => ∃ g c, e = .returned (.slice (some ⟨g, 0, none⟩) n c) ∧ w'.ownsRow w.heap.size 22 1 (.slice (some ⟨g, 0, none⟩) n c) n xs ∧ Below w.heap.size w w' := by
  obtain ⟨i0, hi, hz0, hz1, hz2⟩ := info_parts info22
  have hown : (w.alloc (.cells #[] 22)).ownsRow w.heap.size 22 1 (.slice (some ⟨w.heap.size, 0, none⟩) 0 0) 0 [] := World.ownsRow_made w #[] 0 (Nat.le_refl _) (by simp [maxLen]) rfl
  have hc' : ∀ j u, xs[j]? = some u → (w.alloc (.cells #[] 22)).cell? ((⟨b, 0, none⟩ : Addr).add j) = some u := by
    intro j u hj
    rw [World.cell?_alloc_lt _ _ _ (by simp only [Addr.add]; split <;> exact hb)]
    exact hc j u hj
  clear hc
  have Hl : Hid (xs.length = n) := hl
  clear hl
  have s26 := fun w a n c n' c' => Lib.run_eql_slice_nil (P := Ybaf.prog) w 26 _ a n c n' c' Ybaf.underlying26
  go_enter Ybaf.func4, Ybaf.ntmps4
  go_wp2_with (at_builtin; refine wpList_append_own _ rfl _ _ 26 rfl w.heap.size 22 i0 (.float .f64 0) 1 8 Ybaf.underlying26 hi hz0 hz1 hz2 rfl (by decide) (.slice (some ⟨w.heap.size, 0, none⟩) 0 0) 0 [] rfl hown ⟨b, 0, none⟩ n cap xs rfl (by have := Hl.out; omega) hc' h1 (by unfold maxLen; omega) (by omega) (by simp) ?_; intro v' w1 hown' hgrow hnil)
  obtain ⟨g, c, rfl, hg⟩ := own_form hown' (fun e => by have := hnil.1 e; simp at this)
  simp only [Nat.zero_add, List.nil_append] at hown' ⊢
  go_wp2
  go_ret
  exact ⟨g, c, rfl, hown', ((Below.refl _ _).alloc (Nat.le_refl _) _).grown hgrow (by simp) (fun k hk => by simp [Value.ownBlock] at hk; omega)⟩
set_option maxRecDepth 100000 in
set_option maxHeartbeats 1000000 in
theorem cloneW (b n cap : Nat) (xs : List Value) (w : World) (hl : xs.length = n * 2) (hc : ∀ j u, xs[j]? = some u → w.cell? ((⟨b, 0, none⟩ : Addr).add j) = some u) (h1 : ∀ u ∈ xs, u.oneCell' = true) (hn : n ≤ 65536) (hb : b < w.heap.size) :
    Calls Ybaf.prog 5 #[.slice (some ⟨b, 0, none⟩) n cap] w fun e w' => ∃ g c, e = .returned (.slice (some ⟨g, 0, none⟩) n c) ∧ w'.ownsRow w.heap.size 29 2 (.slice (some ⟨g, 0, none⟩) n c) n xs ∧ Below w.heap.size w w' := by
  obtain ⟨i0, hi, hz0, hz1, hz2⟩ := info_parts info29
  have hown : (w.alloc (.cells #[] 29)).ownsRow w.heap.size 29 2 (.slice (some ⟨w.heap.size, 0, none⟩) 0 0) 0 [] := World.ownsRow_made w #[] 0 (Nat.le_refl _) (by simp [maxLen]) rfl
  have hc' : ∀ j u, xs[j]? = some u → (w.alloc (.cells #[] 29)).cell? ((⟨b, 0, none⟩ : Addr).add j) = some u := by
    intro j u hj
    rw [World.cell?_alloc_lt _ _ _ (by simp only [Addr.add]; split <;> exact hb)]
    exact hc j u hj
  clear hc
  have Hl : Hid (xs.length = n * 2) := hl
  clear hl
  have s27 := fun w a n c n' c' => Lib.run_eql_slice_nil (P := Ybaf.prog) w 27 _ a n c n' c' Ybaf.underlying27
  go_enter Ybaf.func5, Ybaf.ntmps5
  go_wp2_with (at_builtin; refine wpList_append_own _ rfl _ _ 27 rfl w.heap.size 29 i0 (.agg #[.int .i64 0, .int .i64 0]) 2 16 Ybaf.underlying27 hi hz0 hz1 hz2 rfl (by decide) (.slice (some ⟨w.heap.size, 0, none⟩) 0 0) 0 [] rfl hown ⟨b, 0, none⟩ n cap xs rfl (by have := Hl.out; omega) hc' h1 (by unfold maxLen; omega) (by omega) (by simp) ?_; intro v' w1 hown' hgrow hnil)
  obtain ⟨g, c, rfl, hg⟩ := own_form hown' (fun e => by have := hnil.1 e; simp at this)
  simp only [Nat.zero_add, List.nil_append] at hown' ⊢
  go_wp2
  go_ret
  exact ⟨g, c, rfl, hown', ((Below.refl _ _).alloc (Nat.le_refl _) _).grown hgrow (by simp) (fun k hk => by simp [Value.ownBlock] at hk; omega)⟩
end Go.Proofs.YbulkfslyFmt
