import Derived.Test.YbulkftysBs
namespace Go.Proofs.Ybulkftys
open Go.RowKit
set_option linter.unusedVariables false
set_option linter.unusedSimpArgs false

theorem info5 : (Yba.prog.info? 5).map (fun i => (i.zero, i.size, i.bytes)) = some (some (.int .u8 0), 1, 1) := by kernel_rfl
theorem info22 : (Yba.prog.info? 22).map (fun i => (i.zero, i.size, i.bytes)) = some (some (.slice none 0 0), 1, 24) := by kernel_rfl
theorem info_parts {t : TypeId} {z : Value} {s b : Nat} (h : (Yba.prog.info? t).map (fun i => (i.zero, i.size, i.bytes)) = some (some z, s, b)) : ∃ i, Yba.prog.info? t = some i ∧ i.zero = some z ∧ i.size = s ∧ i.bytes = b := by
  obtain ⟨i, hi, hzz⟩ := Option.map_eq_some_iff.1 h
  simp only [Prod.mk.injEq] at hzz
  exact ⟨i, hi, hzz.1, hzz.2.1, hzz.2.2⟩

theorem own_form {w : World} {base : Nat} {e : TypeId} {size : Nat} {v : Value} {n : Nat} {xs : List Value} (h : w.ownsRow base e size v n xs) (hne : v ≠ .slice none 0 0) :
    ∃ g cap, v = .slice (some ⟨g, 0, none⟩) n cap ∧ base ≤ g := by
  obtain ⟨_, ⟨h1, _⟩ | ⟨g, cap, cur, h1, h2, _⟩⟩ := h
  · exact absurd h1 hne
  · exact ⟨g, cap, h1, h2⟩

theorem own_lt {w : World} {base : Nat} {e : TypeId} {size : Nat} {g n cap : Nat} {xs : List Value} (h : w.ownsRow base e size (.slice (some ⟨g, 0, none⟩) n cap) n xs) : base ≤ g ∧ g < w.heap.size := by
  obtain ⟨_, ⟨h1, _⟩ | ⟨g, cap, cur, h1, h2, h3, _⟩⟩ := h
  · cases h1
  · cases h1
    exact ⟨h2, (Array.getElem?_eq_some_iff.1 h3).1⟩

theorem own_cell {w : World} {base : Nat} {e : TypeId} {g n cap : Nat} {xs : List Value} (h : w.ownsRow base e 1 (.slice (some ⟨g, 0, none⟩) n cap) n xs) (i : Nat) (hi : i < n) : w.cell? ⟨g, i, none⟩ = xs[i]? := by
  obtain ⟨h0, ⟨h1, _⟩ | ⟨g, cap, cur, h1, h2, h3, h4, h5, h6, h7⟩⟩ := h
  · cases h1
  · cases h1
    rw [cell_block h3, ← h7, List.getElem?_take]
    simp [hi]

theorem Bs_own {w : World} {base g cap : Nat} {xs : List Int} (h : w.ownsRow base 5 1 (.slice (some ⟨g, 0, none⟩) xs.length cap) xs.length (xs.map (Value.int .u8))) :
    Bs w (fun b => base ≤ b ∧ b < w.heap.size) (.slice (some ⟨g, 0, none⟩) xs.length cap) false xs := by
  refine .inr ⟨rfl, ⟨g, 0, none⟩, cap, g, 0, rfl, fun _ => ⟨rfl, own_lt h⟩, fun i hi => ?_⟩
  rw [Nat.zero_add, own_cell h i hi]
  simp [List.getD, List.getElem?_eq_getElem hi]

set_option maxRecDepth 100000 in
set_option maxHeartbeats 1000000 in
theorem bclone (w : World) (ok : Nat → Prop) (v : Value) (z : Bool) (xs : List Int) (h : Bs w ok v z xs) (hok : ∀ k, ok k → k < w.heap.size) (hn : xs.length ≤ 140737488355328) :
    Calls Yba.prog 5 #[v] w fun e w' => ∃ v', e = .returned v' ∧ Bs w' (fun b => w.heap.size ≤ b ∧ b < w'.heap.size) v' z xs ∧ Below w.heap.size w w' := by
  have s22 := fun w a n c n' c' => Lib.run_eql_slice_nil (P := Yba.prog) w 22 _ a n c n' c' Yba.underlying22
  rcases h with ⟨rfl, rfl, rfl⟩ | ⟨rfl, a, cap, b, off, rfl, h2, h3⟩
  · go_enter Yba.func5, Yba.ntmps5
    go_wp2
    go_ret
    exact ⟨_, rfl, .inl ⟨rfl, rfl, rfl⟩, Below.refl _ _⟩
  · obtain ⟨i0, hi, hz0, hz1, hz2⟩ := info_parts info5
    have hown : (w.alloc (.cells #[] 5)).ownsRow w.heap.size 5 1 (.slice (some ⟨w.heap.size, 0, none⟩) 0 0) 0 [] := World.ownsRow_made w #[] 0 (Nat.le_refl _) (by simp [maxLen]) rfl
    have hc' : ∀ j u, (xs.map (Value.int .u8))[j]? = some u → (w.alloc (.cells #[] 5)).cell? (a.add j) = some u := by
      intro j u hj
      have hjl : j < xs.length := by have := (List.getElem?_eq_some_iff.1 hj).1; simpa using this
      obtain ⟨rfl, hb⟩ := h2 (by intro e; subst e; simp at hjl)
      have hadd : (⟨b, off, none⟩ : Addr).add j = ⟨b, off + j, none⟩ := by unfold Addr.add; split <;> simp_all
      rw [hadd, World.cell?_alloc_lt _ _ _ (hok _ hb), h3 j hjl]
      simp [List.getElem?_eq_getElem hjl] at hj
      simp [List.getD, List.getElem?_eq_getElem hjl, hj]
    have h1 : ∀ u ∈ xs.map (Value.int .u8), u.oneCell' = true := by intro u hu; simp only [List.mem_map] at hu; obtain ⟨t, _, rfl⟩ := hu; rfl
    have Hx : Hid (∀ (g c : Nat) (w1 : World), w1.ownsRow w.heap.size 5 1 (.slice (some ⟨g, 0, none⟩) xs.length c) xs.length (xs.map (Value.int .u8)) → Bs w1 (fun b => w.heap.size ≤ b ∧ b < w1.heap.size) (.slice (some ⟨g, 0, none⟩) xs.length c) false xs) := fun g c w1 h => Bs_own h
    clear h2 h3
    have hl : (xs.map (Value.int .u8)).length = xs.length := by simp
    generalize xs.map (Value.int .u8) = us at *
    generalize xs.length = n at *
    have Hl : Hid (us.length = n) := hl
    clear hl
    go_enter Yba.func5, Yba.ntmps5
    go_wp2_with (at_builtin; refine wpList_append_own _ rfl _ _ 22 rfl w.heap.size 5 i0 (.int .u8 0) 1 1 Yba.underlying22 hi hz0 hz1 hz2 rfl (by decide) (.slice (some ⟨w.heap.size, 0, none⟩) 0 0) 0 [] rfl hown a n cap us rfl (by have := Hl.out; omega) hc' h1 (by unfold maxLen; omega) (by omega) (by simp) ?_; intro v' w1 hown' hgrow hnil)
    obtain ⟨g, c, rfl, hg⟩ := own_form hown' (fun e => by have := hnil.1 e; simp at this)
    simp only [Nat.zero_add, List.nil_append] at hown' ⊢
    go_wp2
    go_ret
    exact ⟨_, rfl, Hx.out _ _ _ hown', ((Below.refl _ _).alloc (Nat.le_refl _) _).grown hgrow (by simp) (fun k hk => by simp [Value.ownBlock] at hk; omega)⟩
end Go.Proofs.Ybulkftys
