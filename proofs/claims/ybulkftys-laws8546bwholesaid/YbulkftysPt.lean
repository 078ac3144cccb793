import Derived.Test.YbulkftysScl
namespace Go.Proofs.Ybulkftys
open Go.RowKit
set_option linter.unusedVariables false
set_option linter.unusedSimpArgs false

abbrev Es := List (Bool × List Int)

theorem own_mono {w w' : World} {base : Nat} {e : TypeId} {size : Nat} {v : Value} {n : Nat} {xs : List Value} (h : w.ownsRow base e size v n xs) (hb : ∀ k, base ≤ k → v.ownBlock = some k → w'.heap[k]? = w.heap[k]?) : w'.ownsRow base e size v n xs := by
  obtain ⟨h0, h1 | ⟨g, cap, cur, rfl, h2, h3, h4⟩⟩ := h
  · exact ⟨h0, .inl h1⟩
  · exact ⟨h0, .inr ⟨g, cap, cur, rfl, h2, (hb g h2 rfl).trans h3, h4⟩⟩

theorem Lk.mono {w w' : World} {lo hi : Nat} {v : Value} {z : Bool} {es : Es} (h : Lk w lo hi v z es) (hb : ∀ k, lo ≤ k → k < hi → w'.heap[k]? = w.heap[k]?) : Lk w' lo hi v z es := by
  obtain ⟨us, h1, h2, h3, h4⟩ := h
  refine ⟨us, own_mono h1 (fun k h5 h6 => hb k h5 (h3 k h6)), h2, h3, fun i e he => ?_⟩
  obtain ⟨u, hu, hB⟩ := h4 i e he
  exact ⟨u, hu, hB.mono (fun k hk => hb k hk.1 hk.2.1) (fun _ h => h)⟩

/-- A part as the law lays it: its blocks are its own. -/
structure Pt (w : World) (own : Nat → Option Nat) (lnk : Nat → Nat) (i size P R L : Nat) (bit : Nat → Bool) (z : Bool) (es : Es) : Prop where
  oP : own P = some i
  oR : own R = some i
  oL : own L = some i
  hPL : P ≠ L
  hRL : R ≠ L
  p3 : w.cell? ⟨P, 3, none⟩ = some (.slice (some ⟨L, 0, none⟩) size size)
  p4 : w.cell? ⟨P, 4, none⟩ = some (.slice (some ⟨R, 0, none⟩) size size)
  rc : ∀ j, j < size → w.cell? ⟨R, j, none⟩ = some (.bool (bit j))
  lrow : ∃ arr, w.heap[L]? = some (.cells arr 25) ∧ arr.size = size
  links : ∀ j, j < size → ∃ v lo hi, w.cell? ⟨L, j, none⟩ = some v ∧ Lk w lo hi v z es ∧ lo ≤ hi ∧ hi ≤ w.heap.size ∧ ∀ b, lo ≤ b → b < hi → own b = some i ∧ lnk b = j ∧ b ≠ P ∧ b ≠ R ∧ b ≠ L

theorem Pt.mono {w w' : World} {own : Nat → Option Nat} {lnk : Nat → Nat} {i size P R L : Nat} {bit : Nat → Bool} {z : Bool} {es : Es} (h : Pt w own lnk i size P R L bit z es) (hs : w.heap.size ≤ w'.heap.size) (hb : ∀ k, k < w.heap.size → own k = some i → w'.heap[k]? = w.heap[k]?) : Pt w' own lnk i size P R L bit z es := by
  have hP := World.block_lt_of_cell? w _ h.p3
  obtain ⟨arr, hL, hLs⟩ := h.lrow
  have hLl := (Array.getElem?_eq_some_iff.1 hL).1
  refine ⟨h.oP, h.oR, h.oL, h.hPL, h.hRL, (World.cell?_of_block (a := ⟨P, 3, none⟩) (hb P hP h.oP)).trans h.p3, (World.cell?_of_block (a := ⟨P, 4, none⟩) (hb P hP h.oP)).trans h.p4, fun j hj => ?_, ⟨arr, (hb L hLl h.oL).trans hL, hLs⟩, fun j hj => ?_⟩
  · have := h.rc j hj
    exact (World.cell?_of_block (a := ⟨R, j, none⟩) (hb R (World.block_lt_of_cell? w _ this) h.oR)).trans this
  · obtain ⟨v, lo, hi, h1, h2, h30, h3, h4⟩ := h.links j hj
    exact ⟨v, lo, hi, (World.cell?_of_block (a := ⟨L, j, none⟩) (hb L hLl h.oL)).trans h1, h2.mono (fun k h5 h6 => hb k (by omega) (h4 k h5 h6).1), h30, by omega, h4⟩

/-- A link behind the call: what was there, and the payload where it was added. -/
def Fl (w : World) (ok : Nat → Prop) (v : Value) (add z : Bool) (es : Es) (pz : Bool) (px : List Int) : Prop :=
  ∃ (a : Option Addr) (cap g : Nat), v = .slice a (es.length + if add = true then 1 else 0) cap ∧ (add = false → a.isNone = z) ∧ (0 < es.length + (if add = true then 1 else 0) → a = some ⟨g, 0, none⟩ ∧ ok g) ∧
    (∀ (i : Nat) (e : Bool × List Int), es[i]? = some e → ∃ u : Value, w.cell? ⟨g, i, none⟩ = some u ∧ Bs w ok u e.1 e.2) ∧ (add = true → ∃ u : Value, w.cell? ⟨g, es.length, none⟩ = some u ∧ Bs w ok u pz px)

theorem Fl.mono {w w' : World} {ok ok' : Nat → Prop} {v : Value} {add z : Bool} {es : Es} {pz : Bool} {px : List Int} (h : Fl w ok v add z es pz px) (hb : ∀ k, ok k → w'.heap[k]? = w.heap[k]?) (hk : ∀ k, ok k → ok' k) : Fl w' ok' v add z es pz px := by
  obtain ⟨a, cap, g, h1, h2, h3, h4, h5⟩ := h
  refine ⟨a, cap, g, h1, h2, fun hx => ⟨(h3 hx).1, hk _ (h3 hx).2⟩, fun i e he => ?_, fun ha => ?_⟩
  · obtain ⟨u, hu, hB⟩ := h4 i e he
    have hg := (h3 (by have := (List.getElem?_eq_some_iff.1 he).1; omega)).2
    exact ⟨u, (World.cell?_of_block (a := ⟨g, i, none⟩) (hb g hg)).trans hu, hB.mono hb hk⟩
  · obtain ⟨u, hu, hB⟩ := h5 ha
    have hg := (h3 (by rw [ha]; simp)).2
    exact ⟨u, (World.cell?_of_block (a := ⟨g, es.length, none⟩) (hb g hg)).trans hu, hB.mono hb hk⟩

/-- A link that nothing was added to. -/
theorem Fl_of_Lk {w : World} {lo hi : Nat} {v : Value} {z : Bool} {es : Es} {pz : Bool} {px : List Int} {ok : Nat → Prop} (h : Lk w lo hi v z es) (hok : ∀ b, lo ≤ b → b < hi → ok b) : Fl w ok v false z es pz px := by
  obtain ⟨us, h1, h2, h3, h4⟩ := h
  by_cases hv : v = .slice none 0 0
  · have hz : z = true := h2.2 hv
    have he : es = [] := by
      obtain ⟨h5, ⟨h6, h7⟩ | ⟨g, cap, cur, h6, _⟩⟩ := h1
      · exact List.length_eq_zero_iff.1 h7
      · rw [hv] at h6; cases h6
    subst he
    exact ⟨none, 0, 0, by simpa using hv, fun _ => by simp [hz], fun hx => by simp at hx, fun i e he => by simp at he, fun e => by cases e⟩
  · obtain ⟨g, cap, rfl, hg⟩ := own_form h1 hv
    have hz : z = false := by cases z with | false => rfl | true => exact absurd (h2.1 rfl) hv
    have hgh := h3 g rfl
    refine ⟨some ⟨g, 0, none⟩, cap, g, by simp, fun _ => by simp [hz], fun _ => ⟨rfl, hok g hg hgh⟩, fun i e he => ?_, fun e => by cases e⟩
    obtain ⟨u, hu, hB⟩ := h4 i e he
    exact ⟨u, by rw [own_cell h1 i (List.getElem?_eq_some_iff.1 he).1]; exact hu, hB.mono (fun _ _ => rfl) (fun k hk => hok k hk.1 hk.2.1)⟩

/-- A part behind the call. 'add j': was the payload added to link j? -/
structure Fp (w : World) (ok : Nat → Prop) (size P R L : Nat) (bit add : Nat → Bool) (z : Bool) (es : Es) (pz : Bool) (px : List Int) : Prop where
  oP : ok P
  oR : ok R
  oL : ok L
  p3 : w.cell? ⟨P, 3, none⟩ = some (.slice (some ⟨L, 0, none⟩) size size)
  p4 : w.cell? ⟨P, 4, none⟩ = some (.slice (some ⟨R, 0, none⟩) size size)
  rc : ∀ j, j < size → w.cell? ⟨R, j, none⟩ = some (.bool (bit j))
  links : ∀ j, j < size → ∃ v, w.cell? ⟨L, j, none⟩ = some v ∧ Fl w ok v (add j) z es pz px

theorem Fp.mono {w w' : World} {ok ok' : Nat → Prop} {size P R L : Nat} {bit add : Nat → Bool} {z : Bool} {es : Es} {pz : Bool} {px : List Int} (h : Fp w ok size P R L bit add z es pz px) (hb : ∀ k, ok k → w'.heap[k]? = w.heap[k]?) (hk : ∀ k, ok k → ok' k) : Fp w' ok' size P R L bit add z es pz px := by
  refine ⟨hk _ h.oP, hk _ h.oR, hk _ h.oL, (World.cell?_of_block (a := ⟨P, 3, none⟩) (hb P h.oP)).trans h.p3, (World.cell?_of_block (a := ⟨P, 4, none⟩) (hb P h.oP)).trans h.p4, fun j hj => (World.cell?_of_block (a := ⟨R, j, none⟩) (hb R h.oR)).trans (h.rc j hj), fun j hj => ?_⟩
  obtain ⟨v, h1, h2⟩ := h.links j hj
  exact ⟨v, (World.cell?_of_block (a := ⟨L, j, none⟩) (hb L h.oL)).trans h1, h2.mono hb hk⟩

/-- A part that is not recorded on the link. -/
theorem Fp_of_Pt {w : World} {own : Nat → Option Nat} {lnk : Nat → Nat} {i size P R L : Nat} {bit : Nat → Bool} {z : Bool} {es : Es} {pz : Bool} {px : List Int} {add : Nat → Bool} (h : Pt w own lnk i size P R L bit z es) (hs : 0 < size) (hadd : ∀ j, j < size → add j = false) :
    Fp w (fun b => b < w.heap.size ∧ (own b = some i ∨ own b = none)) size P R L bit add z es pz px := by
  obtain ⟨arr, hL, hLs⟩ := h.lrow
  refine ⟨⟨World.block_lt_of_cell? w _ h.p3, .inl h.oP⟩, ⟨World.block_lt_of_cell? w _ (h.rc 0 hs), .inl h.oR⟩, ⟨(Array.getElem?_eq_some_iff.1 hL).1, .inl h.oL⟩, h.p3, h.p4, h.rc, fun j hj => ?_⟩
  obtain ⟨v, lo, hi, h1, h2, h30, h3, h4⟩ := h.links j hj
  rw [hadd j hj]
  exact ⟨v, h1, Fl_of_Lk h2 (fun b h5 h6 => ⟨by omega, .inl (h4 b h5 h6).1⟩)⟩

/-- Some blocks may have turned, 'own' says which. -/
structure Stab (w w' : World) (keep : Nat → Prop) : Prop where
  os : w'.os = w.os
  tape : w'.tape = w.tape
  output : w'.output = w.output
  size : w.heap.size ≤ w'.heap.size
  block : ∀ k, k < w.heap.size → keep k → w'.heap[k]? = w.heap[k]?

theorem Stab.refl (w : World) (keep : Nat → Prop) : Stab w w keep := ⟨rfl, rfl, rfl, Nat.le_refl _, fun _ _ _ => rfl⟩
theorem Stab.trans {w w1 w2 : World} {keep : Nat → Prop} (h : Stab w w1 keep) (k : Stab w1 w2 keep) : Stab w w2 keep :=
  ⟨k.os.trans h.os, k.tape.trans h.tape, k.output.trans h.output, Nat.le_trans h.size k.size, fun b h1 h2 => (k.block b (Nat.lt_of_lt_of_le h1 h.size) h2).trans (h.block b h1 h2)⟩
theorem Stab.weak {w w1 : World} {keep keep' : Nat → Prop} (h : Stab w w1 keep) (hk : ∀ b, keep' b → keep b) : Stab w w1 keep' := ⟨h.os, h.tape, h.output, h.size, fun b h1 h2 => h.block b h1 (hk b h2)⟩

/-- The payload added to the link: what stands. 'wB': the world with the one-element row. -/
theorem Pt.added {w wB w1 : World} {own : Nat → Option Nat} {lnk : Nat → Nat} {i size P R L fr : Nat} {bit : Nat → Bool} {z : Bool} {es : Es} {pz : Bool} {px : List Int} {pv v : Value} {lo hi g cap N : Nat} {us : List Value} {okp : Nat → Prop}
    (h : Pt w own lnk i size P R L bit z es) (hfr : fr < size) (hN : ∀ b, N ≤ b → own b = none) (hNw : N ≤ w.heap.size)
    (hown : w.ownsRow lo 22 1 v es.length us) (hblk : ∀ k, v.ownBlock = some k → lo ≤ k ∧ k < hi) (hel : ∀ (j : Nat) (e : Bool × List Int), es[j]? = some e → ∃ u : Value, us[j]? = some u ∧ Bs w (fun b => lo ≤ b ∧ b < hi ∧ v.ownBlock ≠ some b) u e.1 e.2)
    (hhi : hi ≤ w.heap.size) (hint : ∀ b, lo ≤ b → b < hi → own b = some i ∧ lnk b = fr ∧ b ≠ P ∧ b ≠ R ∧ b ≠ L)
    (hB : Stab w wB (fun _ => True)) (hgrow : wB.grownBy w1 v.ownBlock) (hown1 : w1.ownsRow lo 22 1 (.slice (some ⟨g, 0, none⟩) (es.length + 1) cap) (es.length + 1) (us ++ [pv])) (hat : v.ownBlock = some g ∨ w.heap.size ≤ g) (hglt : g < w1.heap.size)
    (hpv : Bs w okp pv pz px) (hokp : ∀ b, okp b → own b = none ∧ b < w.heap.size) :
    Fp (w1.setCell ⟨L, fr, none⟩ (.slice (some ⟨g, 0, none⟩) (es.length + 1) cap)) (fun b => b < w1.heap.size ∧ (own b = some i ∨ own b = none)) size P R L bit (fun j => decide (j = fr)) z es pz px ∧
      Stab w (w1.setCell ⟨L, fr, none⟩ (.slice (some ⟨g, 0, none⟩) (es.length + 1) cap)) (fun b => own b ≠ some i) := by
  obtain ⟨arr, hL, hLs⟩ := h.lrow
  have hLlt := (Array.getElem?_eq_some_iff.1 hL).1
  have hPlt : P < w.heap.size := World.block_lt_of_cell? w _ h.p3
  have hRlt : R < w.heap.size := World.block_lt_of_cell? w _ (h.rc fr hfr)
  have hsB := hB.size
  have hs1 := hgrow.size
  have hsz : (w1.setCell ⟨L, fr, none⟩ (.slice (some ⟨g, 0, none⟩) (es.length + 1) cap)).heap.size = w1.heap.size := by simp [World.setCell]
  -- a block that is neither the row nor L
  have hk : ∀ b, b < w.heap.size → v.ownBlock ≠ some b → b ≠ L → (w1.setCell ⟨L, fr, none⟩ (.slice (some ⟨g, 0, none⟩) (es.length + 1) cap)).heap[b]? = w.heap[b]? := by
    intro b h1 h2 h3
    rw [Below.heap_setCell _ _ _ _ (by exact h3), hgrow.block b (by omega) (Ne.symm h2), hB.block b h1 trivial]
  have hnP : v.ownBlock ≠ some P := fun e => (hint P (hblk P e).1 (hblk P e).2).2.2.1 rfl
  have hnR : v.ownBlock ≠ some R := fun e => (hint R (hblk R e).1 (hblk R e).2).2.2.2.1 rfl
  have hnL : v.ownBlock ≠ some L := fun e => (hint L (hblk L e).1 (hblk L e).2).2.2.2.2 rfl
  have hL1 : w1.heap[L]? = some (.cells arr 25) := by rw [hgrow.block L (by omega) (Ne.symm hnL), hB.block L hLlt trivial, hL]
  have hL2 : (w1.setCell ⟨L, fr, none⟩ (.slice (some ⟨g, 0, none⟩) (es.length + 1) cap)).heap[L]? = some (.cells (arr.setIfInBounds fr (.slice (some ⟨g, 0, none⟩) (es.length + 1) cap)) 25) := by
    simp only [World.setCell, Array.getElem?_modify, if_true, hL1, Option.map_some, Option.isSome_none, Bool.false_eq_true, if_false]
  refine ⟨⟨⟨by omega, .inl h.oP⟩, ⟨by omega, .inl h.oR⟩, ⟨by omega, .inl h.oL⟩, (World.cell?_of_block (a := ⟨P, 3, none⟩) (hk P hPlt hnP h.hPL)).trans h.p3, (World.cell?_of_block (a := ⟨P, 4, none⟩) (hk P hPlt hnP h.hPL)).trans h.p4, fun j hj => (World.cell?_of_block (a := ⟨R, j, none⟩) (hk R hRlt hnR h.hRL)).trans (h.rc j hj), fun j hj => ?_⟩, ?_⟩
  · by_cases hjf : j = fr
    · subst hjf
      have hgL : g ≠ L := by
        rcases hat with e | e
        · intro e2; subst e2; exact hnL e
        · omega
      have hg2 : (w1.setCell ⟨L, j, none⟩ (.slice (some ⟨g, 0, none⟩) (es.length + 1) cap)).heap[g]? = w1.heap[g]? := Below.heap_setCell _ _ _ _ (by exact hgL)
      have hul : us.length = es.length := by have := hown.1; omega
      have hcell : ∀ t, t < es.length + 1 → (w1.setCell ⟨L, j, none⟩ (.slice (some ⟨g, 0, none⟩) (es.length + 1) cap)).cell? ⟨g, t, none⟩ = (us ++ [pv])[t]? := fun t ht => (World.cell?_of_block (a := ⟨g, t, none⟩) hg2).trans (own_cell hown1 t ht)
      refine ⟨.slice (some ⟨g, 0, none⟩) (es.length + 1) cap, by rw [cell_block hL2]; simp [hLs, hj], some ⟨g, 0, none⟩, cap, g, by simp, by simp, fun _ => ⟨rfl, hglt, ?_⟩, fun t e he => ?_, fun _ => ?_⟩
      · rcases hat with e | e
        · exact .inl (hint g (hblk g e).1 (hblk g e).2).1
        · exact .inr (hN g (by omega))
      · obtain ⟨u, hu, hBu⟩ := hel t e he
        have htl := (List.getElem?_eq_some_iff.1 he).1
        refine ⟨u, ?_, hBu.mono (fun b hb => hk b (by omega) hb.2.2 (hint b hb.1 hb.2.1).2.2.2.2) (fun b hb => ⟨by omega, .inl (hint b hb.1 hb.2.1).1⟩)⟩
        rw [hcell t (by omega), List.getElem?_append_left (by omega)]; exact hu
      · refine ⟨pv, ?_, hpv.mono (fun b hb => ?_) (fun b hb => ⟨by have := (hokp b hb).2; omega, .inr (hokp b hb).1⟩)⟩
        · rw [hcell es.length (by omega), List.getElem?_append_right (by omega), hul]; simp
        · obtain ⟨e1, e2⟩ := hokp b hb
          refine hk b e2 (fun e => ?_) (fun e => ?_)
          · have := (hint b (hblk b e).1 (hblk b e).2).1; rw [e1] at this; cases this
          · subst e; have := h.oL; rw [e1] at this; cases this
    · obtain ⟨v', lo', hi', h1, h2, h30, h3, h4⟩ := h.links j hj
      have e1 : (decide (j = fr)) = false := by simp [hjf]
      rw [e1]
      refine ⟨v', ?_, Fl_of_Lk (h2.mono (fun b h5 h6 => hk b (by omega) (fun e => ?_) (h4 b h5 h6).2.2.2.2)) (fun b h5 h6 => ⟨by omega, .inl (h4 b h5 h6).1⟩)⟩
      · rw [cell_block hL2]
        rw [cell_block hL] at h1
        rw [Array.getElem?_setIfInBounds, if_neg (by omega)]; exact h1
      · have e2 := (hint b (hblk b e).1 (hblk b e).2).2.1
        have e3 := (h4 b h5 h6).2.1
        omega
  · refine ⟨hgrow.os.trans hB.os, hgrow.tape.trans hB.tape, hgrow.output.trans hB.output, by omega, fun b h1 h2 => hk b h1 (fun e => ?_) (fun e => ?_)⟩
    · exact h2 (hint b (hblk b e).1 (hblk b e).2).1
    · subst e; exact h2 h.oL

end Go.Proofs.Ybulkftys
