import Derived.Test.YbulkfslyFmtCmp
import Derived.Test.YbulkfslyFmtAdd
namespace Go.Proofs.YbulkfslyFmt
open Go.RowKit
set_option linter.unusedVariables false
set_option linter.unusedSimpArgs false

/-- What stands behind an 'add' that has added: 'M' blocks agree, block number 'M' holds one pair more (or is new). 'H': the heap's size ahead of it. -/
structure Aft (w : World) (N n PS X Y C1 C2 M nn H : Nat) (len : Nat → Nat) (xt xw : Nat → List Value) (fs gs : List Value) (cnt room lim : Int) (sd : Bool) : Prop where
  cmp : Cmp w PS X Y (M + 1) C1 C2 M
  hX : X < PS ∨ H ≤ X
  hY : Y < PS ∨ H ≤ Y
  tl : ∃ g c, w.cell? ⟨X, M, none⟩ = some (.slice (some ⟨g, 0, none⟩) nn c) ∧ w.ownsRow 0 22 1 (.slice (some ⟨g, 0, none⟩) nn c) nn fs ∧ (g < PS ∨ H ≤ g)
  wl : ∃ g c, w.cell? ⟨Y, M, none⟩ = some (.slice (some ⟨g, 0, none⟩) nn c) ∧ w.ownsRow 0 29 2 (.slice (some ⟨g, 0, none⟩) nn c) nn gs ∧ (g < PS ∨ H ≤ g)
  p2 : w.cell? ⟨PS, 2, none⟩ = some (.int .i64 cnt)
  p3 : w.cell? ⟨PS, 3, none⟩ = some (.int .i64 room)
  p4 : w.cell? ⟨PS, 4, none⟩ = some (.int .i64 lim)
  p5 : w.cell? ⟨PS, 5, none⟩ = some (.bool sd)
  dt : ∀ i, i < n → ∃ g c, w.cell? ⟨PS + 1, i, none⟩ = some (.slice (some ⟨g, 0, none⟩) (len i) c) ∧ w.ownsRow (PS + 3) 22 1 (.slice (some ⟨g, 0, none⟩) (len i) c) (len i) (xt i) ∧ g < H
  dw : ∀ i, i < n → ∃ g c, w.cell? ⟨PS + 2, i, none⟩ = some (.slice (some ⟨g, 0, none⟩) (len i) c) ∧ w.ownsRow (PS + 3) 29 2 (.slice (some ⟨g, 0, none⟩) (len i) c) (len i) (xw i) ∧ g < H
  size : PS + 3 ≤ w.heap.size

theorem aft {w w' : World} {N n m PS M nn base : Nat} {len cap : Nat → Nat} {xt xw : Nat → List Value} {cnt room lim cnt' : Int} {sd : Bool} {S : Nat → Prop} {fs gs : List Value}
    (h : Cl w N n m PS n n len cap xt xw cnt room lim sd) (hPS : PS = N + 2 + 2 * (n + m)) (hl : ∀ i, i < n → len i ≤ 65536) (hF : ∀ i, i < n + m → ∀ u ∈ xt i, isF u) (hI : ∀ i, i < n + m → ∀ u ∈ xw i, isI u)
    (ha : AddOK w w' PS N (N + 1) M nn base S fs gs cnt') (hM : M ≤ n) (hS : ∀ k, S k → ∃ i, M ≤ i ∧ i < n + m ∧ (k = N + 2 + 2 * i ∨ k = N + 3 + 2 * i)) :
    (∃ X Y C1 C2, Aft w' N n PS X Y C1 C2 M nn w.heap.size len xt xw fs gs cnt' room lim sd) ∧ Below N w w' := by
  have hs := h.size
  have hs2 := ha.size
  obtain ⟨X, Y, C1, C2, a0, a1, ax, ay, at1, aw1, hX, hY⟩ := ha.ps
  have far : ∀ k, k < w.heap.size → PS + 1 ≤ k → w'.heap[k]? = w.heap[k]? := fun k hk hp => ha.block k hk (by omega) (by omega) (by omega) (fun e => by obtain ⟨i, _, hi, e | e⟩ := hS k e <;> omega)
  have row : ∀ i k, i < M → (k = N + 2 + 2 * i ∨ k = N + 3 + 2 * i) → w'.heap[k]? = w.heap[k]? := fun i k hi hk => ha.block k (by omega) (by omega) (by omega) (by omega) (fun e => by obtain ⟨j, _, hj, e | e⟩ := hS k e <;> omega)
  have dt : ∀ i, i < n → ∃ g c, w'.cell? ⟨PS + 1, i, none⟩ = some (.slice (some ⟨g, 0, none⟩) (len i) c) ∧ w'.ownsRow (PS + 3) 22 1 (.slice (some ⟨g, 0, none⟩) (len i) c) (len i) (xt i) ∧ g < w.heap.size := by
    intro i hi
    obtain ⟨g, c, h1, h2⟩ := h.dt i hi
    have hg := owns_lt h2
    exact ⟨g, c, (World.cell?_of_block (a := ⟨PS + 1, i, none⟩) (far _ (by show PS + 1 < _; omega) (Nat.le_refl _))).trans h1, owns_block h2 (far g hg.2 (by omega)), hg.2⟩
  have dw : ∀ i, i < n → ∃ g c, w'.cell? ⟨PS + 2, i, none⟩ = some (.slice (some ⟨g, 0, none⟩) (len i) c) ∧ w'.ownsRow (PS + 3) 29 2 (.slice (some ⟨g, 0, none⟩) (len i) c) (len i) (xw i) ∧ g < w.heap.size := by
    intro i hi
    obtain ⟨g, c, h1, h2⟩ := h.dw i hi
    have hg := owns_lt h2
    exact ⟨g, c, (World.cell?_of_block (a := ⟨PS + 2, i, none⟩) (far _ (by show PS + 2 < _; omega) (by show PS + 1 ≤ PS + 2; omega))).trans h1, owns_block h2 (far g hg.2 (by omega)), hg.2⟩
  have loc : ∀ g, (S g ∨ w.heap.size ≤ g) → (g < PS ∨ w.heap.size ≤ g) := by
    intro g hg
    rcases hg with e | e
    · obtain ⟨i, _, hi, e | e⟩ := hS g e <;> left <;> omega
    · exact .inr e
  refine ⟨⟨X, Y, C1, C2, ⟨a0, a1, fun i hi => ?_, fun i hi => ?_⟩, orMap hX (fun e => by omega) id, orMap hY (fun e => by omega) id, ?_, ?_, ha.count, (ha.pj 3 (by omega)).trans h.p3, (ha.pj 4 (by omega)).trans h.p4, (ha.pj 5 (by omega)).trans h.p5, dt, dw, by omega⟩, ?_⟩
  · obtain ⟨g, c, h1, h2, _⟩ := dt i (by omega)
    exact EqT.of ((ax i hi).trans (h.bld.ct i (by omega))) h1 (by have := hl i (by omega); omega) (owns_block (h.ot i (by omega)) (row i _ hi (.inl rfl))) h2 (hF i (by omega))
  · obtain ⟨g, c, h1, h2, _⟩ := dw i (by omega)
    exact EqW.of ((ay i hi).trans (h.bld.cw i (by omega))) h1 (by have := hl i (by omega); omega) (owns_block (h.ow i (by omega)) (row i _ hi (.inr rfl))) h2 (hI i (by omega))
  · obtain ⟨g, c, b1, b2, b3⟩ := at1
    exact ⟨g, c, b1, owns_mono b2 (Nat.zero_le _), loc g b3⟩
  · obtain ⟨g, c, b1, b2, b3⟩ := aw1
    exact ⟨g, c, b1, owns_mono b2 (Nat.zero_le _), loc g b3⟩
  · refine ⟨ha.os, ha.tape, ha.output, ha.size, fun k hk => ha.block k (by omega) (by omega) (by omega) (by omega) (fun e => ?_)⟩
    obtain ⟨i, _, hi, e | e⟩ := hS k e <;> omega

/-- The three ways of 'add' that add, told at once. 'M': the block that it goes into. -/
theorem added {w : World} {N n m PS t : Nat} {e v : Int} {len cap : Nat → Nat} {xt xw : Nat → List Value} {cnt room lim : Int} {sd : Bool} {M : Nat}
    (h : Cl w N n m PS n n len cap xt xw cnt room lim sd) (hPS : PS = N + 2 + 2 * (n + m)) (hn : n ≤ 65536) (hm : m ≤ 65536) (hl : ∀ i, i < n → len i ≤ 65536) (hF : ∀ i, i < n + m → ∀ u ∈ xt i, isF u) (hI : ∀ i, i < n + m → ∀ u ∈ xw i, isI u)
    (hc : cnt < room) (hM : M + 1 = n ∧ len M < 65536 ∨ M = n ∧ ∀ l, n = l + 1 → len l = 65536) :
    Calls Ybaf.prog 6 #[.pointer (some ⟨PS, 0, none⟩), .float .f64 t, .int .i64 e, .int .i64 v] w fun e' w' => e' = .returned .nilIface ∧
      (∃ X Y C1 C2, Aft w' N n PS X Y C1 C2 M (if M = n then 1 else len M + 1) w.heap.size len xt xw ((if M = n then [] else xt M) ++ [.float .f64 t]) ((if M = n then [] else xw M) ++ [.int .i64 e, .int .i64 v]) (wrap64 (cnt + 1)) room lim sd) ∧ Below N w w' := by
  have hs := h.size
  have lN : N < w.heap.size := by omega
  rcases hM with ⟨h1, h2⟩ | ⟨rfl, h2⟩
  · have hne : ¬ M = n := by omega
    simp only [if_neg hne]
    subst h1
    refine (addA PS N (N + 1) (M + 1 + m) M (len M) N t e v cnt room _ _ (cap M) (cap M) (xt M) (xw M) w h.p0 h.p1 h.p2 h.p3 h.pf (h.bld.ct M (by omega)) (h.bld.tf.frozen M) (h.bld.cw M (by omega)) (h.bld.wf.frozen M) (h.ot M (by omega)) (h.ow M (by omega)) h2 (by omega) (by omega) (by omega) (by omega) (by omega) ?_ ?_ ?_ ?_ ?_ ?_ ?_ hc).mono ?_
    · simp [Value.ownBlock]; omega
    · simp [Value.ownBlock]; omega
    · simp [Value.ownBlock]; omega
    · simp [Value.ownBlock]; omega
    · simp [Value.ownBlock]; omega
    · simp [Value.ownBlock]; omega
    · intro k hk; simp [Value.ownBlock] at hk ⊢; omega
    · rintro e' w' ⟨rfl, hok⟩
      obtain ⟨b1, b2⟩ := aft h hPS hl hF hI hok (by omega) (fun k hk => ⟨M, Nat.le_refl _, by omega, by simp [Value.ownBlock] at hk; omega⟩)
      exact ⟨rfl, b1, b2⟩
  · simp only [if_true, List.nil_append]
    have hfull : ∀ l, M = l + 1 → ∃ a c, w.cell? ⟨N, l, none⟩ = some (.slice a 65536 c) := by
      intro l e
      have := h.bld.ct l (by omega)
      rw [h2 l e] at this
      exact ⟨_, _, this⟩
    by_cases hm0 : m = 0
    · subst hm0
      refine (addC PS N (N + 1) M N t e v cnt room w h.p0 h.p1 h.p2 h.p3 h.pf hfull hn ?_ ?_ lN (by omega) (by omega) (by omega) (by omega) (by omega) hc).mono ?_
      · intro j hj; rw [h.bld.ct j (by omega)]; rfl
      · intro j hj; rw [h.bld.cw j (by omega)]; rfl
      · rintro e' w' ⟨rfl, hok⟩
        obtain ⟨b1, b2⟩ := aft h hPS hl hF hI hok (Nat.le_refl _) (fun k hk => hk.elim)
        exact ⟨rfl, b1, b2⟩
    · refine (addB PS N (N + 1) (M + m) M (N + 2 + 2 * M) (N + 3 + 2 * M) (len M) (cap M) N t e v cnt room (xt M) (xw M) w h.p0 h.p1 h.p2 h.p3 h.pf hfull (by omega) (by omega) hn (h.bld.ct M (by omega)) (h.bld.cw M (by omega)) (h.bld.tf.frozen M) (h.bld.wf.frozen M) (h.ot M (by omega)) (h.ow M (by omega)) (by omega) (by omega) (by omega) (by omega) (by omega) (by omega) (by omega) (by omega) (by omega) (by omega) (by omega) hc).mono ?_
      rintro e' w' ⟨rfl, hok⟩
      obtain ⟨b1, b2⟩ := aft h hPS hl hF hI hok (Nat.le_refl _) (fun k hk => ⟨M, Nat.le_refl _, by omega, hk⟩)
      exact ⟨rfl, b1, b2⟩
end Go.Proofs.YbulkfslyFmt
