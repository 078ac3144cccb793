import Derived.Test.YbulkfsriRep
namespace Go.Proofs.Ybulkfsri
open Go.RowKit
set_option linter.unusedVariables false

theorem Turned.cell {w w1 : World} {s g : Nat} (h : Turned w w1 s g) {k o : Nat} (h1 : k ≠ s) (h2 : k ≠ g) : w1.cell? ⟨k, o, none⟩ = w.cell? ⟨k, o, none⟩ := by
  simp only [World.cell?, h.block k h1 h2]

/-- The world behind unslotReads, as the law needs it. -/
structure Aft (W w : World) (b off SB len hb hoff HB hl G : Nat) (wa ha : Option Addr) (fF fI fS fR fH : Nat → Int) (at_ sent lease : Int) : Prop where
  src : C4 w b off len fF fI fS fR
  row : C4 w SB 0 len fF fI (fun _ => 0) (fun _ => 0)
  hsrc : H1 w hb hoff hl fH
  hrow : H1 w HB 0 hl fH
  g0 : w.cell? ⟨G, 53, none⟩ = some (.slice wa len len)
  g1 : w.cell? ⟨G, 54, none⟩ = some (.int .u64 0)
  g2 : w.cell? ⟨G, 55, none⟩ = some (.slice ha 0 hl)
  g3 : w.cell? ⟨G, 56, none⟩ = some (.int .i64 at_)
  g4 : w.cell? ⟨G, 57, none⟩ = some (.int .i64 sent)
  g5 : w.cell? ⟨G, 58, none⟩ = some (.int .i64 lease)
  below : Below W.heap.size W w

theorem aft (W w : World) (wa ha : Option Addr) (b off SB len hb hoff HB hl : Nat) (fF fI fS fR fH : Nat → Int) (ro at_ sent lease : Int) (hnb : 0 < len → b < W.heap.size) (hnh : 0 < hl → hb < W.heap.size) (hsW : W.heap.size ≤ SB) (hsb : 0 < len → SB < w.heap.size) (hhb : 0 < hl → HB < w.heap.size) (hsh : 0 < hl → HB ≠ SB) (hsrc : C4 w b off len fF fI fS fR) (hrow : 0 < len → RowL w SB len len fF fI fS fR) (hhs : H1 w hb hoff hl fH) (hhr : H1 w HB 0 hl fH) (hbel : Below W.heap.size W w) {w3 : World}
    (hun : Un (w.alloc (.cells (repl wa ha len hl ro at_ sent lease) 80)) w3 SB w.heap.size len hl ha fF fI) :
    Aft W w3 b off SB len hb hoff HB hl w.heap.size wa ha fF fI fS fR fH at_ sent lease := by
  have hWw := hbel.size
  have hal : ∀ (k o : Nat), k < w.heap.size → (w.alloc (.cells (repl wa ha len hl ro at_ sent lease) 80)).cell? ⟨k, o, none⟩ = w.cell? ⟨k, o, none⟩ := fun k o hk => World.cell?_alloc_lt _ _ _ hk
  have hnew : ∀ o : Nat, (w.alloc (.cells (repl wa ha len hl ro at_ sent lease) 80)).cell? ⟨w.heap.size, o, none⟩ = (repl wa ha len hl ro at_ sent lease)[o]? := fun o => cell_block (heap_alloc_new _ _) o
  refine ⟨?_, ?_, ?_, ?_, ?_, hun.round, hun.heard, ?_, ?_, ?_, ?_⟩
  · intro j hj
    have e1 := hnb (by omega)
    have e : ∀ o, w3.cell? ⟨b, o, none⟩ = w.cell? ⟨b, o, none⟩ := fun o => (hun.turned.cell (by omega) (by omega)).trans (hal b o (by omega))
    simp only [e]
    exact hsrc j hj
  · intro j hj
    exact (hun.row (by omega)).2 j hj
  · intro j hj
    have e1 := hnh (by omega)
    have e : ∀ o, w3.cell? ⟨hb, o, none⟩ = w.cell? ⟨hb, o, none⟩ := fun o => (hun.turned.cell (by omega) (by omega)).trans (hal hb o (by omega))
    simp only [e]
    exact hhs j hj
  · intro j hj
    have e1 := hhb (by omega)
    have e : ∀ o, w3.cell? ⟨HB, o, none⟩ = w.cell? ⟨HB, o, none⟩ := fun o => (hun.turned.cell (hsh (by omega)) (by omega)).trans (hal HB o (by omega))
    simp only [e]
    exact hhr j hj
  · rw [hun.other 53 (by omega) (by omega), hnew]; rfl
  · rw [hun.other 56 (by omega) (by omega), hnew]; rfl
  · rw [hun.other 57 (by omega) (by omega), hnew]; rfl
  · rw [hun.other 58 (by omega) (by omega), hnew]; rfl
  · have t := hun.turned
    exact (hbel.alloc hWw (.cells (repl wa ha len hl ro at_ sent lease) 80)).trans ⟨t.os, t.tape, t.output, Nat.le_of_eq t.size.symm, fun k hk => t.block k (by omega) (by omega)⟩

theorem Aft.st {W w : World} {b off SB len hb hoff HB hl G : Nat} {wa ha : Option Addr} {fF fI fS fR fH : Nat → Int} {at_ sent lease : Int} (h : Aft W w b off SB len hb hoff HB hl G wa ha fF fI fS fR fH at_ sent lease) :
    St (w.alloc (.cells #[.slice wa len len, .int .u64 0, .slice ha 0 hl, .int .i64 at_, .int .i64 sent, .int .i64 lease] 33)) b off SB len hb hoff HB hl w.heap.size wa ha fF fI fS fR fH at_ sent lease ∧
      Below W.heap.size W (w.alloc (.cells #[.slice wa len len, .int .u64 0, .slice ha 0 hl, .int .i64 at_, .int .i64 sent, .int .i64 lease] 33)) := by
  have hal : ∀ (o : Obj) (p : Addr) (v : Value), w.cell? p = some v → (w.alloc o).cell? p = some v := fun o p v hp => by rw [World.cell?_alloc_lt _ _ _ (World.block_lt_of_cell? w _ hp)]; exact hp
  have hb := fun i => cell_block (heap_alloc_new w (.cells #[.slice wa len len, .int .u64 0, .slice ha 0 hl, .int .i64 at_, .int .i64 sent, .int .i64 lease] 33)) i
  refine ⟨⟨?_, ?_, ?_, ?_, ?_, ?_, ?_, ?_, ?_, ?_⟩, h.below.alloc h.below.size _⟩
  · intro j hj
    obtain ⟨h0, h1, h2, h3⟩ := h.src j hj
    exact ⟨hal _ _ _ h0, hal _ _ _ h1, hal _ _ _ h2, hal _ _ _ h3⟩
  · intro j hj
    obtain ⟨h0, h1, h2, h3⟩ := h.row j hj
    exact ⟨hal _ _ _ h0, hal _ _ _ h1, hal _ _ _ h2, hal _ _ _ h3⟩
  · intro j hj
    exact hal _ _ _ (h.hsrc j hj)
  · intro j hj
    exact hal _ _ _ (h.hrow j hj)
  all_goals (rw [hb]; rfl)
end Go.Proofs.Ybulkfsri
