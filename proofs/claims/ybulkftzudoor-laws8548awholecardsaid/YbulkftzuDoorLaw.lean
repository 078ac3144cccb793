import Derived.Test.YbulkftzuDoorP7
namespace Go.Proofs.YbulkftzuDoor
open Go.RowKit
set_option linter.unusedVariables false
set_option linter.unusedSimpArgs false
attribute [local go_sem] frun_add frun_sub frun_mul frun_quo mrun run_store_float

/-- A struct literal, met at the list of operations: by its built cells. -/
theorem wpList_bld {P : Program} {ops : Array Oper} {rest : List Oper} {o : Oper} {a : Act} {w : World} {Q : Exit → Act → World → Prop} (hg : o.guard = none) (t : TypeId) (ps : List (Nat × Operand)) (ho : o.op = .build t ps.toArray)
    (vs : List (Nat × Value)) (cells : Array Value) (hc : P.built t vs = some cells) (hv : ps.map (fun p => (p.1, a.eval p.2)) = vs)
    (h : wpList P ops Q rest (a.put o.dst (.agg cells)) w) : wpList P ops Q (o :: rest) a w := by
  subst hv
  refine wpList_build hg t ps.toArray ho ?_ ?_
  · have e : (ps.toArray.map fun (i, x) => (i, a.eval x)).toList = ps.map (fun p => (p.1, a.eval p.2)) := by simp
    rw [e, hc]; rfl
  · simpa [hc] using h

theorem job_ (share : Nat) : ∃ cells : Array Value, Ybad.prog.built 38 [(1, .float .f64 share)] = some cells ∧ cells[0]? = some (.string ⟨#[]⟩) ∧ cells[1]? = some (.float .f64 share) ∧ cells[3]? = some (.bool false) ∧ cells[15]? = some (.bool false) := by
  have h : (Ybad.prog.built 38 [(1, .float .f64 share)]).map (fun c => (c[0]?, c[1]?, c[3]?, c[15]?)) = some (some (.string ⟨#[]⟩), some (.float .f64 share), some (.bool false), some (.bool false)) := by kernel_rfl
  obtain ⟨cells, h1, h2⟩ := Option.map_eq_some_iff.1 h
  simp only [Prod.mk.injEq] at h2
  exact ⟨cells, h1, h2.1, h2.2.1, h2.2.2.1, h2.2.2.2⟩
theorem built25 (a b : Nat) : Ybad.prog.built 25 [(0, .float .f64 a), (1, .float .f64 b)] = some #[.float .f64 a, .float .f64 b] := by kernel_rfl
theorem built40 (a b : Nat) : Ybad.prog.built 40 [(0, .float .f64 a), (1, .float .f64 b)] = some #[.float .f64 a, .float .f64 b] := by kernel_rfl

theorem limited (W : World) (l wt held hsh share av : Nat) (i p : Int) (jc : Array Value) (hg : W.cell? ⟨0, 0, none⟩ = some (.float .f64 9218868437227405312)) (j0 : jc[0]? = some (.string ⟨#[]⟩)) (j1 : jc[1]? = some (.float .f64 share)) (j3 : jc[3]? = some (.bool false)) (j15 : jc[15]? = some (.bool false)) :
    Calls Ybad.prog 4 #[.pointer (some ⟨W.heap.size, 0, none⟩), .agg #[.float .f64 l, .float .f64 wt], .pointer (some ⟨W.heap.size + 1, 0, none⟩), .float .f64 av, .int .i64 i, .int .i64 p] (((W.alloc (.cells #[.float .f64 held, .float .f64 hsh] 25)).alloc (.cells jc 38)).alloc (.cells #[.float .f64 l, .float .f64 wt] 40)) fun e w' =>
      ∃ V S, e = .returned (.float .f64 V) ∧ V = heldV (slackO i p) l held (sharedV share av) (gtB share hsh) ∧ (S = if (FloatKind.f64.format.order V held != some .eq) = true then share else hsh) ∧ LS W w' W.heap.size (W.heap.size + 1) V S share := by
  have glt : 0 < W.heap.size := World.block_lt_of_cell? W _ hg
  have n1 := heap_alloc_new W (.cells #[.float .f64 held, .float .f64 hsh] 25)
  have z1 : (W.alloc (.cells #[.float .f64 held, .float .f64 hsh] 25)).heap.size = W.heap.size + 1 := by simp
  have b1 : Below W.heap.size W (W.alloc (.cells #[.float .f64 held, .float .f64 hsh] 25)) := (Below.refl _ _).alloc (Nat.le_refl _) _
  generalize W.alloc (.cells #[.float .f64 held, .float .f64 hsh] 25) = w1 at n1 z1 b1 ⊢
  have n2 := heap_alloc_new w1 (.cells jc 38)
  have z2 : (w1.alloc (.cells jc 38)).heap.size = w1.heap.size + 1 := by simp
  have b2 : Below w1.heap.size w1 (w1.alloc (.cells jc 38)) := (Below.refl _ _).alloc (Nat.le_refl _) _
  generalize w1.alloc (.cells jc 38) = w2 at n2 z2 b2 ⊢
  have z3 : (w2.alloc (.cells #[.float .f64 l, .float .f64 wt] 40)).heap.size = w2.heap.size + 1 := by simp
  have b3 : Below w2.heap.size w2 (w2.alloc (.cells #[.float .f64 l, .float .f64 wt] 40)) := (Below.refl _ _).alloc (Nat.le_refl _) _
  generalize w2.alloc (.cells #[.float .f64 l, .float .f64 wt] 40) = w3 at z3 b3 ⊢
  have hb3 : Below W.heap.size W w3 := (b1.trans (b2.mono (by omega))).trans (b3.mono (by omega))
  have H3 : w3.heap[W.heap.size]? = some (.cells #[.float .f64 held, .float .f64 hsh] 25) := by rw [b3.block _ (by omega), b2.block _ (by omega), n1]
  have J3 : w3.heap[W.heap.size + 1]? = some (.cells jc 38) := by rw [b3.block _ (by omega), ← z1, n2]
  have hg3 : w3.cell? ⟨0, 0, none⟩ = some (.float .f64 9218868437227405312) := (hb3.cell (by exact glt)).trans hg
  have jj : ∀ c, w3.cell? ⟨W.heap.size + 1, c, none⟩ = jc[c]? := fun c => cell_block J3 c
  refine (limit_ W.heap.size (W.heap.size + 1) l wt held hsh share av i p w3 H3 (by rw [jj]; exact j1) hg3 (by omega) (by omega)).mono ?_
  rintro e w4 ⟨rfl, hl⟩
  have kk : ∀ c, w4.cell? ⟨W.heap.size + 1, c, none⟩ = jc[c]? := fun c => (World.cell?_of_block (a := ⟨W.heap.size + 1, c, none⟩) (hl.block (W.heap.size + 1) (by omega) (by omega))).trans (jj c)
  refine ⟨_, _, rfl, rfl, rfl, hl.h0, hl.h1, by rw [kk]; exact j0, by rw [kk]; exact j1, by rw [kk]; exact j3, by rw [kk]; exact j15, ?_⟩
  exact hb3.trans ⟨hl.os, hl.tape, hl.output, hl.size, fun b hb => hl.block b (by omega) (by omega)⟩
set_option maxRecDepth 1000000 in
set_option maxHeartbeats 4000000 in
theorem law (W : World) (l wt held hsh share av : Nat) (i p : Int) (hg : W.cell? ⟨0, 0, none⟩ = some (.float .f64 9218868437227405312)) :
    Calls Ybad.prog 3 #[.float .f64 l, .float .f64 wt, .float .f64 held, .float .f64 hsh, .float .f64 share, .float .f64 av, .int .i64 i, .int .i64 p] W fun e w' => e = .returned (.bool true) ∧ Below W.heap.size W w' := by
  obtain ⟨jc, hjc, j0, j1, j3, j15⟩ := job_ share
  have H38 : Hid (Ybad.prog.built 38 [(1, .float .f64 share)] = some jc) := hjc
  have glt : 0 < W.heap.size := World.block_lt_of_cell? W _ hg
  have HJ : Hid (jc[0]? = some (.string ⟨#[]⟩) ∧ jc[1]? = some (.float .f64 share) ∧ jc[3]? = some (.bool false) ∧ jc[15]? = some (.bool false)) := ⟨j0, j1, j3, j15⟩
  clear hjc j0 j1 j3 j15
  go_enter Ybad.func3, Ybad.ntmps3
  refine wp_gen fun rc hrc => ?_
  go_wp2_with (first | refine wpList_bld (by rfl) 25 _ (by rfl) _ _ (built25 _ _) (by rfl) ?_ | refine wpList_bld (by rfl) 38 _ (by rfl) _ _ H38.out (by rfl) ?_ | refine wpList_bld (by rfl) 40 _ (by rfl) _ _ (built40 _ _) (by rfl) ?_)
  refine hrc _ _ ?_
  clear hrc rc
  refine wp_gen fun rc hrc => ?_
  go_wp2_with (first | refine wpList_bld (by rfl) 25 _ (by rfl) _ _ (built25 _ _) (by rfl) ?_ | refine wpList_bld (by rfl) 38 _ (by rfl) _ _ H38.out (by rfl) ?_ | refine wpList_bld (by rfl) 40 _ (by rfl) _ _ (built40 _ _) (by rfl) ?_)
  refine hrc _ _ ?_
  clear hrc rc
  refine wp_gen fun rc hrc => ?_
  go_wp2_with (first | refine wpList_bld (by rfl) 25 _ (by rfl) _ _ (built25 _ _) (by rfl) ?_ | refine wpList_bld (by rfl) 38 _ (by rfl) _ _ H38.out (by rfl) ?_ | refine wpList_bld (by rfl) 40 _ (by rfl) _ _ (built40 _ _) (by rfl) ?_)
  refine hrc _ _ ?_
  clear hrc rc
  refine wp_gen fun rc hrc => ?_
  go_wp2_with (first | refine wpList_bld (by rfl) 25 _ (by rfl) _ _ (built25 _ _) (by rfl) ?_ | refine wpList_bld (by rfl) 38 _ (by rfl) _ _ H38.out (by rfl) ?_ | refine wpList_bld (by rfl) 40 _ (by rfl) _ _ (built40 _ _) (by rfl) ?_)
  refine hrc _ _ ?_
  clear hrc rc
  clear H38
  refine wp_gen fun rc hrc => ?_
  go_wp2_with fail
  refine (limited W l wt held hsh share av i p jc hg HJ.out.1 HJ.out.2.1 HJ.out.2.2.1 HJ.out.2.2.2).mono ?_
  rintro e w4 ⟨V, S, rfl, hV, hS, hst⟩
  have HL : Hid (V = heldV (slackO i p) l held (sharedV share av) (gtB share hsh) ∧ (S = if (FloatKind.f64.format.order V held != some .eq) = true then share else hsh) ∧ LS W w4 W.heap.size (W.heap.size + 1) V S share) := ⟨hV, hS, hst⟩
  clear hV hS hst
  go_wp2_with fail
  first
    | refine hrc _ _ ?_
    | (refine (‹∀ (a : Act) (w : World), Code.wp _ _ _ a w → _› _ _ ?_); refine hrc _ _ ?_)
  clear hrc rc
  have HI : Hid (∀ w, Calls Ybad.prog 5 #[.int .i64 1] w fun e w' => e = .returned (.float .f64 9218868437227405312) ∧ w' = w) := inf_
  refine wp_gen fun rc hrc => ?_
  go_wp2_with (go_at_call 5; refine (HI.out _).mono ?_; rintro e w5 ⟨rfl, rfl⟩)
  refine hrc _ _ ?_
  clear hrc rc
  refine wp_gen fun rc hrc => ?_
  go_wp2_with fail
  refine hrc _ _ ?_
  clear hrc rc
  exact part7 W _ l held hsh share av W.heap.size (W.heap.size + 1) V S i p HL.out.1 HL.out.2.1 HL.out.2.2
end Go.Proofs.YbulkftzuDoor
