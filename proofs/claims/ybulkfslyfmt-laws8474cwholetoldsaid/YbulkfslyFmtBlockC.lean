import Derived.Test.YbulkfslyFmtBlk
namespace Go.Proofs.YbulkfslyFmt
open Go.RowKit
set_option linter.unusedVariables false
set_option linter.unusedSimpArgs false

/-- The first L cells of block B are there. -/
def Full (w : World) (B L : Nat) : Prop := ∀ j, j < L → (w.cell? ⟨B, j, none⟩).isSome = true
def rowOf (w : World) (B L : Nat) : List Value := (List.range L).map fun j => (w.cell? ⟨B, j, none⟩).getD undef
/-- The grown row: the old cells, a nil slice, the spare. -/
def grownRow (w : World) (B L cap : Nat) : Array Value := (rowOf w B L).toArray ++ #[.slice none 0 0] ++ Builtin.zeroCells #[.slice none 0 0] (cap - (L + 1))

theorem Full_alloc (w : World) (o : Obj) (B L : Nat) (h : B < w.heap.size) : Full (w.alloc o) B L = Full w B L := by
  unfold Full
  have e : ∀ j, (w.alloc o).cell? ⟨B, j, none⟩ = w.cell? ⟨B, j, none⟩ := fun j => World.cell?_alloc_lt _ _ _ h
  simp only [e]
theorem Full_drew (w : World) (B L : Nat) : Full w.drew B L = Full w B L := propext Iff.rfl
theorem rowOf_alloc (w : World) (o : Obj) (B L : Nat) (h : B < w.heap.size) : rowOf (w.alloc o) B L = rowOf w B L := by
  unfold rowOf
  have e : ∀ j, (w.alloc o).cell? ⟨B, j, none⟩ = w.cell? ⟨B, j, none⟩ := fun j => World.cell?_alloc_lt _ _ _ h
  simp only [e]
theorem rowOf_drew (w : World) (B L : Nat) : rowOf w.drew B L = rowOf w B L := rfl

theorem grow_run (w : World) (t e : TypeId) (hu : Ybaf.prog.underlying t = some (.slice e)) (hinf : (Ybaf.prog.info? e).map (fun i => (i.zero, i.size, i.bytes)) = some (some (.slice none 0 0), 1, 24)) (B L ad : Nat) (hL : L ≤ 65536) (hf : Full w B L)
    (hn : w.cell? ⟨ad, 0, none⟩ = some (.slice none 0 0)) :
    (Builtin.append_ #[t, t] t #[.slice (some ⟨B, 0, none⟩) L L, .slice (some ⟨ad, 0, none⟩) 1 1]).run Ybaf.prog w = .ok (.slice (some ⟨w.heap.size, 0, none⟩) (L + 1) (grownCap w (L + 1) L e)) (w.alloc (.cells (grownRow w B L (grownCap w (L + 1) L e)) e)).drew := by
  obtain ⟨i, hi, h0, h1, h2⟩ := info_parts hinf
  have hadd : ∀ b j : Nat, (⟨b, 0, none⟩ : Addr).add j = ⟨b, j, none⟩ := fun b j => by unfold Addr.add; split <;> simp_all
  refine run_append_grow (P := Ybaf.prog) w t t e i _ hu hi h0 ⟨B, 0, none⟩ L L (rowOf w B L) (by simp [rowOf, h1]) ?_ ⟨ad, 0, none⟩ 1 1 [.slice none 0 0] (by simp [h1]) ?_ (by omega) (by omega) (growslice_fits (by omega) (by rw [h2]; omega))
  · intro j v hj
    rw [hadd]
    simp only [rowOf, List.getElem?_map, Option.map_eq_some_iff] at hj
    obtain ⟨x, hx, rfl⟩ := hj
    obtain ⟨hl, e⟩ := List.getElem?_eq_some_iff.1 hx
    simp at hl e
    subst e
    have := hf j hl
    rw [Option.isSome_iff_exists] at this
    obtain ⟨u, hu⟩ := this
    simp [hu]
  · intro j v hj
    match j, hj with
    | 0, hj => simp at hj; subst hj; exact hn
theorem appT (w : World) (B L ad : Nat) (hL : L ≤ 65536) (hf : Full w B L) (hn : w.cell? ⟨ad, 0, none⟩ = some (.slice none 0 0)) :
    (Builtin.append_ #[24, 24] 24 #[.slice (some ⟨B, 0, none⟩) L L, .slice (some ⟨ad, 0, none⟩) 1 1]).run Ybaf.prog w = .ok (.slice (some ⟨w.heap.size, 0, none⟩) (L + 1) (grownCap w (L + 1) L 26)) (w.alloc (.cells (grownRow w B L (grownCap w (L + 1) L 26)) 26)).drew :=
  grow_run w 24 26 Ybaf.underlying24 info26 B L ad hL hf hn
theorem appW (w : World) (B L ad : Nat) (hL : L ≤ 65536) (hf : Full w B L) (hn : w.cell? ⟨ad, 0, none⟩ = some (.slice none 0 0)) :
    (Builtin.append_ #[25, 25] 25 #[.slice (some ⟨B, 0, none⟩) L L, .slice (some ⟨ad, 0, none⟩) 1 1]).run Ybaf.prog w = .ok (.slice (some ⟨w.heap.size, 0, none⟩) (L + 1) (grownCap w (L + 1) L 27)) (w.alloc (.cells (grownRow w B L (grownCap w (L + 1) L 27)) 27)).drew :=
  grow_run w 25 27 Ybaf.underlying25 info27 B L ad hL hf hn
theorem nestF (w : World) (B L : Nat) (h : B < w.heap.size) (hf : Full w B L) : (∀ o, Full (w.alloc o) B L) ∧ (∀ o o', Full ((w.alloc o).alloc o') B L) ∧ (∀ o o' o'', Full (((w.alloc o).alloc o').alloc o'') B L) := by
  refine ⟨fun o => ?_, fun o o' => ?_, fun o o' o'' => ?_⟩
  · rw [Full_alloc _ _ _ _ h]; exact hf
  · rw [Full_alloc _ _ _ _ (by simp; omega), Full_alloc _ _ _ _ h]; exact hf
  · rw [Full_alloc _ _ _ _ (by simp; omega), Full_alloc _ _ _ _ (by simp; omega), Full_alloc _ _ _ _ h]; exact hf

theorem nestC (w : World) : (∀ t, (w.alloc (.cells #[.slice none 0 0] t)).cell? ⟨w.heap.size, 0, none⟩ = some (.slice none 0 0)) ∧
    (∀ t o, ((w.alloc (.cells #[.slice none 0 0] t)).alloc o).cell? ⟨w.heap.size, 0, none⟩ = some (.slice none 0 0)) ∧
    (∀ o t, ((w.alloc o).alloc (.cells #[.slice none 0 0] t)).cell? ⟨w.heap.size + 1, 0, none⟩ = some (.slice none 0 0)) ∧
    (∀ t o o', (((w.alloc (.cells #[.slice none 0 0] t)).alloc o).alloc o').cell? ⟨w.heap.size, 0, none⟩ = some (.slice none 0 0)) ∧
    (∀ o t o', (((w.alloc o).alloc (.cells #[.slice none 0 0] t)).alloc o').cell? ⟨w.heap.size + 1, 0, none⟩ = some (.slice none 0 0)) ∧
    (∀ o o' t, (((w.alloc o).alloc o').alloc (.cells #[.slice none 0 0] t)).cell? ⟨w.heap.size + 1 + 1, 0, none⟩ = some (.slice none 0 0)) := by
  have k1 : ∀ (w : World) t, (w.alloc (.cells #[.slice none 0 0] t)).cell? ⟨w.heap.size, 0, none⟩ = some (.slice none 0 0) := fun w t => by simp
  have k2 : ∀ (w : World) o t, ((w.alloc o).alloc (.cells #[.slice none 0 0] t)).cell? ⟨w.heap.size + 1, 0, none⟩ = some (.slice none 0 0) := fun w o t => by have := k1 (w.alloc o) t; rw [World.size_alloc] at this; exact this
  refine ⟨k1 w, fun t o => ?_, k2 w, fun t o o' => ?_, fun o t o' => ?_, fun o o' t => ?_⟩
  · rw [World.cell?_alloc_lt _ _ _ (by simp)]; exact k1 w t
  · rw [World.cell?_alloc_lt _ _ _ (by simp; omega), World.cell?_alloc_lt _ _ _ (by simp)]; exact k1 w t
  · rw [World.cell?_alloc_lt _ _ _ (by simp)]; exact k2 w o t
  · have := k2 (w.alloc o) o' t; rw [World.size_alloc] at this; exact this

/-- A row of slices that grows, at a step of a region that draws its order. -/
theorem step_app {P : Program} {ops : Array Oper} {o : Oper} {a : Act} {w : World} {K : Act → World → Prop} {Q : Exit → Act → World → Prop} {E : Prop} (hgd : o.guard = none) (s x : Operand) (t : TypeId)
    (ho : o.op = .call { callee := .builtin .append, args := #[s, x], argTypes := #[t, t] }) (hty : o.type = t) (u1 u2 v : Value) (w' : World) (hs : a.eval s = u1) (hx : a.eval x = u2)
    (hr : (Builtin.append_ #[t, t] t #[u1, u2]).run P w = .ok v w') (h : K (a.put o.dst v) w') :
    if Region.wanted o (yielded ops a.tmps) = true then Oper.wp P o a w K Q else E := by
  have hw : Region.wanted o (yielded ops a.tmps) = true := by simp [Region.wanted, hgd]
  rw [if_pos hw]
  subst hs hx
  unfold Oper.wp execOp
  simp only [ho, hty, resolve, invoke, builtin, Sem.run_bind, Sem.run_pure, Result.andThen_ok, List.map_toArray, List.map_cons, List.map_nil, hr]
  exact h

theorem grownRow_at (wT w : World) (B L C : Nat) (hr : rowOf wT B L = rowOf w B L) (hf : Full w B L) : (∀ i, i < L → (grownRow wT B L C)[i]? = w.cell? ⟨B, i, none⟩) ∧ (grownRow wT B L C)[L]? = some (.slice none 0 0) := by
  have hl : (rowOf w B L).length = L := by simp [rowOf]
  have ha : ∀ i, i < L + 1 → (grownRow wT B L C)[i]? = (rowOf w B L ++ [.slice none 0 0])[i]? := by
    intro i hi
    unfold grownRow
    rw [hr, Array.getElem?_append_left (by simp [hl]; omega)]
    rw [show (#[Value.slice none 0 0] : Array Value) = [Value.slice none 0 0].toArray from rfl, List.append_toArray, List.getElem?_toArray]
  refine ⟨fun i hi => ?_, ?_⟩
  · rw [ha i (by omega), List.getElem?_append_left (by omega)]
    simp only [rowOf, List.getElem?_map, List.getElem?_range hi, Option.map_some]
    have := hf i hi
    rw [Option.isSome_iff_exists] at this
    obtain ⟨u, hu⟩ := this
    simp [hu]
  · rw [ha L (by omega), List.getElem?_append_right (by omega)]
    simp [hl]

theorem Blk_grow {w wT wW Wf : World} {PS TB WB L base X Y C1 C2 : Nat} {o1 o2 o3 o4 : Obj} {v0 v1 : Value}
    (hWf : Wf = (((((((w.setCell ⟨PS, 0, none⟩ (.slice (some ⟨X, 0, none⟩) (L + 1) C1)).setCell ⟨PS, 1, none⟩ (.slice (some ⟨Y, 0, none⟩) (L + 1) C2)).alloc o1).alloc o2).alloc o3).alloc o4).drew.drew.drew))
    (p0 : w.cell? ⟨PS, 0, none⟩ = some v0) (p1 : w.cell? ⟨PS, 1, none⟩ = some v1)
    (hX : Wf.heap[X]? = some (.cells (grownRow wT TB L C1) 26)) (hY : Wf.heap[Y]? = some (.cells (grownRow wW WB L C2) 27)) (hrT : rowOf wT TB L = rowOf w TB L) (hrW : rowOf wW WB L = rowOf w WB L) (hfT : Full w TB L) (hfW : Full w WB L)
    (hXl : w.heap.size ≤ X) (hYl : w.heap.size ≤ Y) (hXY : X ≠ Y) (hPT : PS ≠ TB) (hPW : PS ≠ WB) :
    Blk w Wf PS TB WB L base X Y C1 C2 (.slice none 0 0) (.slice none 0 0) := by
  have lP : PS < w.heap.size := World.block_lt_of_cell? w _ p0
  have hb : ∀ k, k < w.heap.size → Wf.heap[k]? = ((w.setCell ⟨PS, 0, none⟩ (.slice (some ⟨X, 0, none⟩) (L + 1) C1)).setCell ⟨PS, 1, none⟩ (.slice (some ⟨Y, 0, none⟩) (L + 1) C2)).heap[k]? := by
    intro k hk
    rw [hWf]
    show (((((w.setCell _ _).setCell _ _).alloc o1).alloc o2).alloc o3 |>.alloc o4).heap[k]? = _
    rw [Below.heap_alloc _ _ _ (by simp; omega), Below.heap_alloc _ _ _ (by simp; omega), Below.heap_alloc _ _ _ (by simp; omega), Below.heap_alloc _ _ _ (by simp; omega)]
  have hbk : ∀ k, k < w.heap.size → k ≠ PS → Wf.heap[k]? = w.heap[k]? := by
    intro k hk hp
    rw [hb k hk, Below.heap_setCell _ _ _ _ hp, Below.heap_setCell _ _ _ _ hp]
  have hcP : ∀ j, Wf.cell? ⟨PS, j, none⟩ = ((w.setCell ⟨PS, 0, none⟩ (.slice (some ⟨X, 0, none⟩) (L + 1) C1)).setCell ⟨PS, 1, none⟩ (.slice (some ⟨Y, 0, none⟩) (L + 1) C2)).cell? ⟨PS, j, none⟩ := fun j => World.cell?_of_block (a := ⟨PS, j, none⟩) (hb PS lP)
  have hfP : ∀ j, Wf.frozen? ⟨PS, j, none⟩ = ((w.setCell ⟨PS, 0, none⟩ (.slice (some ⟨X, 0, none⟩) (L + 1) C1)).setCell ⟨PS, 1, none⟩ (.slice (some ⟨Y, 0, none⟩) (L + 1) C2)).frozen? ⟨PS, j, none⟩ := fun j => World.frozen?_of_block (a := ⟨PS, j, none⟩) (hb PS lP)
  have gT := grownRow_at wT w TB L C1 hrT hfT
  have gW := grownRow_at wW w WB L C2 hrW hfW
  have cX : ∀ i, Wf.cell? ⟨X, i, none⟩ = (grownRow wT TB L C1)[i]? := fun i => by simp [World.cell?, hX]
  have cY : ∀ i, Wf.cell? ⟨Y, i, none⟩ = (grownRow wW WB L C2)[i]? := fun i => by simp [World.cell?, hY]
  refine ⟨?_, ?_, ?_, ?_, (cX L).trans gT.2, (cY L).trans gW.2, by simp [World.frozen?, hX], by simp [World.frozen?, hY], fun i hi => (cX i).trans (gT.1 i hi), fun i hi => (cY i).trans (gW.1 i hi), World.ownsRow_nil _ _ _ _, World.ownsRow_nil _ _ _ _, fun k hk h1 _ _ => hbk k hk h1, .inr hXl, .inr hYl, hXY, by simp [Value.ownBlock], by simp [Value.ownBlock], by simp [Value.ownBlock], by simp [Value.ownBlock], by simp [Value.ownBlock], by simp [Value.ownBlock], by simp [Value.ownBlock], by rw [hWf]; rfl, by rw [hWf]; rfl, by rw [hWf]; rfl, ?_⟩
  · rw [hcP, World.cell?_setCell_other _ _ _ _ (by simp)]
    exact World.cell?_setCell_same _ _ _ p0
  · rw [hcP]
    exact World.cell?_setCell_same _ _ _ ((World.cell?_setCell_other _ _ _ _ (by simp)).trans p1)
  · intro j h0 h1
    rw [hcP, World.cell?_setCell_other _ _ _ _ (by intro e; cases e; exact h1 rfl), World.cell?_setCell_other _ _ _ _ (by intro e; cases e; exact h0 rfl)]
  · intro j; rw [hfP]; simp
  · rw [hWf]; simp; omega

theorem nest4 (w : World) (o1 o2 o3 o4 : Obj) (N : Nat) (hN : w.heap.size = N) :
    (((((w.alloc o1).alloc o2).alloc o3).alloc o4).drew.drew.drew).heap[N + 1]? = some o2 ∧ (((((w.alloc o1).alloc o2).alloc o3).alloc o4).drew.drew.drew).heap[N + 1 + 1]? = some o3 ∧ (((((w.alloc o1).alloc o2).alloc o3).alloc o4).drew.drew.drew).heap[N + 1 + 1 + 1]? = some o4 := by
  subst hN
  have e : (((((w.alloc o1).alloc o2).alloc o3).alloc o4).drew.drew.drew).heap = (((w.heap.push o1).push o2).push o3).push o4 := rfl
  rw [e]
  refine ⟨?_, ?_, ?_⟩
  · rw [Array.getElem?_push, if_neg (by simp), Array.getElem?_push, if_neg (by simp), Array.getElem?_push, if_pos (by simp)]
  · rw [Array.getElem?_push, if_neg (by simp), Array.getElem?_push, if_pos (by simp)]
  · rw [Array.getElem?_push, if_pos (by simp)]

set_option maxRecDepth 1000000 in
set_option maxHeartbeats 8000000 in
theorem blockC (PS TB WB L base : Nat) (w : World) (p0 : w.cell? ⟨PS, 0, none⟩ = some (.slice (some ⟨TB, 0, none⟩) L L)) (p1 : w.cell? ⟨PS, 1, none⟩ = some (.slice (some ⟨WB, 0, none⟩) L L))
    (z0 : w.frozen? ⟨PS, 0, none⟩ = false) (z1 : w.frozen? ⟨PS, 1, none⟩ = false)
    (hfull : ∀ l, L = l + 1 → ∃ a c, w.cell? ⟨TB, l, none⟩ = some (.slice a 65536 c)) (hLL : L ≤ 65536)
    (ht : Full w TB L) (hw : Full w WB L) (hTBl : TB < w.heap.size) (hWBl : WB < w.heap.size)
    (hPT : PS ≠ TB) (hPW : PS ≠ WB) (hTW : TB ≠ WB) (hbase : base ≤ w.heap.size) :
    Calls Ybaf.prog 11 #[.pointer (some ⟨PS, 0, none⟩)] w fun e w' => e = .returned (.int .i64 (L : Int)) ∧ ∃ X Y C1 C2 tv wv, Blk w w' PS TB WB L base X Y C1 C2 tv wv ∧ w.heap.size ≤ X ∧ w.heap.size ≤ Y ∧ (∀ k, tv.ownBlock = some k → w.heap.size ≤ k) ∧ (∀ k, wv.ownBlock = some k → w.heap.size ≤ k) := by
  have h2 : (0 : Int) ≤ (L : Int) := by omega
  have h3 : ¬ (L : Int) < (L : Int) := by omega
  have lP : PS < w.heap.size := World.block_lt_of_cell? w _ p0
  go_enter Ybaf.func11, Ybaf.ntmps11
  go_upto_region 2 with fail
  go_cut [3, 22] (fun s3 s wc => s3 = .int .i64 ((L : Int) - 1) ∧ s = .bool false ∧ wc = w)
  case first =>
    cases L with
    | zero =>
      have h7 : decide ((0 : Int) ≤ ((0 : Nat) : Int) - 1) = false := by decide
      go_wp2
      go_meet
      case rel => exact ⟨rfl, rfl, rfl⟩
    | succ l =>
      obtain ⟨fa, fc, hf⟩ := hfull l rfl
      have h7 : ((l + 1 : Nat) : Int) - 1 = (l : Int) := by omega
      have h8 : (0 : Int) ≤ (l : Int) := by omega
      have h9 : (l : Int) < ((l + 1 : Nat) : Int) := by omega
      go_wp2
      go_meet
      case rel => exact ⟨by first | rfl | (congr 1; omega), rfl, rfl⟩
  case rest =>
    obtain ⟨rfl, rfl, hww⟩ := hcut
    have hww' : w = wc := hww.symm
    subst hww'
    clear hww
    have h6 : (L : Int) - 1 + 1 = (L : Int) := by omega
    have h10 : decide ((L : Int) < (L : Int)) = false := by simp
    go_upto_if 41 with fail
    go_cut [3] (fun s wq => s = .int .i64 (L : Int) ∧ ∃ X Y C1 C2, Blk w wq PS TB WB L base X Y C1 C2 (.slice none 0 0) (.slice none 0 0) ∧ w.heap.size ≤ X ∧ w.heap.size ≤ Y)
    case first =>
      clear hfull
      have q1 : PS < w.heap.size + 1 := by omega
      have q2 : PS < w.heap.size + 1 + 1 := by omega
      have q3 : PS < w.heap.size + 1 + 1 + 1 := by omega
      have s1 : TB < w.heap.size + 1 := by omega
      have s2 : TB < w.heap.size + 1 + 1 := by omega
      have s3 : TB < w.heap.size + 1 + 1 + 1 := by omega
      have r1 : WB < w.heap.size + 1 := by omega
      have r2 : WB < w.heap.size + 1 + 1 := by omega
      have r3 : WB < w.heap.size + 1 + 1 + 1 := by omega
      have HF : Hid (Full w TB L ∧ Full w WB L) := ⟨ht, hw⟩
      have f : Hid _ := nestF w TB L hTBl ht
      have g : Hid _ := nestF w WB L hWBl hw
      have n : Hid _ := nestC w
      clear ht hw
      go_upto_region 8 with fail
      go_region_law (first
        | refine step_app (by rfl) _ _ 24 (by rfl) (by rfl) _ _ _ _ (by rfl) (by rfl) (appT _ TB L _ hLL (by simp only [Full_drew]; first | with_reducible exact f.out.1 _ | with_reducible exact f.out.2.1 _ _ | with_reducible exact f.out.2.2 _ _ _) (by simp only [World.cell?_drew]; first | with_reducible exact n.out.1 _ | with_reducible exact n.out.2.1 _ _ | with_reducible exact n.out.2.2.1 _ _ | with_reducible exact n.out.2.2.2.1 _ _ _ | with_reducible exact n.out.2.2.2.2.1 _ _ _ | with_reducible exact n.out.2.2.2.2.2 _ _ _)) ?_
        | refine step_app (by rfl) _ _ 25 (by rfl) (by rfl) _ _ _ _ (by rfl) (by rfl) (appW _ WB L _ hLL (by simp only [Full_drew]; first | with_reducible exact g.out.1 _ | with_reducible exact g.out.2.1 _ _ | with_reducible exact g.out.2.2 _ _ _) (by simp only [World.cell?_drew]; first | with_reducible exact n.out.1 _ | with_reducible exact n.out.2.1 _ _ | with_reducible exact n.out.2.2.1 _ _ | with_reducible exact n.out.2.2.2.1 _ _ _ | with_reducible exact n.out.2.2.2.2.1 _ _ _ | with_reducible exact n.out.2.2.2.2.2 _ _ _)) ?_)
      all_goals (go_wp2; go_meet)
      all_goals go_light
      all_goals (refine ⟨rfl, _, _, _, _, Blk_grow rfl p0 p1 (by first | exact (nest4 _ _ _ _ _ _ (by simp)).1 | exact (nest4 _ _ _ _ _ _ (by simp)).2.1) (nest4 _ _ _ _ _ _ (by simp)).2.2 (by simp [rowOf_alloc, rowOf_drew, *]) (by simp [rowOf_alloc, rowOf_drew, *]) HF.out.1 HF.out.2 (by omega) (by omega) (by omega) hPT hPW, by omega, by omega⟩)
    case rest =>
      obtain ⟨rfl, X, Y, C1, C2, hblk, hX, hY⟩ := hcut
      refine (‹∀ (a : Act) (w : World), Code.wp _ _ _ a w → _› _ _ ?_)
      refine block9 PS TB WB L base X Y C1 C2 0 0 none none w wc _ hblk (by omega) (by omega) hLL hbase ?_
      intro w' tv wv hb' h1 h2
      exact ⟨rfl, X, Y, C1, C2, tv, wv, hb', hX, hY, fun k hk => (h1 k hk).elim (fun e => by simp [Value.ownBlock] at e) id, fun k hk => (h2 k hk).elim (fun e => by simp [Value.ownBlock] at e) id⟩
end Go.Proofs.YbulkfslyFmt
