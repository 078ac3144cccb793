import Derived.Test.YbulkfslyFmtClone
import Derived.LaidEqlPtr
import Derived.Deep.RegionLaw
namespace Go.Proofs.YbulkfslyFmt
open Go.RowKit
set_option linter.unusedVariables false
set_option linter.unusedSimpArgs false

/-- The number of the first region of a piece of code. -/
def firstId : Code → Option Nat
  | .region i _ _ => some i
  | .seq a _ => firstId a
  | .block _ b => firstId b
  | .loop b => firstId b
  | .scope b => firstId b
  | _ => none
/-- What is left of a body from the statement on that opens with region 'id'. -/
def tailAt (id : Nat) : Code → Code
  | .seq a b => if firstId a == some id then .seq a b else tailAt id b
  | c => c

theorem run_store_float (P : Program) (w : World) (a : Addr) (m : Mode) (k : FloatKind) (n : Nat) : (store a (.float k n) m).run P w = stored P w a (.float k n) m := run_store P w a _ m rfl
attribute [local go_sem] run_store_float

/-- One slot of a row of slices has been set, its slice appended to: what else has turned. -/
structure Stepped (w w2 : World) (X b : Nat) (own : Option Nat) (nv : Value) : Prop where
  cell : w2.cell? ⟨X, b, none⟩ = some nv
  other : ∀ j, j ≠ b → w2.cell? ⟨X, j, none⟩ = w.cell? ⟨X, j, none⟩
  frozen : ∀ j, w2.frozen? ⟨X, j, none⟩ = w.frozen? ⟨X, j, none⟩
  block : ∀ k, k < w.heap.size → k ≠ X → some k ≠ own → w2.heap[k]? = w.heap[k]?
  os : w2.os = w.os
  tape : w2.tape = w.tape
  output : w2.output = w.output
  size : w.heap.size ≤ w2.heap.size

theorem stepped_of {w w1 : World} {X b : Nat} {own : Option Nat} {old nv : Value} {o : Obj} (hg : (w.alloc o).drew.grownBy w1 own) (hx : w.cell? ⟨X, b, none⟩ = some old) (hX : some X ≠ own) :
    Stepped w (w1.setCell ⟨X, b, none⟩ nv) X b own nv := by
  have hlt : X < w.heap.size := World.block_lt_of_cell? w _ hx
  have hb : w1.heap[X]? = w.heap[X]? := (hg.block X (by simp; omega) hX).trans (Below.heap_alloc w o X hlt)
  have hc : ∀ j, w1.cell? ⟨X, j, none⟩ = w.cell? ⟨X, j, none⟩ := fun j => World.cell?_of_block (a := ⟨X, j, none⟩) hb
  refine ⟨World.cell?_setCell_same w1 _ _ ((hc b).trans hx), fun j hj => ?_, fun j => ?_, fun k hk hkX hkr => ?_, hg.os, hg.tape, hg.output, ?_⟩
  · rw [World.cell?_setCell_other _ _ _ _ (by intro e; cases e; exact hj rfl)]; exact hc j
  · rw [World.frozen?_setCell]; exact World.frozen?_of_block (a := ⟨X, j, none⟩) hb
  · rw [Below.heap_setCell _ _ _ _ (by exact hkX), hg.block k (by simp; omega) hkr]
    exact Below.heap_alloc w o k hk
  · have := hg.size
    simp at this ⊢
    omega

theorem own_stepped {w1 : World} {base : Nat} {ty : TypeId} {size : Nat} {nv : Value} {n : Nat} {xs : List Value} (h : w1.ownsRow base ty size nv n xs) {X b : Nat} (hX : nv.ownBlock ≠ some X) (u : Value) : (w1.setCell ⟨X, b, none⟩ u).ownsRow base ty size nv n xs := by
  refine h.kept (row := some X) ⟨rfl, rfl, rfl, by simp, fun k _ hk => Below.heap_setCell _ _ _ _ (by intro e; exact hk (by rw [e]))⟩ (.inr hX)

theorem own_kept {w w2 : World} {base : Nat} {ty : TypeId} {size : Nat} {v : Value} {n : Nat} {xs : List Value} {X b : Nat} {own : Option Nat} {nv : Value} (hs : Stepped w w2 X b own nv) (h : w.ownsRow base ty size v n xs) (hX : v.ownBlock ≠ some X) (ho : ∀ k, v.ownBlock = some k → some k ≠ own) : w2.ownsRow base ty size v n xs := by
  obtain ⟨h1, h2⟩ := h
  refine ⟨h1, ?_⟩
  rcases h2 with h2 | ⟨g, cap, cur, rfl, hb, hg, h3⟩
  · exact .inl h2
  · refine .inr ⟨g, cap, cur, rfl, hb, ?_, h3⟩
    rw [hs.block g ((Array.getElem?_eq_some_iff.1 hg).1) (by intro e; exact hX (by rw [← e]; rfl)) (ho g rfl)]
    exact hg

/-- What 'add' leaves behind: the two slots set, the two slices longer by one, the count raised. -/
structure Added (w w' : World) (PS X Y b : Nat) (ob ow : Option Nat) (fs gs : List Value) (n base : Nat) (cnt : Int) : Prop where
  tcell : ∃ g c, w'.cell? ⟨X, b, none⟩ = some (.slice (some ⟨g, 0, none⟩) n c) ∧ w'.ownsRow base 22 1 (.slice (some ⟨g, 0, none⟩) n c) n fs ∧ (ob = some g ∨ w.heap.size ≤ g)
  wcell : ∃ g c, w'.cell? ⟨Y, b, none⟩ = some (.slice (some ⟨g, 0, none⟩) n c) ∧ w'.ownsRow base 29 2 (.slice (some ⟨g, 0, none⟩) n c) n gs ∧ (ow = some g ∨ w.heap.size ≤ g)
  count : w'.cell? ⟨PS, 2, none⟩ = some (.int .i64 cnt)
  ps : ∀ j, j ≠ 2 → w'.cell? ⟨PS, j, none⟩ = w.cell? ⟨PS, j, none⟩
  xs : ∀ j, j ≠ b → w'.cell? ⟨X, j, none⟩ = w.cell? ⟨X, j, none⟩
  ys : ∀ j, j ≠ b → w'.cell? ⟨Y, j, none⟩ = w.cell? ⟨Y, j, none⟩
  block : ∀ k, k < w.heap.size → k ≠ PS → k ≠ X → k ≠ Y → some k ≠ ob → some k ≠ ow → w'.heap[k]? = w.heap[k]?
  os : w'.os = w.os
  tape : w'.tape = w.tape
  output : w'.output = w.output
  size : w.heap.size ≤ w'.heap.size

theorem added_of {w wc wd : World} {PS X Y b n base : Nat} {tv wv : Value} {fs gs : List Value} {count cnt : Int} {g1 c1 h c : Nat}
    (hs1 : Stepped w wc X b tv.ownBlock (.slice (some ⟨g1, 0, none⟩) n c1)) (ho1 : wc.ownsRow base 22 1 (.slice (some ⟨g1, 0, none⟩) n c1) n fs) (hat1 : tv.ownBlock = some g1 ∨ w.heap.size ≤ g1)
    (hs2 : Stepped wc wd Y b wv.ownBlock (.slice (some ⟨h, 0, none⟩) n c)) (ho2 : wd.ownsRow base 29 2 (.slice (some ⟨h, 0, none⟩) n c) n gs) (hat2 : wv.ownBlock = some h ∨ wc.heap.size ≤ h)
    (q2 : wc.cell? ⟨PS, 2, none⟩ = some (.int .i64 count)) (lg : PS < w.heap.size) (lx : X < w.heap.size) (ly : Y < w.heap.size) (hPX : PS ≠ X) (hPY : PS ≠ Y) (hXY : X ≠ Y)
    (tY : tv.ownBlock ≠ some Y) (tP : tv.ownBlock ≠ some PS) (wX : wv.ownBlock ≠ some X) (wP : wv.ownBlock ≠ some PS) (hg : g1 ≠ Y ∧ wv.ownBlock ≠ some g1) :
    Added w (wd.setCell ⟨PS, 2, none⟩ (.int .i64 cnt)) PS X Y b tv.ownBlock wv.ownBlock fs gs n base cnt := by
  have s1 := hs1.size
  have s2 := hs2.size
  have hg1P : g1 ≠ PS := by
    intro e; subst e
    rcases hat1 with h | h
    · exact tP h
    · omega
  have hhP : h ≠ PS := by
    intro e; subst e
    rcases hat2 with h | h
    · exact wP h
    · omega
  have bX : wd.heap[X]? = wc.heap[X]? := hs2.block X (by omega) hXY (Ne.symm wX)
  have bP1 : wc.heap[PS]? = w.heap[PS]? := hs1.block PS lg hPX (Ne.symm tP)
  have bP2 : wd.heap[PS]? = wc.heap[PS]? := hs2.block PS (by omega) hPY (Ne.symm wP)
  have bY1 : wc.heap[Y]? = w.heap[Y]? := hs1.block Y ly (Ne.symm hXY) (Ne.symm tY)
  have hsetX : ∀ k j, k ≠ PS → (wd.setCell ⟨PS, 2, none⟩ (.int .i64 cnt)).cell? ⟨k, j, none⟩ = wd.cell? ⟨k, j, none⟩ := fun k j hk => World.cell?_setCell_other _ _ _ _ (by intro e; cases e; exact hk rfl)
  have cP2 : wd.cell? ⟨PS, 2, none⟩ = some (.int .i64 count) := (World.cell?_of_block (a := ⟨PS, 2, none⟩) bP2).trans q2
  refine ⟨⟨g1, c1, ?_, ?_, hat1⟩, ⟨h, c, ?_, ?_, orMap hat2 id (fun h => by omega)⟩, ?_, ?_, ?_, ?_, ?_, ?_, ?_, ?_, ?_⟩
  · rw [hsetX X b (Ne.symm hPX), World.cell?_of_block (a := ⟨X, b, none⟩) bX]; exact hs1.cell
  · refine own_stepped (own_kept hs2 ho1 (by simp [Value.ownBlock]; exact hg.1) ?_) (by simp [Value.ownBlock]; exact hg1P) _
    intro k hk e
    simp [Value.ownBlock] at hk
    subst hk
    exact hg.2 e.symm
  · rw [hsetX Y b (Ne.symm hPY)]; exact hs2.cell
  · exact own_stepped ho2 (by simp [Value.ownBlock]; exact hhP) _
  · exact World.cell?_setCell_same _ _ _ cP2
  · intro j hj
    rw [World.cell?_setCell_other _ _ _ _ (by intro e; cases e; exact hj rfl), World.cell?_of_block (a := ⟨PS, j, none⟩) bP2, World.cell?_of_block (a := ⟨PS, j, none⟩) bP1]
  · intro j hj
    rw [hsetX X j (Ne.symm hPX), World.cell?_of_block (a := ⟨X, j, none⟩) bX]; exact hs1.other j hj
  · intro j hj
    rw [hsetX Y j (Ne.symm hPY), hs2.other j hj]; exact World.cell?_of_block (a := ⟨Y, j, none⟩) bY1
  · intro k hk h1 h2 h3 h4 h5
    rw [Below.heap_setCell _ _ _ _ (by exact h1), hs2.block k (by omega) h3 h5]
    exact hs1.block k hk h2 h4
  · exact hs2.os.trans hs1.os
  · exact hs2.tape.trans hs1.tape
  · exact hs2.output.trans hs1.output
  · simp; omega

set_option maxRecDepth 1000000 in
set_option maxHeartbeats 4000000 in
theorem add5 (PS Y m C2 b n base t : Nat) (e v count : Int) (wv : Value) (gs : List Value) (w : World) (R : Ending → World → Prop) {u4 u5 u6 u7 u8 u10 u11 u12 u13 u14 u15 u16 u17 u18 u19 u20 u21 u22 u23 u24 u25 u26 u27 u28 u29 u30 u31 u32 u33 u34 u35 u36 u37 u38 u39 u40 u41 u42 u43 u44 u45 u46 u47 u48 u49 u50 u51 u52 u53 u54 u55 u56 u57 u58 u59 u60 u61 u62 u63 u64 u65 u66 u67 u68 u69 u70 : Value}
    (p1 : w.cell? ⟨PS, 1, none⟩ = some (.slice (some ⟨Y, 0, none⟩) m C2)) (p2 : w.cell? ⟨PS, 2, none⟩ = some (.int .i64 count)) (z2 : w.frozen? ⟨PS, 2, none⟩ = false)
    (y0 : w.cell? ⟨Y, b, none⟩ = some wv) (fy : w.frozen? ⟨Y, b, none⟩ = false)
    (ow : w.ownsRow base 29 2 wv n gs) (hb : b < m) (hn : n ≤ 65536) (hbase : base ≤ w.heap.size) (hm : m ≤ 1000000)
    (hPY : PS ≠ Y) (wY : wv.ownBlock ≠ some Y) (wP : wv.ownBlock ≠ some PS)
    (hR : ∀ wd h c, Stepped w wd Y b wv.ownBlock (.slice (some ⟨h, 0, none⟩) (n + 1) c) → wd.ownsRow base 29 2 (.slice (some ⟨h, 0, none⟩) (n + 1) c) (n + 1) (gs ++ [.int .i64 e, .int .i64 v]) → (wv.ownBlock = some h ∨ w.heap.size ≤ h) → R (.returned .nilIface) (wd.setCell ⟨PS, 2, none⟩ (.int .i64 (wrap64 (count + 1))))) :
    Code.wp Ybaf.prog ((Ybaf.f6.body.map (tailAt 5)).getD .skip) (bodyPost Ybaf.prog Ybaf.f6 R) ⟨#[.pointer (some ⟨PS, 0, none⟩), .float .f64 t, .int .i64 e, .int .i64 v, u4, u5, u6, u7, u8, .int .i64 (b : Int), u10, u11, u12, u13, u14, u15, u16, u17, u18, u19, u20, u21, u22, u23, u24, u25, u26, u27, u28, u29, u30, u31, u32, u33, u34, u35, u36, u37, u38, u39, u40, u41, u42, u43, u44, u45, u46, u47, u48, u49, u50, u51, u52, u53, u54, u55, u56, u57, u58, u59, u60, u61, u62, u63, u64, u65, u66, u67, u68, u69, u70], []⟩ w := by
  conv => arg 2; whnf
  dsimp only
  obtain ⟨j0, hj0, hy0, hy1, hy2⟩ := info_parts info29
  have lg : PS < w.heap.size := World.block_lt_of_cell? w _ p1
  have ly : Y < w.heap.size := World.block_lt_of_cell? w _ y0
  have hb0 : (0 : Int) ≤ (b : Int) := Int.natCast_nonneg _
  have hb1 : (b : Int) < (m : Int) := by omega
  have hfa : ∀ o, (w.alloc o).frozen? ⟨Y, b, none⟩ = false := fun o => by rw [World.frozen?_alloc_old _ _ _ (by show Y ≠ _; omega)]; exact fy
  have ka : ∀ o, (w.alloc o).cell? ⟨PS, 1, none⟩ = some (.slice (some ⟨Y, 0, none⟩) m C2) := fun o => (World.cell?_alloc_lt _ _ _ lg).trans p1
  have kb : ∀ o, (w.alloc o).cell? ⟨Y, b, none⟩ = some wv := fun o => (World.cell?_alloc_lt _ _ _ ly).trans y0
  go_upto_region 5 with fail
  go_cut [9] (fun _ wd => ∃ h c, Stepped w wd Y b wv.ownBlock (.slice (some ⟨h, 0, none⟩) (n + 1) c) ∧ wd.ownsRow base 29 2 (.slice (some ⟨h, 0, none⟩) (n + 1) c) (n + 1) (gs ++ [.int .i64 e, .int .i64 v]) ∧ (wv.ownBlock = some h ∨ w.heap.size ≤ h))
  case first =>
    clear hR
    go_region_law ((refine step_append_lies _ (by rfl) _ _ _ (by rfl) base 29 j0 _ 2 16 Ybaf.underlying27 hj0 hy0 hy1 hy2 rfl (by omega) wv n gs (by simp [Act.eval]) ((ow.alloc _).drew) ⟨w.heap.size, 0, none⟩ 1 1 [.int .i64 e, .int .i64 v] (by simp [Act.eval]) (by rfl) (World.news_of_block (cs := #[.int .i64 e, .int .i64 v]) (t := 29) (fr := (0, 0)) (heap_alloc_new w _)) (by simp [Value.oneCell']) (by omega) (by unfold maxLen; omega) (by omega) (by simp; omega) (w.heap.size + 1) (by simp) ?_; intro gg cap w1 hown1 hgrow hat hlt; have k0 : w1.cell? ⟨PS, 1, none⟩ = some (.slice (some ⟨Y, 0, none⟩) m C2) := (hgrow.cell_far _ (by simp; omega) (Ne.symm wP)).trans (ka _); have k1 : w1.cell? ⟨Y, b, none⟩ = some wv := (hgrow.cell_far _ (by simp; omega) (Ne.symm wY)).trans (kb _); have k2 : w1.frozen? ⟨Y, b, none⟩ = false := (hgrow.frozen_far _ (by simp; omega) (Ne.symm wY)).trans (hfa _)))
    all_goals (go_wp2; go_meet)
    all_goals
      have hgX : (Value.slice (some ⟨gg, 0, none⟩) (n + 1) cap).ownBlock ≠ some Y := by
        rcases hat with h | h
        · rw [h] at wY; exact wY
        · intro h2; simp [Value.ownBlock] at h2; omega
      exact ⟨gg, cap, stepped_of hgrow y0 (Ne.symm wY), own_stepped hown1 hgX _, orMap hat id (fun h => by omega)⟩
  case rest =>
    obtain ⟨h1, c1, hs1, ho1, hat1⟩ := hcut
    have q2 : wc.cell? ⟨PS, 2, none⟩ = some (.int .i64 count) := (World.cell?_of_block (a := ⟨PS, 2, none⟩) (hs1.block PS lg hPY (Ne.symm wP))).trans p2
    have r2 : wc.frozen? ⟨PS, 2, none⟩ = false := (World.frozen?_of_block (a := ⟨PS, 2, none⟩) (hs1.block PS lg hPY (Ne.symm wP))).trans z2
    have HF := hR wc h1 c1 hs1 ho1 hat1
    have HH : Hid (R (.returned .nilIface) (wc.setCell ⟨PS, 2, none⟩ (.int .i64 (wrap64 (count + 1))))) := HF
    clear hR HF hs1 ho1 hat1 hfa ka kb ow
    go_wp2
    exact HH.out

end Go.Proofs.YbulkfslyFmt
