import Derived.Test.YbulkfslyFmtAdd5
namespace Go.Proofs.YbulkfslyFmt
open Go.RowKit
set_option linter.unusedVariables false
set_option linter.unusedSimpArgs false

set_option maxRecDepth 1000000 in
set_option maxHeartbeats 4000000 in
theorem add4 (PS X Y m C1 C2 b n base t : Nat) (e v count : Int) (tv wv : Value) (fs gs : List Value) (w : World) {u4 u5 u6 u7 u8 u10 u11 u12 u13 u14 u15 u16 u17 u18 u19 u20 u21 u22 u23 u24 u25 u26 u27 u28 u29 u30 u31 u32 u33 u34 u35 u36 u37 u38 u39 u40 u41 u42 u43 u44 u45 u46 u47 u48 u49 u50 u51 u52 u53 u54 u55 u56 u57 u58 u59 u60 u61 u62 u63 u64 u65 u66 u67 u68 u69 u70 : Value}
    (p0 : w.cell? ⟨PS, 0, none⟩ = some (.slice (some ⟨X, 0, none⟩) m C1)) (p1 : w.cell? ⟨PS, 1, none⟩ = some (.slice (some ⟨Y, 0, none⟩) m C2)) (p2 : w.cell? ⟨PS, 2, none⟩ = some (.int .i64 count)) (z2 : w.frozen? ⟨PS, 2, none⟩ = false)
    (x0 : w.cell? ⟨X, b, none⟩ = some tv) (fx : w.frozen? ⟨X, b, none⟩ = false) (y0 : w.cell? ⟨Y, b, none⟩ = some wv) (fy : w.frozen? ⟨Y, b, none⟩ = false)
    (ot : w.ownsRow base 22 1 tv n fs) (ow : w.ownsRow base 29 2 wv n gs) (hb : b < m) (hn : n ≤ 65536) (hbase : base ≤ w.heap.size) (hm : m ≤ 1000000)
    (hPX : PS ≠ X) (hPY : PS ≠ Y) (hXY : X ≠ Y) (tX : tv.ownBlock ≠ some X) (tY : tv.ownBlock ≠ some Y) (tP : tv.ownBlock ≠ some PS) (wX : wv.ownBlock ≠ some X) (wY : wv.ownBlock ≠ some Y) (wP : wv.ownBlock ≠ some PS) (tw : ∀ k, tv.ownBlock = some k → wv.ownBlock ≠ some k) (R : Ending → World → Prop) (hR : ∀ w', Added w w' PS X Y b tv.ownBlock wv.ownBlock (fs ++ [.float .f64 t]) (gs ++ [.int .i64 e, .int .i64 v]) (n + 1) base (wrap64 (count + 1)) → R (.returned .nilIface) w') :
    Code.wp Ybaf.prog ((Ybaf.f6.body.map (tailAt 4)).getD .skip) (bodyPost Ybaf.prog Ybaf.f6 R) ⟨#[.pointer (some ⟨PS, 0, none⟩), .float .f64 t, .int .i64 e, .int .i64 v, u4, u5, u6, u7, u8, .int .i64 (b : Int), u10, u11, u12, u13, u14, u15, u16, u17, u18, u19, u20, u21, u22, u23, u24, u25, u26, u27, u28, u29, u30, u31, u32, u33, u34, u35, u36, u37, u38, u39, u40, u41, u42, u43, u44, u45, u46, u47, u48, u49, u50, u51, u52, u53, u54, u55, u56, u57, u58, u59, u60, u61, u62, u63, u64, u65, u66, u67, u68, u69, u70], []⟩ w := by
  conv => arg 2; whnf
  dsimp only
  obtain ⟨i0, hi0, hz0, hz1, hz2⟩ := info_parts info22
  obtain ⟨j0, hj0, hy0, hy1, hy2⟩ := info_parts info29
  have lg : PS < w.heap.size := World.block_lt_of_cell? w _ p0
  have lx : X < w.heap.size := World.block_lt_of_cell? w _ x0
  have ly : Y < w.heap.size := World.block_lt_of_cell? w _ y0
  have hb0 : (0 : Int) ≤ (b : Int) := Int.natCast_nonneg _
  have hb1 : (b : Int) < (m : Int) := by omega
  have hfa : ∀ o, (w.alloc o).frozen? ⟨X, b, none⟩ = false := fun o => by rw [World.frozen?_alloc_old _ _ _ (by show X ≠ _; omega)]; exact fx
  have HR : Hid (∀ w', Added w w' PS X Y b tv.ownBlock wv.ownBlock (fs ++ [.float .f64 t]) (gs ++ [.int .i64 e, .int .i64 v]) (n + 1) base (wrap64 (count + 1)) → R (.returned .nilIface) w') := hR
  clear hR
  go_upto_region 4 with fail
  go_cut [9] (fun s wc => s = .int .i64 (b : Int) ∧ ∃ g c, Stepped w wc X b tv.ownBlock (.slice (some ⟨g, 0, none⟩) (n + 1) c) ∧ wc.ownsRow base 22 1 (.slice (some ⟨g, 0, none⟩) (n + 1) c) (n + 1) (fs ++ [.float .f64 t]) ∧ (tv.ownBlock = some g ∨ w.heap.size ≤ g))
  case first =>
    have ka : ∀ o, (w.alloc o).cell? ⟨PS, 0, none⟩ = some (.slice (some ⟨X, 0, none⟩) m C1) := fun o => (World.cell?_alloc_lt _ _ _ lg).trans p0
    have kb : ∀ o, (w.alloc o).cell? ⟨X, b, none⟩ = some tv := fun o => (World.cell?_alloc_lt _ _ _ lx).trans x0
    go_region_law ((refine step_append_lies _ (by rfl) _ _ _ (by rfl) base 22 i0 _ 1 8 Ybaf.underlying26 hi0 hz0 hz1 hz2 rfl (by omega) tv n fs (by simp [Act.eval]) ((ot.alloc _).drew) ⟨w.heap.size, 0, none⟩ 1 1 [.float .f64 t] (by simp [Act.eval]) (by rfl) (World.news_of_block (cs := #[.float .f64 t]) (t := 22) (fr := (0, 0)) (heap_alloc_new w _)) (by simp [Value.oneCell']) (by omega) (by unfold maxLen; omega) (by omega) (by simp; omega) (w.heap.size + 1) (by simp) ?_; intro gg cap w1 hown1 hgrow hat hlt; have k0 : w1.cell? ⟨PS, 0, none⟩ = some (.slice (some ⟨X, 0, none⟩) m C1) := (hgrow.cell_far _ (by simp; omega) (Ne.symm tP)).trans (ka _); have k1 : w1.cell? ⟨X, b, none⟩ = some tv := (hgrow.cell_far _ (by simp; omega) (Ne.symm tX)).trans (kb _); have k2 : w1.frozen? ⟨X, b, none⟩ = false := (hgrow.frozen_far _ (by simp; omega) (Ne.symm tX)).trans (hfa _)))
    all_goals (go_wp2; go_meet)
    all_goals
      have hgX : (Value.slice (some ⟨gg, 0, none⟩) (n + 1) cap).ownBlock ≠ some X := by
        rcases hat with h | h
        · rw [h] at tX; exact tX
        · intro h2; simp [Value.ownBlock] at h2; omega
      exact ⟨rfl, gg, cap, stepped_of hgrow x0 (Ne.symm tX), own_stepped hown1 hgX _, orMap hat id (fun h => by omega)⟩
  case rest =>
    obtain ⟨rfl, g1, c1, hs1, ho1, hat1⟩ := hcut
    have q1 : wc.cell? ⟨PS, 1, none⟩ = some (.slice (some ⟨Y, 0, none⟩) m C2) := (World.cell?_of_block (a := ⟨PS, 1, none⟩) (hs1.block PS lg hPX (Ne.symm tP))).trans p1
    have q2 : wc.cell? ⟨PS, 2, none⟩ = some (.int .i64 count) := (World.cell?_of_block (a := ⟨PS, 2, none⟩) (hs1.block PS lg hPX (Ne.symm tP))).trans p2
    have r2 : wc.frozen? ⟨PS, 2, none⟩ = false := (World.frozen?_of_block (a := ⟨PS, 2, none⟩) (hs1.block PS lg hPX (Ne.symm tP))).trans z2
    have y1 : wc.cell? ⟨Y, b, none⟩ = some wv := (World.cell?_of_block (a := ⟨Y, b, none⟩) (hs1.block Y ly (Ne.symm hXY) (Ne.symm tY))).trans y0
    have fy1 : wc.frozen? ⟨Y, b, none⟩ = false := (World.frozen?_of_block (a := ⟨Y, b, none⟩) (hs1.block Y ly (Ne.symm hXY) (Ne.symm tY))).trans fy
    have ow1 : wc.ownsRow base 29 2 wv n gs := own_kept hs1 ow wX (fun k hk h => tw k h.symm hk)
    have hbase1 : base ≤ wc.heap.size := Nat.le_trans hbase hs1.size
    have hg1Y : g1 ≠ Y := by
      rcases hat1 with h | h
      · intro e; rw [e] at h; exact tY h
      · omega
    have hg1w : wv.ownBlock ≠ some g1 := by
      rcases hat1 with h | h
      · exact tw _ h
      · intro e; have := ow.lt _ e; omega
    refine (‹∀ (a : Act) (w : World), Code.wp _ _ _ a w → _› _ _ ?_)
    refine add5 PS Y m C2 b n base t e v count wv gs wc _ q1 q2 r2 y1 fy1 ow1 hb hn hbase1 hm hPY wY wP ?_
    intro wd h c hs2 ho2 hat2
    exact HR.out _ (added_of hs1 ho1 hat1 hs2 ho2 hat2 q2 lg lx ly hPX hPY hXY tY tP wX wP ⟨hg1Y, hg1w⟩)
end Go.Proofs.YbulkfslyFmt
