import Derived.Test.YbulkfslyFmtAdd4
import Derived.Test.YbulkfslyFmtBlockB
import Derived.Test.YbulkfslyFmtBlockC
namespace Go.Proofs.YbulkfslyFmt
open Go.RowKit
set_option linter.unusedVariables false
set_option linter.unusedSimpArgs false

/-- What a call of 'add' that adds leaves behind. 'm': the number of the block that it goes into; 'S': the two rows of pairs that may have been written. -/
structure AddOK (w w' : World) (PS TB WB m n base : Nat) (S : Nat → Prop) (fs gs : List Value) (cnt : Int) : Prop where
  ps : ∃ X Y C1 C2, w'.cell? ⟨PS, 0, none⟩ = some (.slice (some ⟨X, 0, none⟩) (m + 1) C1) ∧ w'.cell? ⟨PS, 1, none⟩ = some (.slice (some ⟨Y, 0, none⟩) (m + 1) C2) ∧
    (∀ i, i < m → w'.cell? ⟨X, i, none⟩ = w.cell? ⟨TB, i, none⟩) ∧ (∀ i, i < m → w'.cell? ⟨Y, i, none⟩ = w.cell? ⟨WB, i, none⟩) ∧
    (∃ g c, w'.cell? ⟨X, m, none⟩ = some (.slice (some ⟨g, 0, none⟩) n c) ∧ w'.ownsRow base 22 1 (.slice (some ⟨g, 0, none⟩) n c) n fs ∧ (S g ∨ w.heap.size ≤ g)) ∧
    (∃ g c, w'.cell? ⟨Y, m, none⟩ = some (.slice (some ⟨g, 0, none⟩) n c) ∧ w'.ownsRow base 29 2 (.slice (some ⟨g, 0, none⟩) n c) n gs ∧ (S g ∨ w.heap.size ≤ g)) ∧ (X = TB ∨ w.heap.size ≤ X) ∧ (Y = WB ∨ w.heap.size ≤ Y)
  count : w'.cell? ⟨PS, 2, none⟩ = some (.int .i64 cnt)
  pj : ∀ j, 3 ≤ j → w'.cell? ⟨PS, j, none⟩ = w.cell? ⟨PS, j, none⟩
  block : ∀ k, k < w.heap.size → k ≠ PS → k ≠ TB → k ≠ WB → ¬ S k → w'.heap[k]? = w.heap[k]?
  os : w'.os = w.os
  tape : w'.tape = w.tape
  output : w'.output = w.output
  size : w.heap.size ≤ w'.heap.size

theorem addOK_A {w w' : World} {PS TB WB b n base C : Nat} {tv wv : Value} {fs gs : List Value} {cnt : Int} (h : Added w w' PS TB WB b tv.ownBlock wv.ownBlock fs gs n base cnt)
    (p0 : w.cell? ⟨PS, 0, none⟩ = some (.slice (some ⟨TB, 0, none⟩) (b + 1) C)) (p1 : w.cell? ⟨PS, 1, none⟩ = some (.slice (some ⟨WB, 0, none⟩) (b + 1) C)) :
    AddOK w w' PS TB WB b n base (fun k => tv.ownBlock = some k ∨ wv.ownBlock = some k) fs gs cnt := by
  refine ⟨⟨TB, WB, C, C, (h.ps 0 (by omega)).trans p0, (h.ps 1 (by omega)).trans p1, fun i hi => h.xs i (by omega), fun i hi => h.ys i (by omega), exMap h.tcell fun g x => exMap x fun c y => ⟨y.1, y.2.1, orMap y.2.2 .inl id⟩, exMap h.wcell fun g x => exMap x fun c y => ⟨y.1, y.2.1, orMap y.2.2 .inr id⟩, .inl rfl, .inl rfl⟩, h.count, fun j hj => h.ps j (by omega), fun k hk h1 h2 h3 h4 => h.block k hk h1 h2 h3 (fun e => h4 (.inl e.symm)) (fun e => h4 (.inr e.symm)), h.os, h.tape, h.output, h.size⟩

theorem addOK_B {w w1 w' : World} {PS TB WB L n base X Y C1 C2 : Nat} {tv wv : Value} {fs gs : List Value} {cnt : Int} {S : Nat → Prop} (hb : Blk w w1 PS TB WB L base X Y C1 C2 tv wv) (h : Added w1 w' PS X Y L tv.ownBlock wv.ownBlock fs gs n base cnt)
    (hS1 : ∀ k, tv.ownBlock = some k → S k ∨ w.heap.size ≤ k) (hS2 : ∀ k, wv.ownBlock = some k → S k ∨ w.heap.size ≤ k) :
    AddOK w w' PS TB WB L n base S fs gs cnt := by
  have hs := hb.size
  refine ⟨⟨X, Y, C1, C2, (h.ps 0 (by omega)).trans hb.p0, (h.ps 1 (by omega)).trans hb.p1, fun i hi => (h.xs i (by omega)).trans (hb.xs i hi), fun i hi => (h.ys i (by omega)).trans (hb.ys i hi), exMap h.tcell fun g x => exMap x fun c y => ⟨y.1, y.2.1, y.2.2.elim (hS1 g) (fun z => .inr (by omega))⟩, exMap h.wcell fun g x => exMap x fun c y => ⟨y.1, y.2.1, y.2.2.elim (hS2 g) (fun z => .inr (by omega))⟩, hb.hX, hb.hY⟩, h.count, fun j hj => (h.ps j (by omega)).trans (hb.pj j (by omega) (by omega)), ?_, h.os.trans hb.os, h.tape.trans hb.tape, h.output.trans hb.output, Nat.le_trans hs h.size⟩
  intro k hk h1 h2 h3 h4
  rw [h.block k (by omega) h1 ?_ ?_ ?_ ?_]
  · exact hb.block k hk h1 h2 h3
  · rcases hb.hX with e | e
    · rw [e]; exact h2
    · omega
  · rcases hb.hY with e | e
    · rw [e]; exact h3
    · omega
  · intro e
    rcases hS1 k e.symm with e2 | e2
    · exact h4 e2
    · omega
  · intro e
    rcases hS2 k e.symm with e2 | e2
    · exact h4 e2
    · omega

set_option maxRecDepth 1000000 in
set_option maxHeartbeats 4000000 in
theorem addA (PS TB WB C b n base t : Nat) (e v count room : Int) (a1 a2 : Option Addr) (c1 c2 : Nat) (fs gs : List Value) (w : World)
    (p0 : w.cell? ⟨PS, 0, none⟩ = some (.slice (some ⟨TB, 0, none⟩) (b + 1) C)) (p1 : w.cell? ⟨PS, 1, none⟩ = some (.slice (some ⟨WB, 0, none⟩) (b + 1) C)) (p2 : w.cell? ⟨PS, 2, none⟩ = some (.int .i64 count)) (p3 : w.cell? ⟨PS, 3, none⟩ = some (.int .i64 room)) (zf : ∀ j, w.frozen? ⟨PS, j, none⟩ = false)
    (x0 : w.cell? ⟨TB, b, none⟩ = some (.slice a1 n c1)) (fx : w.frozen? ⟨TB, b, none⟩ = false) (y0 : w.cell? ⟨WB, b, none⟩ = some (.slice a2 n c2)) (fy : w.frozen? ⟨WB, b, none⟩ = false)
    (ot : w.ownsRow base 22 1 (.slice a1 n c1) n fs) (ow : w.ownsRow base 29 2 (.slice a2 n c2) n gs) (hn : n < 65536) (hbase : base ≤ w.heap.size) (hb : b ≤ 65536)
    (hPX : PS ≠ TB) (hPY : PS ≠ WB) (hXY : TB ≠ WB) (tX : (Value.slice a1 n c1).ownBlock ≠ some TB) (tY : (Value.slice a1 n c1).ownBlock ≠ some WB) (tP : (Value.slice a1 n c1).ownBlock ≠ some PS) (wX : (Value.slice a2 n c2).ownBlock ≠ some TB) (wY : (Value.slice a2 n c2).ownBlock ≠ some WB) (wP : (Value.slice a2 n c2).ownBlock ≠ some PS) (tw : ∀ k, (Value.slice a1 n c1).ownBlock = some k → (Value.slice a2 n c2).ownBlock ≠ some k)
    (hc : count < room) :
    Calls Ybaf.prog 6 #[.pointer (some ⟨PS, 0, none⟩), .float .f64 t, .int .i64 e, .int .i64 v] w fun e' w' => e' = .returned .nilIface ∧ AddOK w w' PS TB WB b (n + 1) base (fun k => (Value.slice a1 n c1).ownBlock = some k ∨ (Value.slice a2 n c2).ownBlock = some k) (fs ++ [.float .f64 t]) (gs ++ [.int .i64 e, .int .i64 v]) (wrap64 (count + 1)) := by
  have hd : ¬ room ≤ count := by omega
  have H : Hid (∀ k, (Value.slice a1 n c1).ownBlock = some k → (Value.slice a2 n c2).ownBlock ≠ some k) := tw
  have HO : Hid (w.ownsRow base 22 1 (.slice a1 n c1) n fs ∧ w.ownsRow base 29 2 (.slice a2 n c2) n gs) := ⟨ot, ow⟩
  have HZ : Hid (∀ j, w.frozen? ⟨PS, j, none⟩ = false) := zf
  clear tw ot ow zf
  go_enter Ybaf.func6, Ybaf.ntmps6
  go_wp2_with fail
  go_quiet (fail)
  go_upto_region 3 with fail
  go_cut [9] (fun s wq => s = .int .i64 (b : Int) ∧ wq = w.drewN nq)
  case first =>
    go_wp2_with (go_at_call 11; refine (blockA PS TB b C n c1 a1 (w.drewN nq) p0 x0 hn hb).mono ?_; rintro e' w1 ⟨rfl, hw1⟩)
    go_meet
    case rel => exact ⟨rfl, rfl⟩
  case rest =>
    obtain ⟨rfl, rfl⟩ := hcut
    refine (‹∀ (a : Act) (w : World), Code.wp _ _ _ a w → _› _ _ ?_)
    refine add4 PS TB WB (b + 1) C C b n base t e v count (.slice a1 n c1) (.slice a2 n c2) fs gs (w.drewN nq) p0 p1 p2 (HZ.out 2) x0 fx y0 fy HO.out.1 HO.out.2 (by omega) (by omega) hbase (by omega) hPX hPY hXY tX tY tP wX wY wP H.out _ ?_
    intro w' hadd
    have h1 := addOK_A hadd p0 p1
    exact ⟨rfl, h1.ps, h1.count, h1.pj, h1.block, h1.os, h1.tape, h1.output, h1.size⟩

set_option maxRecDepth 1000000 in
set_option maxHeartbeats 4000000 in
theorem addB (PS TB WB C L x y n' c' base t : Nat) (e v count room : Int) (fs0 gs0 : List Value) (w : World)
    (p0 : w.cell? ⟨PS, 0, none⟩ = some (.slice (some ⟨TB, 0, none⟩) L C)) (p1 : w.cell? ⟨PS, 1, none⟩ = some (.slice (some ⟨WB, 0, none⟩) L C)) (p2 : w.cell? ⟨PS, 2, none⟩ = some (.int .i64 count)) (p3 : w.cell? ⟨PS, 3, none⟩ = some (.int .i64 room)) (zf : ∀ j, w.frozen? ⟨PS, j, none⟩ = false)
    (hfull : ∀ l, L = l + 1 → ∃ a c, w.cell? ⟨TB, l, none⟩ = some (.slice a 65536 c)) (hC : L < C) (hCC : C ≤ 200000) (hLL : L ≤ 65536)
    (x0 : w.cell? ⟨TB, L, none⟩ = some (.slice (some ⟨x, 0, none⟩) n' c')) (y0 : w.cell? ⟨WB, L, none⟩ = some (.slice (some ⟨y, 0, none⟩) n' c')) (fx : w.frozen? ⟨TB, L, none⟩ = false) (fy : w.frozen? ⟨WB, L, none⟩ = false)
    (ob : w.ownsRow base 22 1 (.slice (some ⟨x, 0, none⟩) n' c') n' fs0) (oc : w.ownsRow base 29 2 (.slice (some ⟨y, 0, none⟩) n' c') n' gs0) (hbase : base ≤ w.heap.size)
    (hPT : PS ≠ TB) (hPW : PS ≠ WB) (hTW : TB ≠ WB) (xP : x ≠ PS) (xT : x ≠ TB) (xW : x ≠ WB) (yP : y ≠ PS) (yT : y ≠ TB) (yW : y ≠ WB) (xy : x ≠ y)
    (hc : count < room) :
    Calls Ybaf.prog 6 #[.pointer (some ⟨PS, 0, none⟩), .float .f64 t, .int .i64 e, .int .i64 v] w fun e' w' => e' = .returned .nilIface ∧ AddOK w w' PS TB WB L 1 base (fun k => k = x ∨ k = y) [.float .f64 t] [.int .i64 e, .int .i64 v] (wrap64 (count + 1)) := by
  have hd : ¬ room ≤ count := by omega
  have HO : Hid (w.ownsRow base 22 1 (.slice (some ⟨x, 0, none⟩) n' c') n' fs0 ∧ w.ownsRow base 29 2 (.slice (some ⟨y, 0, none⟩) n' c') n' gs0) := ⟨ob, oc⟩
  have HZ : Hid (∀ j, w.frozen? ⟨PS, j, none⟩ = false) := zf
  have HFu : Hid (∀ l, L = l + 1 → ∃ a c, w.cell? ⟨TB, l, none⟩ = some (.slice a 65536 c)) := hfull
  clear ob oc zf hfull
  go_enter Ybaf.func6, Ybaf.ntmps6
  go_wp2_with fail
  go_quiet (fail)
  go_upto_region 3 with fail
  go_cut [9] (fun s wq => s = .int .i64 (L : Int) ∧ ∃ tv wv, Blk (w.drewN nq) wq PS TB WB L base TB WB C C tv wv ∧ (∀ k, tv.ownBlock = some k → k = x ∨ w.heap.size ≤ k) ∧ (∀ k, wv.ownBlock = some k → k = y ∨ w.heap.size ≤ k))
  case first =>
    go_wp2_with (go_at_call 11; refine (blockB PS TB WB L C x y n' c' base fs0 gs0 (w.drewN nq) p0 p1 (HZ.out 0) (HZ.out 1) HFu.out hC hCC hLL x0 y0 fx fy hPT hPW hTW HO.out.1 HO.out.2 hbase xP xT xW yP yT yW xy).mono ?_; rintro e' w1 ⟨rfl, hw1⟩)
    go_meet
    case rel => exact ⟨rfl, hw1⟩
  case rest =>
    obtain ⟨rfl, tv, wv, hb, h1, h2⟩ := hcut
    refine (‹∀ (a : Act) (w : World), Code.wp _ _ _ a w → _› _ _ ?_)
    refine add4 PS TB WB (L + 1) C C L 0 base t e v count tv wv [] [] wc hb.p0 hb.p1 ((hb.pj 2 (by omega) (by omega)).trans p2) ((hb.pf 2).trans (HZ.out 2)) hb.x0 hb.fx hb.y0 hb.fy hb.ot hb.ow (by omega) (by omega) (Nat.le_trans hbase hb.size) (by omega) hPT hPW hTW hb.tX hb.tY hb.tP hb.wX hb.wY hb.wP hb.tw _ ?_
    intro w' hadd
    have h3 := addOK_B (S := fun k => k = x ∨ k = y) hb hadd (fun k hk => orMap (h1 k hk) .inl id) (fun k hk => orMap (h2 k hk) .inr id)
    exact ⟨rfl, h3.ps, h3.count, h3.pj, h3.block, h3.os, h3.tape, h3.output, h3.size⟩

set_option maxRecDepth 1000000 in
set_option maxHeartbeats 4000000 in
theorem addC (PS TB WB L base t : Nat) (e v count room : Int) (w : World)
    (p0 : w.cell? ⟨PS, 0, none⟩ = some (.slice (some ⟨TB, 0, none⟩) L L)) (p1 : w.cell? ⟨PS, 1, none⟩ = some (.slice (some ⟨WB, 0, none⟩) L L)) (p2 : w.cell? ⟨PS, 2, none⟩ = some (.int .i64 count)) (p3 : w.cell? ⟨PS, 3, none⟩ = some (.int .i64 room)) (zf : ∀ j, w.frozen? ⟨PS, j, none⟩ = false)
    (hfull : ∀ l, L = l + 1 → ∃ a c, w.cell? ⟨TB, l, none⟩ = some (.slice a 65536 c)) (hLL : L ≤ 65536)
    (ht : Full w TB L) (hw : Full w WB L) (hTBl : TB < w.heap.size) (hWBl : WB < w.heap.size)
    (hPT : PS ≠ TB) (hPW : PS ≠ WB) (hTW : TB ≠ WB) (hbase : base ≤ w.heap.size)
    (hc : count < room) :
    Calls Ybaf.prog 6 #[.pointer (some ⟨PS, 0, none⟩), .float .f64 t, .int .i64 e, .int .i64 v] w fun e' w' => e' = .returned .nilIface ∧ AddOK w w' PS TB WB L 1 base (fun _ => False) [.float .f64 t] [.int .i64 e, .int .i64 v] (wrap64 (count + 1)) := by
  have hd : ¬ room ≤ count := by omega
  have HZ : Hid (∀ j, w.frozen? ⟨PS, j, none⟩ = false) := zf
  have lP : PS < w.heap.size := World.block_lt_of_cell? w _ p0
  have HFu : Hid (∀ l, L = l + 1 → ∃ a c, w.cell? ⟨TB, l, none⟩ = some (.slice a 65536 c)) := hfull
  clear zf hfull
  go_enter Ybaf.func6, Ybaf.ntmps6
  go_wp2_with fail
  go_quiet (fail)
  go_upto_region 3 with fail
  go_cut [9] (fun s wq => s = .int .i64 (L : Int) ∧ ∃ X Y C1 C2 tv wv, Blk (w.drewN nq) wq PS TB WB L base X Y C1 C2 tv wv ∧ w.heap.size ≤ X ∧ w.heap.size ≤ Y ∧ (∀ k, tv.ownBlock = some k → w.heap.size ≤ k) ∧ (∀ k, wv.ownBlock = some k → w.heap.size ≤ k))
  case first =>
    go_wp2_with (go_at_call 11; refine (blockC PS TB WB L base (w.drewN nq) p0 p1 (HZ.out 0) (HZ.out 1) HFu.out hLL ht hw hTBl hWBl hPT hPW hTW hbase).mono ?_; rintro e' w1 ⟨rfl, hw1⟩)
    go_meet
    case rel => exact ⟨rfl, hw1⟩
  case rest =>
    obtain ⟨rfl, X, Y, C1, C2, tv, wv, hb, hX, hY, h1, h2⟩ := hcut
    refine (‹∀ (a : Act) (w : World), Code.wp _ _ _ a w → _› _ _ ?_)
    refine add4 PS X Y (L + 1) C1 C2 L 0 base t e v count tv wv [] [] wc hb.p0 hb.p1 ((hb.pj 2 (by omega) (by omega)).trans p2) ((hb.pf 2).trans (HZ.out 2)) hb.x0 hb.fx hb.y0 hb.fy hb.ot hb.ow (by omega) (by omega) (Nat.le_trans hbase hb.size) (by omega) (by omega) (by omega) hb.hXY hb.tX hb.tY hb.tP hb.wX hb.wY hb.wP hb.tw _ ?_
    intro w' hadd
    have h3 := addOK_B (S := fun _ => False) hb hadd (fun k hk => .inr (h1 k hk)) (fun k hk => .inr (h2 k hk))
    exact ⟨rfl, h3.ps, h3.count, h3.pj, h3.block, h3.os, h3.tape, h3.output, h3.size⟩
end Go.Proofs.YbulkfslyFmt
