import Derived.Test.YbulkftysV6
namespace Go.Proofs.Ybulkftys
open Go.RowKit
set_option linter.unusedVariables false
set_option linter.unusedSimpArgs false

/-- A struct literal, met at the list of operations: by its built cells. -/
theorem wpList_bld {P : Program} {ops : Array Oper} {rest : List Oper} {o : Oper} {a : Act} {w : World} {Q : Exit → Act → World → Prop} (hg : o.guard = none) (t : TypeId) (ps : List (Nat × Operand)) (ho : o.op = .build t ps.toArray)
    (vs : List (Nat × Value)) (cells : Array Value) (hc : P.built t vs = some cells) (hv : ps.map (fun p => (p.1, a.eval p.2)) = vs)
    (h : wpList P ops Q rest (a.put o.dst (.agg cells)) w) : wpList P ops Q (o :: rest) a w := by
  subst hv
  refine wpList_build hg t ps.toArray ho ?_ ?_
  · have e : (ps.toArray.map fun (i, x) => (i, a.eval x)).toList = ps.map (fun p => (p.1, a.eval p.2)) := by simp
    rw [e, hc]; rfl
  · simpa [hc] using h

/-- The Member that the law lays. -/
theorem memb (HB n : Nat) (U : Int) : ∃ cells : Array Value, Yba.prog.built 99 [(22, .agg #[.nilFunc, .slice (some ⟨HB, 0, none⟩) n n, .int .i64 U, .int .i64 n, .int .u64 0])] = some cells ∧ cells[58]? = some (.slice (some ⟨HB, 0, none⟩) n n) ∧ cells[59]? = some (.int .i64 U) := by
  have h : (Yba.prog.built 99 [(22, .agg #[.nilFunc, .slice (some ⟨HB, 0, none⟩) n n, .int .i64 U, .int .i64 n, .int .u64 0])]).map (fun c => (c[58]?, c[59]?)) = some (some (.slice (some ⟨HB, 0, none⟩) n n), some (.int .i64 U)) := by kernel_rfl
  obtain ⟨cells, h1, h2⟩ := Option.map_eq_some_iff.1 h
  simp only [Prod.mk.injEq] at h2
  exact ⟨cells, h1, h2.1, h2.2⟩
theorem built42 (HB n : Nat) (U : Int) : Yba.prog.built 42 [(1, .slice (some ⟨HB, 0, none⟩) n n), (2, .int .i64 U), (3, .int .i64 n)] = some #[.nilFunc, .slice (some ⟨HB, 0, none⟩) n n, .int .i64 U, .int .i64 n, .int .u64 0] := by kernel_rfl
theorem built102 (fr yn yc : Nat) (ya : Option Addr) : Yba.prog.built 102 [(1, .string ⟨#[120]⟩), (2, .int .i64 fr), (14, .slice ya yn yc)] = some #[.int .u8 0, .string ⟨#[120]⟩, .int .i64 fr, .int .u64 0, .slice none 0 0, .slice none 0 0, .slice none 0 0, .int .u64 0, .int .i64 0, .pointer none, .int .u64 0, .bool false, .bool false, .bool false, .slice ya yn yc] := by kernel_rfl

/-- The world behind recordOnLink, as the law needs it. -/
structure AftR (W w3 : World) (ok : Nat → Nat → Prop) (okc : Nat → Prop) (qb qo n size fr MB HB G cn cc yn yc : Nat) (ca ya : Option Addr) (U : Int) (mask : Nat → Int) (pa : Nat → Option Addr) (pc : Nat → Nat) (z : Nat → Bool) (es : Nat → Es) (pz : Bool) (px : List Int) : Prop where
  below : Below W.heap.size W w3
  src : Src W w3 qb qo n mask pa pc z es
  fp : ∀ i, i < n → FpAt w3 (ok i) MB HB i size (bitOf (mask i)) (fun j => decide (U ≠ 0) && (decide (j = fr) && bitOf (mask i) fr)) (z i) (es i) pz px
  hok : ∀ i b, ok i b → b < w3.heap.size
  pay : Bs w3 (fun b => b < W.heap.size) (.slice ya yn yc) pz px
  copy : Bs w3 okc (.slice ca cn cc) pz px
  hokc : ∀ b, okc b → b < w3.heap.size
  g58 : w3.cell? ⟨G, 58, none⟩ = some (.slice (some ⟨HB, 0, none⟩) n n)
  g59 : w3.cell? ⟨G, 59, none⟩ = some (.int .i64 U)

theorem recorded (W w0 w : World) (ca ya : Option Addr) (qb qo n size fr MB HB cn cc yn yc : Nat) (U : Int) (mask : Nat → Int) (pa : Nat → Option Addr) (pc : Nat → Nat) (z : Nat → Bool) (es : Nat → Es) (okc : Nat → Prop) (pz : Bool) (px : List Int) (mc : Array Value) (h58 : mc[58]? = some (.slice (some ⟨HB, 0, none⟩) n n)) (h59 : mc[59]? = some (.int .i64 U))
    (hsz : size ≤ 8) (hfr : fr < size) (hn : n * 32 ≤ 140737488355328) (hq : 0 < n → qb < W.heap.size) (hes : ∀ i, i < n → (es i).length * 24 ≤ 140737488351232) (hM : MB < w0.heap.size) (hH : HB < w0.heap.size) (hMH : MB ≠ HB) (hWM : W.heap.size ≤ MB) (hWH : W.heap.size ≤ HB) (hbel : Below W.heap.size W w0) (hsrc : Src W W qb qo n mask pa pc z es) (hbld : Bld w0 w MB HB n n size mask z es) (hp : Bs W (fun b => b < W.heap.size) (.slice ya yn yc) pz px) (hc : Bs w0 okc (.slice ca cn cc) pz px) (hokc : ∀ b, okc b → b < w0.heap.size ∧ b ≠ MB ∧ b ≠ HB) :
    Calls Yba.prog 7 #[.pointer (some ⟨w.heap.size, 0, none⟩), .agg #[.int .u8 0, .string ⟨#[120]⟩, .int .i64 fr, .int .u64 0, .slice none 0 0, .slice none 0 0, .slice none 0 0, .int .u64 0, .int .i64 0, .pointer none, .int .u64 0, .bool false, .bool false, .bool false, .slice ya yn yc]] ((w.alloc (.cells mc 99)).alloc (.cells #[.int .u8 0, .string ⟨#[120]⟩, .int .i64 fr, .int .u64 0, .slice none 0 0, .slice none 0 0, .slice none 0 0, .int .u64 0, .int .i64 0, .pointer none, .int .u64 0, .bool false, .bool false, .bool false, .slice ya yn yc] 102)) fun e w3 => e = .returned (.tuple #[]) ∧ ∃ ok, AftR W w3 ok okc qb qo n size fr MB HB w.heap.size cn cc yn yc ca ya U mask pa pc z es pz px := by
  have hs0 := hbel.size
  have hs1 := hbld.hsize
  have t1 := stab_alloc w (.cells mc 99) (fun _ => True)
  have n1 := heap_alloc_new w (.cells mc 99)
  have z1 : (w.alloc (.cells mc 99)).heap.size = w.heap.size + 1 := by simp
  generalize w.alloc (.cells mc 99) = w1 at t1 n1 z1 ⊢
  have t2 := stab_alloc w1 (.cells #[.int .u8 0, .string ⟨#[120]⟩, .int .i64 fr, .int .u64 0, .slice none 0 0, .slice none 0 0, .slice none 0 0, .int .u64 0, .int .i64 0, .pointer none, .int .u64 0, .bool false, .bool false, .bool false, .slice ya yn yc] 102) (fun _ => True)
  have z2 : (w1.alloc (.cells #[.int .u8 0, .string ⟨#[120]⟩, .int .i64 fr, .int .u64 0, .slice none 0 0, .slice none 0 0, .slice none 0 0, .int .u64 0, .int .i64 0, .pointer none, .int .u64 0, .bool false, .bool false, .bool false, .slice ya yn yc] 102)).heap.size = w1.heap.size + 1 := by simp
  generalize w1.alloc (.cells #[.int .u8 0, .string ⟨#[120]⟩, .int .i64 fr, .int .u64 0, .slice none 0 0, .slice none 0 0, .slice none 0 0, .int .u64 0, .int .i64 0, .pointer none, .int .u64 0, .bool false, .bool false, .bool false, .slice ya yn yc] 102) = w2 at t2 z2 ⊢
  have t := t1.trans t2
  have G2 : w2.heap[w.heap.size]? = some (.cells mc 99) := by rw [t2.block _ (by omega) trivial, n1]
  have g58 : w2.cell? ⟨w.heap.size, 58, none⟩ = some (.slice (some ⟨HB, 0, none⟩) n n) := by rw [cell_block G2]; exact h58
  have g59 : w2.cell? ⟨w.heap.size, 59, none⟩ = some (.int .i64 U) := by rw [cell_block G2]; exact h59
  obtain ⟨own, lnk, q1, q2, q3⟩ := hbld.parts
  have hoM := q2 MB hM
  have hoH := q2 HB hH
  have hoG := q1 w.heap.size (Nat.le_refl _)
  -- blocks below w0, but for the two rows
  have b2 : ∀ b, b < w0.heap.size → b ≠ MB → b ≠ HB → w2.heap[b]? = w0.heap[b]? := fun b h1 h2 h3 => (t.block b (by omega) trivial).trans (hbld.block b h1 h2 h3)
  have hp2 : Bs w2 (fun b => b < W.heap.size) (.slice ya yn yc) pz px := hp.mono (fun b hb => (b2 b (by omega) (by omega) (by omega)).trans (hbel.block b hb)) (fun _ h => h)
  refine (record w2 own lnk MB HB w.heap.size n size fr (fun i => bitOf (mask i)) z es pz px U ya yn yc (fun b => b < W.heap.size) ⟨#[120]⟩ g58 g59 (fun b hb => q1 b (by omega)) hoG hoM hoH (by omega) (by omega) hfr hsz (by omega)
    (fun i hi => (q3 i hi).mono (k := i + 1) (t.weak (fun _ _ => trivial)) (by omega) hoM hoH) hes hp2 (fun b hb => ⟨q2 b (by omega), by omega⟩)).mono ?_
  rintro e w3 ⟨rfl, st, hfp⟩
  have s3 := st.size
  have hbel3 : Below W.heap.size W w3 := ⟨st.os.trans (t.os.trans (hbld.os.trans hbel.os)), st.tape.trans (t.tape.trans (hbld.tape.trans hbel.tape)), st.output.trans (t.output.trans (hbld.output.trans hbel.output)), by omega, fun b hb => by rw [st.block b (by omega) (q2 b (by omega)), b2 b (by omega) (by omega) (by omega), hbel.block b hb]⟩
  refine ⟨rfl, fun i b => b < w3.heap.size ∧ (own b = some i ∨ own b = none), hbel3, hsrc.below hbel3 hq, hfp, fun i b h => h.1, hp2.mono (fun b hb => st.block b (by omega) (q2 b (by omega))) (fun _ h => h), hc.mono (fun b hb => ?_) (fun _ h => h), fun b hb => ?_, ?_, ?_⟩
  · obtain ⟨h1, h2, h3⟩ := hokc b hb
    rw [st.block b (by omega) (q2 b h1), b2 b h1 h2 h3]
  · have := (hokc b hb).1; omega
  · exact (World.cell?_of_block (a := ⟨w.heap.size, 58, none⟩) (st.block w.heap.size (by omega) hoG)).trans g58
  · exact (World.cell?_of_block (a := ⟨w.heap.size, 59, none⟩) (st.block w.heap.size (by omega) hoG)).trans g59
end Go.Proofs.Ybulkftys
