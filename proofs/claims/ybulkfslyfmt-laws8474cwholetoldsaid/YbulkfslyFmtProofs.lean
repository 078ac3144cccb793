import Derived.Test.YbulkfslyFmtLaw
import Derived.Test.YbulkfslyFmtTie
import Derived.Test.YbulkfslyFmtCards
import Derived.WalkKit
import Derived.ProofKit
import Derived.OpenShut
import Derived.ShutString
import Derived.ChangeOld
import Derived.ChangeSlices
import Derived.ChangeVars
import Derived.Below
import Derived.Deep.Slices
import Derived.Stop.JoinedAt
import Derived.Stop.Texts
import Derived.Stop.LaidErr
import Derived.Stop.JoinedTold
import Derived.SevenTiedAt
namespace Go.Proofs.YbulkfslyFmt
open Go.ChangeShapes Go.WideShapes Go.ChangeAt Go.RowKit Go.Deep
open Go.Extern.Stop Go.Stop Go.Extern
set_option linter.unusedVariables false
set_option linter.unusedSimpArgs false

theorem own : ownKnob Ybaf.prog.godebug = none := by kernel_rfl
theorem laidOut : laidOutB Ybaf.prog = true := by kernel_rfl
theorem cells5 : Ybaf.prog.cellsOf 5 = 1 := by kernel_rfl
theorem cells9 : Ybaf.prog.cellsOf 9 = 1 := by kernel_rfl
theorem cells68 : Ybaf.prog.cellsOf 68 = 1 := by kernel_rfl
/-- The listed variable's name, and the name of its dynamic type, off the row. -/
def gnm : String := Rows.lawS8474CWholeSpec.vars.headD ""
def tnm : String := match (Rows.laid_example_com_fairspan_fairspan_pkg_plan_ErrTooManyPairs : DataW Unit) with
  | .iface n _ => n
  | _ => ""
theorem gN : Ybaf.prog.globalNamed gnm = some 0 := by kernel_rfl
theorem gT : (Ybaf.prog.globals[0]?).map (·.type) = some 36 := by kernel_rfl
theorem row66 (u : TypeId) (h : Ybaf.prog.typeName? 3 u = some tnm) : u = 66 :=
  typeName_ptr_named (P := Ybaf.prog) (nm := "errors.errorString") (by kernel_rfl) (by kernel_rfl) (by decide) u (h.trans (by kernel_rfl))

theorem okWide_float {P : Program} {w : World} {r : Reach} {base : Nat} {t : TypeId} {v : Value} {k : FloatKind} (ht : P.underlying t = some (.float k)) (h : Value.okWide P w r base t v) : ∃ n, v = .float k n := by
  simp only [Value.okWide, ht, Cell.okWide] at h
  cases v <;> simp_all [Cell.ok]

theorem var_below {P : Program} {B g : Nat} {W W' : World} {n : String} {cs : Array Value} (h : Below B W W') (hg : P.globalNamed n = some g) (hgB : g < B) (hv : W.var? P n = some cs) : W'.var? P n = some cs := by
  unfold World.var? at hv ⊢
  simp only [hg, Option.bind_some] at hv ⊢
  rw [h.block g hgB]
  exact hv

theorem u8_le {x : Int} (h : (Lit.int .u8 x).wf = true) : 0 ≤ x ∧ x ≤ 255 := by
  simp [Lit.wf, IntKind.min, IntKind.max, IntKind.signed, IntKind.bits] at h
  exact h

theorem open_bytes {H : Type} {enc : TypeId × Value → H} {w : World} {held : Bool} {fuel : Nat} {x : DataW H × List MemPlace} {a0 : Option Addr} {len cap : Nat} (h : DataW.trod enc Ybaf.prog w 0 (fun _ => true) held fuel 23 [.slice a0 len cap] = some x) :
    ∃ (b off : Nat) (f : Nat → Nat), (0 < len → a0 = some ⟨b, off, none⟩ ∧ b < w.heap.size) ∧ (∀ j, j < len → w.cell? ⟨b, off + j, none⟩ = some (.int .u8 (f j : Int))) ∧ ∀ j, f j ≤ 255 := by
  rcases open_ints Ybaf.underlying23 Ybaf.underlying5 cells5 h with ⟨hcs, _⟩ | ⟨a, len', cap', zs, hcs, _, hl, _, hz, _, hel, hwf⟩
  · simp at hcs
    obtain ⟨rfl, rfl, rfl⟩ := hcs
    exact ⟨0, 0, fun _ => 0, fun h => by omega, fun j hj => by omega, fun _ => Nat.zero_le _⟩
  · simp at hcs
    obtain ⟨rfl, rfl, rfl⟩ := hcs
    simp only [if_true] at hz
    have hb : ∀ j, 0 ≤ zs.getD j 0 ∧ zs.getD j 0 ≤ 255 := by
      intro j
      by_cases hj : j < zs.length
      · rw [List.getD_eq_getElem?_getD, List.getElem?_eq_getElem hj]
        exact u8_le (hwf _ (List.getElem_mem hj))
      · rw [List.getD_eq_getElem?_getD, List.getElem?_eq_none (by omega)]
        simp
    obtain ⟨b, off, sp⟩ := a
    have hsp : 0 < len → sp = none := by
      intro h0
      have g := hel 0 (by omega)
      have hsp := World.cell?_spot g
      simpa [Addr.add] using hsp
    refine ⟨b, off, fun j => (zs.getD j 0).toNat, ?_, ?_, fun j => by have := hb j; show (zs.getD j 0).toNat ≤ 255; omega⟩
    · intro h0
      have e := hsp h0
      subst e
      have g := hel 0 (by omega)
      exact ⟨rfl, by have := World.block_lt_of_cell? w _ g; simpa [Addr.add] using this⟩
    · intro j hj
      have e := hsp (by omega)
      subst e
      have g := hel j (by omega)
      rw [add_plain] at g
      rw [Int.toNat_of_nonneg (hb j).1]
      exact g

/-- One start that fits: the sentinel as its initialiser lays it. -/
theorem fits (os : Os) {H : Type} (enc : TypeId × Value → H) : ∃ w0 : World, w0.os = os ∧
    (w0.forCall (fun _ _ => 0) ⟨#[], #[.float .f64 0, .int .i64 0, .int .i64 0, .int .i64 0, .int .i64 0, .int .i64 0, .bool false, .slice none 0 0, .bool false, .slice none 0 0], []⟩).variablesB Ybaf.checked.prog = true ∧
    ((w0.forCall (fun _ _ => 0) ⟨#[], #[.float .f64 0, .int .i64 0, .int .i64 0, .int .i64 0, .int .i64 0, .int .i64 0, .bool false, .slice none 0 0, .bool false, .slice none 0 0], []⟩).heap.toList.drop Ybaf.checked.prog.globals.size).take ((begin Ybaf.checked.prog (fun _ _ => 0) default).world.heap.size - Ybaf.checked.prog.globals.size) =
      (begin Ybaf.checked.prog (fun _ _ => 0) default).world.heap.toList.drop Ybaf.checked.prog.globals.size ∧
    Input.okWideB Ybaf.checked.prog (w0.forCall (fun _ _ => 0) ⟨#[], #[.float .f64 0, .int .i64 0, .int .i64 0, .int .i64 0, .int .i64 0, .int .i64 0, .bool false, .slice none 0 0, .bool false, .slice none 0 0], []⟩) 3 ⟨#[], #[.float .f64 0, .int .i64 0, .int .i64 0, .int .i64 0, .int .i64 0, .int .i64 0, .bool false, .slice none 0 0, .bool false, .slice none 0 0], []⟩ = true ∧
    (OpenSpec.ofChange Rows.lawS8474CWholeSpec).preRow enc Ybaf.checked.prog Ybaf.f3 Rows.lawS8474CWholeRow.domain false Rows.lawS8474CWholeRow.laid (w0.forCall (fun _ _ => 0) ⟨#[], #[.float .f64 0, .int .i64 0, .int .i64 0, .int .i64 0, .int .i64 0, .int .i64 0, .bool false, .slice none 0 0, .bool false, .slice none 0 0], []⟩).memory #[.float .f64 0, .int .i64 0, .int .i64 0, .int .i64 0, .int .i64 0, .int .i64 0, .bool false, .slice none 0 0, .bool false, .slice none 0 0] := by
  refine ⟨{ World.holding Ybaf.prog os ⟨#[.cells #[.string ⟨#[109, 111, 114, 101, 32, 112, 97, 105, 114, 115, 32, 111, 102, 32, 97, 32, 116, 97, 115, 107, 32, 101, 110, 116, 114, 121, 32, 97, 110, 100, 32, 97, 32, 100, 97, 116, 97, 99, 101, 110, 116, 101, 114, 32, 119, 104, 101, 114, 101, 32, 105, 116, 32, 109, 97, 121, 32, 114, 117, 110, 32, 116, 104, 97, 110, 32, 116, 104, 101, 32, 112, 108, 97, 99, 101, 109, 101, 110, 116, 32, 109, 97, 121, 32, 108, 97, 121, 32, 111, 117, 116]⟩] 68], #[], []⟩ with heap := (World.holding Ybaf.prog os ⟨#[.cells #[.string ⟨#[109, 111, 114, 101, 32, 112, 97, 105, 114, 115, 32, 111, 102, 32, 97, 32, 116, 97, 115, 107, 32, 101, 110, 116, 114, 121, 32, 97, 110, 100, 32, 97, 32, 100, 97, 116, 97, 99, 101, 110, 116, 101, 114, 32, 119, 104, 101, 114, 101, 32, 105, 116, 32, 109, 97, 121, 32, 114, 117, 110, 32, 116, 104, 97, 110, 32, 116, 104, 101, 32, 112, 108, 97, 99, 101, 109, 101, 110, 116, 32, 109, 97, 121, 32, 108, 97, 121, 32, 111, 117, 116]⟩] 68], #[], []⟩).heap.modify 0 fun
      | .cells _ t frozen => .cells #[.iface 66 (.pointer (some ⟨(World.holding Ybaf.prog default ⟨#[], #[], []⟩).heap.size, 0, none⟩))] t frozen
      | o => o }, rfl, by kernel_rfl, by kernel_rfl, by kernel_rfl, ?_⟩
  exact OpenSpec.preRow_of_B rfl 8 (by kernel_rfl) (by kernel_rfl) (laidMet_of_run (ps := [.cell 0 0, .cell (World.holding Ybaf.prog default ⟨#[], #[], []⟩).heap.size 0]) 8 (by kernel_rfl) (by kernel_rfl) (by kernel_rfl))

set_option maxRecDepth 100000 in
theorem lifted (os : Os) (started : os.Started) (H : Type) (enc : TypeId × Value → H) :
    ReturnsInTold none {} Ybaf.checked os 3 .any Input.okWide ((OpenSpec.ofChange Rows.lawS8474CWholeSpec).preRow enc Ybaf.prog Ybaf.f3 Rows.lawS8474CWholeRow.domain false Rows.lawS8474CWholeRow.laid) (fun F => ((OpenSpec.ofChange Rows.lawS8474CWholeSpec).at F).post enc Ybaf.prog Ybaf.f3 false true false false) (aloneAtReturn Ybaf.prog) nothingAlways := by
  refine returnsInTold_of_row (C := Ybaf.checked) (s := OpenSpec.ofChange Rows.lawS8474CWholeSpec) (by kernel_rfl) own started (by kernel_rfl) Ybaf.func3
    (fun F => by
      obtain ⟨w0, a1, a2, a3, a4, a5⟩ := fits os enc
      exact OpenSpec.witness_stopped_at (enc := enc) (C := Ybaf.checked) false w0 _ a1 a2 a3 a4 a5 F) ?_
  intro F W base args ds gs before _ hF hval0 hW _ _ _ hL _
  have hval : ∀ (j : Nat) t v, Ybaf.f3.params[j]? = some t → args[j]? = some v → Value.okWide Ybaf.prog W .any base t v := hval0
  have hW' := hW
  obtain ⟨p, q, hA0, hV0, rfl, hfz, hnd⟩ := hW
  have hA : DataW.TrodAll enc Ybaf.prog W 0 (fun _ => true) true Ybaf.f3.params.toList args.toList ds p := hA0
  have hV : DataW.TrodVars enc Ybaf.prog W (fun _ => true) [gnm] gs q := hV0
  rw [Ybaf.params3] at hA hval
  obtain ⟨v0, vs0, d0, ds0, p0, q0, hargs, rfl, rfl, h0, r0⟩ := trodAll_cons hA
  obtain ⟨v1, vs1, d1, ds1, p1, q1, rfl, rfl, rfl, h1, r1⟩ := trodAll_cons r0
  obtain ⟨v2, vs2, d2, ds2, p2, q2, rfl, rfl, rfl, h2, r2⟩ := trodAll_cons r1
  obtain ⟨v3, vs3, d3, ds3, p3, q3, rfl, rfl, rfl, h3, r3⟩ := trodAll_cons r2
  obtain ⟨v4, vs4, d4, ds4, p4, q4, rfl, rfl, rfl, h4, r4⟩ := trodAll_cons r3
  obtain ⟨v5, vs5, d5, ds5, p5, q5, rfl, rfl, rfl, h5, r5⟩ := trodAll_cons r4
  obtain ⟨v6, vs6, d6, ds6, p6, q6, rfl, rfl, rfl, h6, r6⟩ := trodAll_cons r5
  obtain ⟨v7, vs7, d7, ds7, p7, q7, rfl, rfl, rfl, h7, r7⟩ := trodAll_cons r6
  obtain ⟨v8, vs8, d8, ds8, p8, q8, rfl, rfl, rfl, h8, r8⟩ := trodAll_cons r7
  obtain ⟨v9, vs9, d9, ds9, p9, q9, rfl, rfl, rfl, h9, r9⟩ := trodAll_cons r8
  obtain ⟨rfl, rfl, rfl⟩ := trodAll_nil r9
  obtain rfl : args = #[v0, v1, v2, v3, v4, v5, v6, v7, v8, v9] := by cases args; simp_all
  have lt0 : ∀ x ∈ p0, x.block < W.heap.size := by obtain ⟨m, hm⟩ := h0; exact DataW.trod_lt m _ _ _ hm
  have lt1 : ∀ x ∈ p1, x.block < W.heap.size := by obtain ⟨m, hm⟩ := h1; exact DataW.trod_lt m _ _ _ hm
  have lt2 : ∀ x ∈ p2, x.block < W.heap.size := by obtain ⟨m, hm⟩ := h2; exact DataW.trod_lt m _ _ _ hm
  have lt3 : ∀ x ∈ p3, x.block < W.heap.size := by obtain ⟨m, hm⟩ := h3; exact DataW.trod_lt m _ _ _ hm
  have lt4 : ∀ x ∈ p4, x.block < W.heap.size := by obtain ⟨m, hm⟩ := h4; exact DataW.trod_lt m _ _ _ hm
  have lt5 : ∀ x ∈ p5, x.block < W.heap.size := by obtain ⟨m, hm⟩ := h5; exact DataW.trod_lt m _ _ _ hm
  have lt6 : ∀ x ∈ p6, x.block < W.heap.size := by obtain ⟨m, hm⟩ := h6; exact DataW.trod_lt m _ _ _ hm
  have lt7 : ∀ x ∈ p7, x.block < W.heap.size := by obtain ⟨m, hm⟩ := h7; exact DataW.trod_lt m _ _ _ hm
  have lt8 : ∀ x ∈ p8, x.block < W.heap.size := by obtain ⟨m, hm⟩ := h8; exact DataW.trod_lt m _ _ _ hm
  have lt9 : ∀ x ∈ p9, x.block < W.heap.size := by obtain ⟨m, hm⟩ := h9; exact DataW.trod_lt m _ _ _ hm
  obtain ⟨t, rfl⟩ := okWide_float Ybaf.underlying22 (hval 0 22 v0 rfl rfl)
  obtain ⟨e, rfl⟩ := okWide_int Ybaf.underlying3 (hval 1 3 v1 rfl rfl)
  obtain ⟨v, rfl⟩ := okWide_int Ybaf.underlying3 (hval 2 3 v2 rfl rfl)
  obtain ⟨cnt, rfl⟩ := okWide_int Ybaf.underlying3 (hval 3 3 v3 rfl rfl)
  obtain ⟨room, rfl⟩ := okWide_int Ybaf.underlying2 (hval 4 2 v4 rfl rfl)
  obtain ⟨lim, rfl⟩ := okWide_int Ybaf.underlying2 (hval 5 2 v5 rfl rfl)
  obtain ⟨sd, rfl⟩ := okWide_bool Ybaf.underlying4 (hval 6 4 v6 rfl rfl)
  obtain ⟨va, n, vc, rfl⟩ := okWide_slice Ybaf.underlying23 (hval 7 23 v7 rfl rfl)
  obtain ⟨fb, rfl⟩ := okWide_bool Ybaf.underlying4 (hval 8 4 v8 rfl rfl)
  obtain ⟨ha, m, hc, rfl⟩ := okWide_slice Ybaf.underlying23 (hval 9 23 v9 rfl rfl)
  obtain ⟨vb, vo, f, b1, b2, b3⟩ : ∃ (b off : Nat) (f : Nat → Nat), (0 < n → va = some ⟨b, off, none⟩ ∧ b < W.heap.size) ∧ (∀ j, j < n → W.cell? ⟨b, off + j, none⟩ = some (.int .u8 (f j : Int))) ∧ ∀ j, f j ≤ 255 := by
    obtain ⟨fuel, hf⟩ := h7
    exact open_bytes (by simpa [Value.cells] using hf)
  obtain ⟨hbk, ho, h, b4, b5, b6⟩ : ∃ (b off : Nat) (f : Nat → Nat), (0 < m → ha = some ⟨b, off, none⟩ ∧ b < W.heap.size) ∧ (∀ j, j < m → W.cell? ⟨b, off + j, none⟩ = some (.int .u8 (f j : Int))) ∧ ∀ j, f j ≤ 255 := by
    obtain ⟨fuel, hf⟩ := h9
    exact open_bytes (by simpa [Value.cells] using hf)
  obtain ⟨sa, st, hv1, hc1, hs1, hz1⟩ := laid_sentinel (P := Ybaf.prog) (n := gnm) (nm := tnm) (g := 0) hL gN gT Ybaf.underlying36 row66 Ybaf.underlying66 Ybaf.underlying68 rfl rfl Ybaf.underlying9 cells68 cells9
  obtain ⟨rfl, rfl⟩ := hV.unique (vars_read1 enc gN gT Ybaf.underlying36 hv1 trivial _)
  have hg0 : W.cell? ⟨0, 0, none⟩ = some (.iface 66 (.pointer (some sa))) := by simpa using World.var?_cell gN hv1 0
  have h0lt : 0 < W.heap.size := World.block_lt_of_cell? W _ hg0
  have hsalt : sa.block < W.heap.size := World.block_lt_of_cell? W _ hc1
  clear hA0 hV0 hval0
  have hwalk : Calls Ybaf.prog 3 #[.float .f64 t, .int .i64 e, .int .i64 v, .int .i64 cnt, .int .i64 room, .int .i64 lim, .bool sd, .slice va n vc, .bool fb, .slice ha m hc] W fun e w' => e = .returned (.bool true) ∧ Below W.heap.size W w' := by
    by_cases hl : n ≤ 65536 ∧ m ≤ 65536
    · exact law_small va ha vb vo hbk ho n m vc hc t e v cnt room lim sd fb f h sa st W b1 b2 b3 b4 b5 b6 hg0 hc1 hsalt h0lt hl.1 hl.2
    · exact law_big va ha n m vc hc t e v cnt room lim sd fb W hl
  refine hwalk.mono fun e W' ⟨he, bel⟩ => ?_
  subst he
  exact ⟨_, rfl, _, _, _, [], _, [.cell 0 0], hW', trodAll_mk1 (shut_bool Ybaf.underlying4 _),
    (trodAll_cons_mk (Below.trod laidOut (by kernel_rfl) (of_decide_eq_true (by kernel_rfl)) h0 bel lt0) (trodAll_cons_mk (Below.trod laidOut (by kernel_rfl) (of_decide_eq_true (by kernel_rfl)) h1 bel lt1) (trodAll_cons_mk (Below.trod laidOut (by kernel_rfl) (of_decide_eq_true (by kernel_rfl)) h2 bel lt2)
      (trodAll_cons_mk (Below.trod laidOut (by kernel_rfl) (of_decide_eq_true (by kernel_rfl)) h3 bel lt3) (trodAll_cons_mk (Below.trod laidOut (by kernel_rfl) (of_decide_eq_true (by kernel_rfl)) h4 bel lt4) (trodAll_cons_mk (Below.trod laidOut (by kernel_rfl) (of_decide_eq_true (by kernel_rfl)) h5 bel lt5)
        (trodAll_cons_mk (Below.trod laidOut (by kernel_rfl) (of_decide_eq_true (by kernel_rfl)) h6 bel lt6) (trodAll_cons_mk (Below.trod laidOut (by kernel_rfl) (of_decide_eq_true (by kernel_rfl)) h7 bel lt7) (trodAll_cons_mk (Below.trod laidOut (by kernel_rfl) (of_decide_eq_true (by kernel_rfl)) h8 bel lt8)
          (trodAll_cons_mk (Below.trod laidOut (by kernel_rfl) (of_decide_eq_true (by kernel_rfl)) h9 bel lt9) trodAll_mk0)))))))))),
    vars_read1 enc gN gT Ybaf.underlying36 (var_below bel gN h0lt hv1) trivial _, bel.frame _, fun h => by cases h⟩

theorem stops : Ybaf.pinned.checked.prog.stops = ["fmt.errorf"] := by kernel_rfl
theorem stopKnobs : Ybaf.pinned.checked.prog.stopKnobs = [] := by kernel_rfl
theorem quiet (os : Os) : Stop.quiet Ybaf.pinned.checked.prog os := by
  intro k hk
  rw [stopKnobs] at hk
  cases hk

/-- THE STATEMENT. -/
theorem proved : Rows.LawS8474CWholeToldSaid :=
  Claim7.holds_of_told_tied_any_at .later 3 Ybaf.f3 "fmt.errorf" [] [] _ _ _ _ _ (by kernel_rfl) rfl rfl rfl laidOut (by kernel_rfl) rfl ⟨rfl, rfl, rfl, rfl, rfl, rfl, rfl⟩ rfl rfl (by kernel_rfl) (by kernel_rfl) Ybaf.func3 (by kernel_rfl)
    (of_decide_eq_true (by kernel_rfl)) (of_decide_eq_true (by kernel_rfl)) stops.symm rfl stopKnobs.symm (by kernel_rfl)
    (by kernel_rfl) (by kernel_rfl) (by kernel_rfl) (by kernel_rfl) (by kernel_rfl) (by kernel_rfl) (by kernel_rfl) (by kernel_rfl) (by kernel_rfl) rfl (by kernel_rfl) rfl rfl
    rfl rfl
    rfl (by kernel_rfl) (by kernel_rfl) (by kernel_rfl) (by decide) (by kernel_rfl) lawS8474CWhole_row_tie
    (OpenClaim.moreEntering_of (by kernel_rfl) (by kernel_rfl) (by kernel_rfl) (by kernel_rfl) (by kernel_rfl) (by kernel_rfl) (by kernel_rfl) (by kernel_rfl) (by kernel_rfl) (by kernel_rfl))
    ⟨_, WideRow.started_initial, quiet _⟩
    (fun os started _ H enc _ => lifted os started H enc)
end Go.Proofs.YbulkfslyFmt
