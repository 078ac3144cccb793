import Derived.Test.YbulkfslyWalk
import Derived.WalkKit
import Derived.ProofKit
import Derived.OpenShut
import Derived.ShutString
import Derived.ChangeOld
import Derived.Below
import Derived.Deep.Slices
namespace Go.Proofs.Ybulkfsly
open Go.ChangeShapes Go.WideShapes Go.ChangeAt Go.RowKit Go.Deep

theorem own : ownKnob Yba.prog.godebug = none := by kernel_rfl
theorem laidOut : laidOutB Yba.prog = true := by kernel_rfl
theorem cells26 : Yba.prog.cellsOf 26 = 4 := by kernel_rfl
theorem cells3 : Yba.prog.cellsOf 3 = 1 := by kernel_rfl
theorem cells24 : Yba.prog.cellsOf 24 = 1 := by kernel_rfl

section
variable {H : Type} {enc : TypeId × Value → H} {P : Program} {w : World} {base : Nat} {spare : Nat → Bool} {held : Bool} {fuel : Nat} {t : TypeId} {cs : List Value} {x : DataW H × List MemPlace}
theorem trod_float {k : FloatKind} (ht : P.underlying t = some (.float k)) (h : DataW.trod enc P w base spare held fuel t cs = some x) : ∃ n, cs = [.float k n] ∧ x = (.lit (.float k n), []) ∧ (Lit.float k n).wf = true := by
  cases fuel with
  | zero => simp [DataW.trod] at h
  | succ n =>
    unfold DataW.trod at h
    rw [ht] at h
    split at h <;> simp_all

theorem open_link (h : DataW.trod enc Yba.prog w base spare held fuel 26 cs = some x) : ∃ (f t : Int) (m u : Nat), cs = [.int .i64 f, .int .i64 t, .float .f64 m, .float .f64 u] := by
  obtain ⟨xs, n, rfl, rfl, hl, hx, hf⟩ := DataW.trod_struct Yba.underlying26 h
  rw [cells26] at hl
  match cs, hl with
  | [c0, c1, c2, c3], _ =>
    have hxl : xs.length = 4 := hx
    match xs, hxl with
    | [x0, x1, x2, x3], _ =>
      have t0 : DataW.trod enc Yba.prog w base spare held n 3 (([c0, c1, c2, c3].drop 0).take (Yba.prog.cellsOf 3)) = some x0 := hf 0 _ rfl
      have t1 : DataW.trod enc Yba.prog w base spare held n 3 (([c0, c1, c2, c3].drop 1).take (Yba.prog.cellsOf 3)) = some x1 := hf 1 _ rfl
      have t2 : DataW.trod enc Yba.prog w base spare held n 24 (([c0, c1, c2, c3].drop 2).take (Yba.prog.cellsOf 24)) = some x2 := hf 2 _ rfl
      have t3 : DataW.trod enc Yba.prog w base spare held n 24 (([c0, c1, c2, c3].drop 3).take (Yba.prog.cellsOf 24)) = some x3 := hf 3 _ rfl
      rw [cells3] at t0 t1
      rw [cells24] at t2 t3
      obtain ⟨f, e0, _, _⟩ := DataW.trod_int Yba.underlying3 t0
      obtain ⟨g, e1, _, _⟩ := DataW.trod_int Yba.underlying3 t1
      obtain ⟨m, e2, _, _⟩ := trod_float Yba.underlying24 t2
      obtain ⟨u, e3, _, _⟩ := trod_float Yba.underlying24 t3
      simp at e0 e1 e2 e3
      exact ⟨f, g, m, u, by rw [e0, e1, e2, e3]⟩

theorem cells4 {a : Addr} {c0 c1 c2 c3 : Value} (h : w.cells? base a 4 = some [c0, c1, c2, c3]) : w.cell? a = some c0 ∧ w.cell? (a.add 1) = some c1 ∧ w.cell? (a.add 2) = some c2 ∧ w.cell? (a.add 3) = some c3 := by
  unfold World.cells? at h
  split at h
  case isFalse => cases h
  case isTrue =>
    have g := fun i x => mapM_some_get h i x
    refine ⟨?_, ?_, ?_, ?_⟩
    · have := g 0 0 rfl; simpa [Addr.add] using this
    · exact g 1 1 rfl
    · exact g 2 2 rfl
    · exact g 3 3 rfl

theorem open_links {a0 : Option Addr} {len cap : Nat} (h : DataW.trod enc Yba.prog w 0 (fun _ => true) held fuel 22 [.slice a0 len cap] = some x) :
    ∃ (b off : Nat) (fF fT : Nat → Int) (fM fU : Nat → Nat), (0 < len → a0 = some ⟨b, off, none⟩ ∧ b < w.heap.size) ∧ (a0 = none → len = 0) ∧ C4 w b off len fF fT fM fU := by
  rcases open_slice Yba.underlying22 h with ⟨hcs, _⟩ | ⟨a, len', cap', m, n, D, Pl, hcs, _, hl, _, hm, _, hel⟩
  · simp at hcs
    obtain ⟨rfl, rfl, rfl⟩ := hcs
    exact ⟨0, 0, fun _ => 0, fun _ => 0, fun _ => 0, fun _ => 0, fun h => by omega, fun _ => rfl, fun j hj => by omega⟩
  · simp at hcs
    obtain ⟨rfl, rfl, rfl⟩ := hcs
    simp only [if_true] at hm
    subst hm
    have h1 : ∀ i, i < len → ∃ q : Int × Int × Nat × Nat, w.cell? (a.add (i * 4)) = some (.int .i64 q.1) ∧ w.cell? (a.add (i * 4 + 1)) = some (.int .i64 q.2.1) ∧ w.cell? (a.add (i * 4 + 2)) = some (.float .f64 q.2.2.1) ∧ w.cell? (a.add (i * 4 + 3)) = some (.float .f64 q.2.2.2) := by
      intro i hi
      obtain ⟨cs', h2, h3⟩ := hel i (by omega)
      rw [cells26] at h2
      obtain ⟨f, t, m, u, rfl⟩ := open_link h3
      obtain ⟨g0, g1, g2, g3⟩ := cells4 h2
      rw [Addr.add_add] at g1 g2 g3
      exact ⟨(f, t, m, u), g0, g1, g2, g3⟩
    obtain ⟨q, hq⟩ := choose_lt h1
    obtain ⟨b, off, sp⟩ := a
    refine ⟨b, off, fun i => (q i).1, fun i => (q i).2.1, fun i => (q i).2.2.1, fun i => (q i).2.2.2, ?_, fun e => (by cases e), ?_⟩
    · intro h0
      have g := (hq 0 h0).1
      have hsp := World.cell?_spot g
      simp [Addr.add] at hsp
      subst hsp
      exact ⟨rfl, by have := World.block_lt_of_cell? w _ g; simpa [Addr.add] using this⟩
    · intro i hi
      have g := (hq 0 (by omega)).1
      have hsp := World.cell?_spot g
      simp [Addr.add] at hsp
      subst hsp
      obtain ⟨g0, g1, g2, g3⟩ := hq i hi
      rw [add_plain] at g0 g1 g2 g3
      exact ⟨g0, by rw [Nat.add_assoc]; exact g1, by rw [Nat.add_assoc]; exact g2, by rw [Nat.add_assoc]; exact g3⟩
end

set_option maxRecDepth 100000 in
theorem lifted (os : Os) (started : os.Started) (H : Type) (enc : TypeId × Value → H) :
    ReturnsInHanded {} Yba.checked os 3 .any (Rows.lawS8474AWholeSpec.pre6 enc Yba.prog Yba.f3 Rows.lawS8474AWholeRow.domain false) (Rows.lawS8474AWholeSpec.post enc Yba.prog Yba.f3 false true false false) := by
  refine returnsInHanded_of_change (C := Yba.checked) own started (by kernel_rfl) Yba.func3
    (ChangeSpec.witness6 (enc := enc) (C := Yba.checked) false ⟨#[], #[.slice none 0 0], []⟩ 8 (by kernel_rfl) (by kernel_rfl) (by kernel_rfl) (by kernel_rfl)) ?_
  intro W base args ds gs before hval0 hW hcnd _
  have hval : ∀ (j : Nat) t v, Yba.f3.params[j]? = some t → args[j]? = some v → Value.okWide Yba.prog W .any base t v := hval0
  have hW' := hW
  obtain ⟨p, q, hA0, hV, rfl, hfz, hnd⟩ := hW
  have hA : DataW.TrodAll enc Yba.prog W 0 (fun _ => true) true Yba.f3.params.toList args.toList ds p := hA0
  rw [Yba.params3] at hA hval
  obtain ⟨v0, vs0, d0, ds0, p0, q0, hargs, rfl, rfl, h0, r0⟩ := trodAll_cons hA
  obtain ⟨rfl, rfl, rfl⟩ := trodAll_nil r0
  obtain rfl : args = #[v0] := by cases args; simp_all
  obtain ⟨rfl, rfl⟩ := trodVars_none hV
  obtain ⟨a0, len0, cap0, rfl⟩ := okWide_slice Yba.underlying22 (hval 0 22 v0 rfl rfl)
  have k0 := h0
  have lt0 : ∀ x ∈ p0, x.block < W.heap.size := by obtain ⟨m, hm⟩ := k0; exact DataW.trod_lt m _ _ _ hm
  obtain ⟨b, off, fF, fT, fM, fU, w0, w1, w2⟩ : ∃ (b off : Nat) (fF fT : Nat → Int) (fM fU : Nat → Nat), (0 < len0 → a0 = some ⟨b, off, none⟩ ∧ b < W.heap.size) ∧ (a0 = none → len0 = 0) ∧ C4 W b off len0 fF fT fM fU := by
    obtain ⟨fuel, hf⟩ := h0
    exact open_links (by simpa [Value.cells] using hf)
  clear hA0 hval0
  have hwalk : Calls Yba.prog 3 #[.slice a0 len0 cap0] W fun e w' => e = .returned (.bool true) ∧ Below W.heap.size W w' := by
    by_cases hl : len0 ≤ 4096
    · exact law_small a0 b off len0 cap0 fF fT fM fU W w0 hl w1 w2
    · exact law_big a0 len0 cap0 W hl
  refine hwalk.mono fun e W' ⟨he, bel⟩ => ?_
  subst he
  exact ⟨_, rfl, _, _, _, [], _, [], hW', trodAll_mk1 (shut_bool Yba.underlying4 _), (trodAll_cons_mk (Below.trod laidOut (by kernel_rfl) (of_decide_eq_true (by kernel_rfl)) k0 bel lt0) trodAll_mk0), rfl, bel.frame _, fun h => by cases h⟩

theorem over : Rows.lawS8474AWholeRow.holds Yba.pinned (OpenSpec.ofChange Rows.lawS8474AWholeSpec) :=
  OpenClaim.holds_of_wide 3 Yba.f3 rfl rfl rfl rfl rfl rfl rfl ⟨rfl, rfl, rfl, rfl, rfl⟩ rfl rfl rfl rfl rfl (by kernel_rfl) Yba.func3 (by kernel_rfl)
    (of_decide_eq_true (by kernel_rfl)) (by unfold Func.isWrapper; first | (rw [if_pos (by decide +kernel)]; kernel_rfl) | (rw [if_neg (by decide +kernel)]; exact ⟨rfl, rfl⟩))
    (fun os started H enc _ => lifted os started H enc)

/-- THE STATEMENT. -/
theorem proved : Rows.LawS8474AWholeSaid := over
end Go.Proofs.Ybulkfsly
