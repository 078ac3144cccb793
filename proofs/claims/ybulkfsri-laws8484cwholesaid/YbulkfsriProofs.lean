import Derived.Test.YbulkfsriLaw
import Derived.WalkKit
import Derived.ProofKit
import Derived.OpenShut
import Derived.ShutString
import Derived.ChangeOld
import Derived.Below
import Derived.SizedLaws
import Derived.Deep.Slices
namespace Go.Proofs.Ybulkfsri
open Go.ChangeShapes Go.WideShapes Go.ChangeAt Go.RowKit Go.Deep

theorem own : ownKnob Yba.prog.godebug = none := by kernel_rfl
theorem laidOut : laidOutB Yba.prog = true := by kernel_rfl
theorem cells27 : Yba.prog.cellsOf 27 = 4 := by kernel_rfl
theorem cells3 : Yba.prog.cellsOf 3 = 1 := by kernel_rfl
theorem cells23 : Yba.prog.cellsOf 23 = 1 := by kernel_rfl
theorem bytes27 : Yba.prog.bytesOf 27 = 32 := by kernel_rfl
theorem bytes3 : Yba.prog.bytesOf 3 = 8 := by kernel_rfl

section
variable {H : Type} {enc : TypeId × Value → H} {w : World} {base : Nat} {spare : Nat → Bool} {held : Bool} {fuel : Nat} {cs : List Value} {x : DataW H × List MemPlace}

set_option maxRecDepth 100000 in
theorem open_read (h : DataW.trod enc Yba.prog w base spare held fuel 27 cs = some x) : ∃ (f i s r : Int), cs = [.int .i64 f, .int .u64 i, .int .u64 s, .int .u64 r] := by
  obtain ⟨xs, n, rfl, rfl, hl, hx, hf⟩ := DataW.trod_struct Yba.underlying27 h
  rw [cells27] at hl
  match cs, hl with
  | [c0, c1, c2, c3], _ =>
    have hxl : xs.length = 4 := hx
    match xs, hxl with
    | [x0, x1, x2, x3], _ =>
      have t0 : DataW.trod enc Yba.prog w base spare held n 3 (([c0, c1, c2, c3].drop 0).take (Yba.prog.cellsOf 3)) = some x0 := hf 0 _ rfl
      have t1 : DataW.trod enc Yba.prog w base spare held n 23 (([c0, c1, c2, c3].drop 1).take (Yba.prog.cellsOf 23)) = some x1 := hf 1 _ rfl
      have t2 : DataW.trod enc Yba.prog w base spare held n 23 (([c0, c1, c2, c3].drop 2).take (Yba.prog.cellsOf 23)) = some x2 := hf 2 _ rfl
      have t3 : DataW.trod enc Yba.prog w base spare held n 23 (([c0, c1, c2, c3].drop 3).take (Yba.prog.cellsOf 23)) = some x3 := hf 3 _ rfl
      rw [cells3] at t0
      rw [cells23] at t1 t2 t3
      obtain ⟨f, e0, _, _⟩ := DataW.trod_int Yba.underlying3 t0
      obtain ⟨g, e1, _, _⟩ := DataW.trod_int Yba.underlying23 t1
      obtain ⟨m, e2, _, _⟩ := DataW.trod_int Yba.underlying23 t2
      obtain ⟨u, e3, _, _⟩ := DataW.trod_int Yba.underlying23 t3
      simp at e0 e1 e2 e3
      exact ⟨f, g, m, u, by rw [e0, e1, e2, e3]⟩

theorem cells4 {a : Addr} {c0 c1 c2 c3 : Value} (h : w.cells? base a 4 = some [c0, c1, c2, c3]) : w.cell? a = some c0 ∧ w.cell? (a.add 1) = some c1 ∧ w.cell? (a.add 2) = some c2 ∧ w.cell? (a.add 3) = some c3 := by
  unfold World.cells? at h
  split at h
  case isFalse => cases h
  case isTrue =>
    have g := fun i x => mapM_some_get h i x
    refine ⟨?_, ?_, ?_, ?_⟩
    · have := g 0 0 rfl; simpa [Addr.add] using this
    · exact g 1 1 rfl
    · exact g 2 2 rfl
    · exact g 3 3 rfl

theorem open_reads {a0 : Option Addr} {len cap : Nat} (h : DataW.trod enc Yba.prog w 0 (fun _ => true) held fuel 22 [.slice a0 len cap] = some x) :
    ∃ (b off : Nat) (fF fI fS fR : Nat → Int), (0 < len → a0 = some ⟨b, off, none⟩ ∧ b < w.heap.size) ∧ (a0 = none → len = 0) ∧ C4 w b off len fF fI fS fR ∧
      ((x.1 = .nil ∧ len = 0) ∨ ∃ es sp, x.1 = .slice es sp ∧ es.length = len) := by
  rcases open_slice Yba.underlying22 h with ⟨hcs, rfl⟩ | ⟨a, len', cap', m, n, D, Pl, hcs, _, hl, _, hm, rfl, hel⟩
  · simp at hcs
    obtain ⟨rfl, rfl, rfl⟩ := hcs
    exact ⟨0, 0, fun _ => 0, fun _ => 0, fun _ => 0, fun _ => 0, fun h => by omega, fun _ => rfl, fun j hj => by omega, .inl ⟨rfl, rfl⟩⟩
  · simp at hcs
    obtain ⟨rfl, rfl, rfl⟩ := hcs
    simp only [if_true] at hm
    subst hm
    have h1 : ∀ i, i < len → ∃ q : Int × Int × Int × Int, w.cell? (a.add (i * 4)) = some (.int .i64 q.1) ∧ w.cell? (a.add (i * 4 + 1)) = some (.int .u64 q.2.1) ∧ w.cell? (a.add (i * 4 + 2)) = some (.int .u64 q.2.2.1) ∧ w.cell? (a.add (i * 4 + 3)) = some (.int .u64 q.2.2.2) := by
      intro i hi
      obtain ⟨cs', h2, h3⟩ := hel i (by omega)
      rw [cells27] at h2
      obtain ⟨f, t, m, u, rfl⟩ := open_read h3
      obtain ⟨g0, g1, g2, g3⟩ := cells4 h2
      rw [Addr.add_add] at g1 g2 g3
      exact ⟨(f, t, m, u), g0, g1, g2, g3⟩
    obtain ⟨q, hq⟩ := choose_lt h1
    obtain ⟨b, off, sp⟩ := a
    refine ⟨b, off, fun i => (q i).1, fun i => (q i).2.1, fun i => (q i).2.2.1, fun i => (q i).2.2.2, ?_, fun e => (by cases e), ?_, .inr ⟨_, _, rfl, by simp⟩⟩
    · intro h0
      have g := (hq 0 h0).1
      have hsp := World.cell?_spot g
      simp [Addr.add] at hsp
      subst hsp
      exact ⟨rfl, by have := World.block_lt_of_cell? w _ g; simpa [Addr.add] using this⟩
    · intro i hi
      have g := (hq 0 (by omega)).1
      have hsp := World.cell?_spot g
      simp [Addr.add] at hsp
      subst hsp
      obtain ⟨g0, g1, g2, g3⟩ := hq i hi
      rw [add_plain] at g0 g1 g2 g3
      exact ⟨g0, by rw [Nat.add_assoc]; exact g1, by rw [Nat.add_assoc]; exact g2, by rw [Nat.add_assoc]; exact g3⟩

theorem open_heard {a0 : Option Addr} {len cap : Nat} (h : DataW.trod enc Yba.prog w 0 (fun _ => true) held fuel 24 [.slice a0 len cap] = some x) :
    ∃ (b off : Nat) (fH : Nat → Int), (0 < len → a0 = some ⟨b, off, none⟩ ∧ b < w.heap.size) ∧ (a0 = none → len = 0) ∧ H1 w b off len fH ∧
      ((x.1 = .nil ∧ len = 0) ∨ ∃ es sp, x.1 = .slice es sp ∧ es.length = len) := by
  rcases open_slice1 Yba.underlying24 cells3 h with ⟨hcs, rfl⟩ | ⟨a, len', cap', m, n, V, D, Pl, hcs, _, hl, _, hm, rfl, hel⟩
  · simp at hcs
    obtain ⟨rfl, rfl, rfl⟩ := hcs
    exact ⟨0, 0, fun _ => 0, fun h => by omega, fun _ => rfl, fun j hj => by omega, .inl ⟨rfl, rfl⟩⟩
  · simp at hcs
    obtain ⟨rfl, rfl, rfl⟩ := hcs
    simp only [if_true] at hm
    subst hm
    have h1 : ∀ i, i < len → ∃ q : Int, w.cell? (a.add i) = some (.int .i64 q) := by
      intro i hi
      obtain ⟨h2, h3⟩ := hel i (by omega)
      obtain ⟨f, e0, _, _⟩ := DataW.trod_int Yba.underlying3 h3
      simp at e0
      exact ⟨f, by rw [h2, e0]⟩
    obtain ⟨q, hq⟩ := choose_lt h1
    obtain ⟨b, off, sp⟩ := a
    refine ⟨b, off, q, ?_, fun e => (by cases e), ?_, .inr ⟨_, _, rfl, by simp⟩⟩
    · intro h0
      have g := hq 0 h0
      have hsp := World.cell?_spot g
      simp [Addr.add] at hsp
      subst hsp
      exact ⟨rfl, by have := World.block_lt_of_cell? w _ g; simpa [Addr.add] using this⟩
    · intro i hi
      have g := hq 0 (by omega)
      have hsp := World.cell?_spot g
      simp [Addr.add] at hsp
      subst hsp
      have g0 := hq i hi
      rw [add_plain] at g0
      exact g0
end

set_option maxRecDepth 100000 in
theorem lifted (os : Os) (started : os.Started) (H : Type) (enc : TypeId × Value → H) :
    ReturnsInHanded {} Yba.checked os 3 .any (Rows.lawS8484CWholeSpec.pre6 enc Yba.prog Yba.f3 Rows.lawS8484CWholeRow.domain false) (Rows.lawS8484CWholeSpec.post enc Yba.prog Yba.f3 false true false false) := by
  refine returnsInHanded_of_change_sized (C := Yba.checked) own started (by kernel_rfl) Yba.func3
    (ChangeSpec.witness6 (enc := enc) (C := Yba.checked) false ⟨#[], #[.slice none 0 0, .int .u64 0, .slice none 0 0, .int .i64 0, .int .i64 0, .int .i64 0], []⟩ 8 (by kernel_rfl) (by kernel_rfl) (by kernel_rfl) (by kernel_rfl)) ?_
  intro W base args ds gs before hval0 hW hcnd hsz _
  have hval : ∀ (j : Nat) t v, Yba.f3.params[j]? = some t → args[j]? = some v → Value.okWide Yba.prog W .any base t v := hval0
  have hW' := hW
  obtain ⟨p, q, hA0, hV, rfl, hfz, hnd⟩ := hW
  have hA : DataW.TrodAll enc Yba.prog W 0 (fun _ => true) true Yba.f3.params.toList args.toList ds p := hA0
  rw [Yba.params3] at hA hval
  obtain ⟨v0, vs0, d0, ds0, p0, q0, hargs, rfl, rfl, h0, r0⟩ := trodAll_cons hA
  obtain ⟨v1, vs1, d1, ds1, p1, q1, rfl, rfl, rfl, h1, r1⟩ := trodAll_cons r0
  obtain ⟨v2, vs2, d2, ds2, p2, q2, rfl, rfl, rfl, h2, r2⟩ := trodAll_cons r1
  obtain ⟨v3, vs3, d3, ds3, p3, q3, rfl, rfl, rfl, h3, r3⟩ := trodAll_cons r2
  obtain ⟨v4, vs4, d4, ds4, p4, q4, rfl, rfl, rfl, h4, r4⟩ := trodAll_cons r3
  obtain ⟨v5, vs5, d5, ds5, p5, q5, rfl, rfl, rfl, h5, r5⟩ := trodAll_cons r4
  obtain ⟨rfl, rfl, rfl⟩ := trodAll_nil r5
  obtain rfl : args = #[v0, v1, v2, v3, v4, v5] := by cases args; simp_all
  obtain ⟨rfl, rfl⟩ := trodVars_none hV
  obtain ⟨a0, len0, cap0, rfl⟩ := okWide_slice Yba.underlying22 (hval 0 22 v0 rfl rfl)
  have k0 := h0
  have lt0 : ∀ x ∈ p0, x.block < W.heap.size := by obtain ⟨m, hm⟩ := k0; exact DataW.trod_lt m _ _ _ hm
  obtain ⟨ro, rfl, rfl, rfl, w1⟩ := open_int Yba.underlying23 (hval 1 23 v1 rfl rfl) h1
  obtain ⟨a2, len2, cap2, rfl⟩ := okWide_slice Yba.underlying24 (hval 2 24 v2 rfl rfl)
  have k2 := h2
  have lt2 : ∀ x ∈ p2, x.block < W.heap.size := by obtain ⟨m, hm⟩ := k2; exact DataW.trod_lt m _ _ _ hm
  obtain ⟨at_, rfl, rfl, rfl, w3⟩ := open_int Yba.underlying3 (hval 3 3 v3 rfl rfl) h3
  obtain ⟨sent, rfl, rfl, rfl, w4⟩ := open_int Yba.underlying2 (hval 4 2 v4 rfl rfl) h4
  obtain ⟨lease, rfl, rfl, rfl, w5⟩ := open_int Yba.underlying2 (hval 5 2 v5 rfl rfl) h5
  obtain ⟨b, off, fF, fI, fS, fR, x0, x1, x2, x3⟩ : ∃ (b off : Nat) (fF fI fS fR : Nat → Int), (0 < len0 → a0 = some ⟨b, off, none⟩ ∧ b < W.heap.size) ∧ (a0 = none → len0 = 0) ∧ C4 W b off len0 fF fI fS fR ∧ ((d0 = .nil ∧ len0 = 0) ∨ ∃ es sp, d0 = .slice es sp ∧ es.length = len0) := by
    obtain ⟨fuel, hf⟩ := h0
    exact open_reads (by simpa [Value.cells] using hf)
  obtain ⟨hb, hoff, fH, y0, y1, y2, y3⟩ : ∃ (b off : Nat) (fH : Nat → Int), (0 < len2 → a2 = some ⟨b, off, none⟩ ∧ b < W.heap.size) ∧ (a2 = none → len2 = 0) ∧ H1 W b off len2 fH ∧ ((d2 = .nil ∧ len2 = 0) ∨ ∃ es sp, d2 = .slice es sp ∧ es.length = len2) := by
    obtain ⟨fuel, hf⟩ := h2
    exact open_heard (by simpa [Value.cells] using hf)
  have hs0 : len0 * 32 ≤ 140737488351232 := by
    rcases x3 with ⟨_, rfl⟩ | ⟨es, sp, rfl, rfl⟩
    · omega
    · have : (es.length + sp.length) * Yba.prog.bytesOf 27 ≤ reachBytes := sized_slice hsz (j := 0) (t := 22) (e := 27) rfl rfl Yba.underlying22
      rw [bytes27] at this
      simp only [reachBytes] at this
      omega
  have hs2 : len2 * 8 ≤ 140737488351232 := by
    rcases y3 with ⟨_, rfl⟩ | ⟨es, sp, rfl, rfl⟩
    · omega
    · have : (es.length + sp.length) * Yba.prog.bytesOf 3 ≤ reachBytes := sized_slice hsz (j := 2) (t := 24) (e := 3) rfl rfl Yba.underlying24
      rw [bytes3] at this
      simp only [reachBytes] at this
      omega
  clear hA0 hval0
  have hwalk : Calls Yba.prog 3 #[.slice a0 len0 cap0, .int .u64 ro, .slice a2 len2 cap2, .int .i64 at_, .int .i64 sent, .int .i64 lease] W fun e w' => e = .returned (.bool true) ∧ Below W.heap.size W w' := by
    by_cases hl : len0 + len2 ≤ 1048576
    · exact law_small a0 a2 b off len0 cap0 hb hoff len2 cap2 fF fI fS fR fH ro at_ sent lease W hl (fun h => (x0 h).1) (fun h => (y0 h).1) (fun h => (x0 h).2) (fun h => (y0 h).2) x1 y1 x2 y2
    · exact law_big a0 a2 len0 cap0 len2 cap2 ro at_ sent lease W hl (by omega)
  refine hwalk.mono fun e W' ⟨he, bel⟩ => ?_
  subst he
  exact ⟨_, rfl, _, _, _, [], _, [], hW', trodAll_mk1 (shut_bool Yba.underlying4 _), (trodAll_cons_mk (Below.trod laidOut (by kernel_rfl) (of_decide_eq_true (by kernel_rfl)) k0 bel lt0) (trodAll_cons_mk (shut_int Yba.underlying23 w1) (trodAll_cons_mk (Below.trod laidOut (by kernel_rfl) (of_decide_eq_true (by kernel_rfl)) k2 bel lt2) (trodAll_cons_mk (shut_int Yba.underlying3 w3) (trodAll_cons_mk (shut_int Yba.underlying2 w4) (trodAll_cons_mk (shut_int Yba.underlying2 w5) trodAll_mk0)))))), rfl, bel.frame _, fun h => by cases h⟩

theorem over : Rows.lawS8484CWholeRow.holds Yba.pinned (OpenSpec.ofChange Rows.lawS8484CWholeSpec) :=
  OpenClaim.holds_of_wide 3 Yba.f3 rfl rfl rfl rfl rfl rfl rfl ⟨rfl, rfl, rfl, rfl, rfl⟩ rfl rfl rfl rfl rfl (by kernel_rfl) Yba.func3 (by kernel_rfl)
    (of_decide_eq_true (by kernel_rfl)) (by unfold Func.isWrapper; first | (rw [if_pos (by decide +kernel)]; kernel_rfl) | (rw [if_neg (by decide +kernel)]; exact ⟨rfl, rfl⟩))
    (fun os started H enc _ => lifted os started H enc)

/-- THE STATEMENT. -/
theorem proved : Rows.LawS8484CWholeSaid := over
end Go.Proofs.Ybulkfsri
