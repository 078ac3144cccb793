import Derived.Test.YbulkftysCl4
import Derived.WalkKit
import Derived.ProofKit
import Derived.OpenShut
import Derived.ShutString
import Derived.ChangeOld
import Derived.Below
import Derived.SizedLaws
import Derived.Deep.Slices
namespace Go.Proofs.Ybulkftys
open Go.ChangeShapes Go.WideShapes Go.ChangeAt Go.RowKit Go.Deep

theorem own : ownKnob Yba.prog.godebug = none := by kernel_rfl
theorem laidOut : laidOutB Yba.prog = true := by kernel_rfl
theorem cells35 : Yba.prog.cellsOf 35 = 1 := by kernel_rfl
theorem bytes35 : Yba.prog.bytesOf 35 = 8 := by kernel_rfl

section
variable {H : Type} {enc : TypeId × Value → H} {w : World} {held : Bool} {fuel : Nat} {x : DataW H × List MemPlace}
theorem open_vec {a0 : Option Addr} {len cap : Nat} (h : DataW.trod enc Yba.prog w 0 (fun _ => true) held fuel 56 [.slice a0 len cap] = some x) :
    ∃ (b off : Nat) (f : Nat → Int), (0 < len → a0 = some ⟨b, off, none⟩ ∧ b < w.heap.size) ∧ (a0 = none → len = 0 ∧ cap = 0) ∧ len ≤ cap ∧ U1 w b off len f ∧
      ((x.1 = .nil ∧ len = 0) ∨ ∃ es sp, x.1 = .slice es sp ∧ es.length = len) := by
  rcases open_slice1 Yba.underlying56 cells35 h with ⟨hcs, rfl⟩ | ⟨a, len', cap', m, n, V, D, Pl, hcs, _, hl, _, hm, rfl, hel⟩
  · simp at hcs
    obtain ⟨rfl, rfl, rfl⟩ := hcs
    exact ⟨0, 0, fun _ => 0, fun h => by omega, fun _ => ⟨rfl, rfl⟩, Nat.le_refl _, fun j hj => by omega, .inl ⟨rfl, rfl⟩⟩
  · simp at hcs
    obtain ⟨rfl, rfl, rfl⟩ := hcs
    simp only [if_true] at hm
    subst hm
    have h1 : ∀ i, i < len → ∃ q : Int, w.cell? (a.add i) = some (.int .u64 q) := by
      intro i hi
      obtain ⟨h2, h3⟩ := hel i (by omega)
      obtain ⟨f, e0, _, _⟩ := DataW.trod_int Yba.underlying35 h3
      simp at e0
      exact ⟨f, by rw [h2, e0]⟩
    obtain ⟨q, hq⟩ := choose_lt h1
    obtain ⟨b, off, sp⟩ := a
    refine ⟨b, off, q, ?_, fun e => (by cases e), hl, ?_, .inr ⟨_, _, rfl, by simp⟩⟩
    · intro h0
      have g := hq 0 h0
      have hsp := World.cell?_spot g
      simp [Addr.add] at hsp
      subst hsp
      exact ⟨rfl, by have := World.block_lt_of_cell? w _ g; simpa [Addr.add] using this⟩
    · intro i hi
      have g := hq 0 (by omega)
      have hsp := World.cell?_spot g
      simp [Addr.add] at hsp
      subst hsp
      have g0 := hq i hi
      rw [add_plain] at g0
      exact g0
end

theorem u64_range {a : Int} (h : (Lit.int .u64 a).wf = true) : 0 ≤ a ∧ a < 18446744073709551616 := by
  simp only [Lit.wf, IntKind.min, IntKind.max, IntKind.signed, IntKind.bits, Bool.and_eq_true, decide_eq_true_eq, Bool.false_eq_true, if_false] at h
  omega

set_option maxRecDepth 100000 in
theorem lifted (os : Os) (started : os.Started) (H : Type) (enc : TypeId × Value → H) :
    ReturnsInHanded {} Yba.checked os 4 .any (Rows.lawS8546CWholeSpec.pre6 enc Yba.prog Yba.f4 Rows.lawS8546CWholeRow.domain false) (Rows.lawS8546CWholeSpec.post enc Yba.prog Yba.f4 false true false false) := by
  refine returnsInHanded_of_change_sized (C := Yba.checked) own started (by kernel_rfl) Yba.func4
    (ChangeSpec.witness6 (enc := enc) (C := Yba.checked) false ⟨#[], #[.slice none 0 0, .int .u64 0, .slice none 0 0], []⟩ 8 (by kernel_rfl) (by kernel_rfl) (by kernel_rfl) (by kernel_rfl)) ?_
  intro W base args ds gs before hval0 hW hcnd hsz _
  have hval : ∀ (j : Nat) t v, Yba.f4.params[j]? = some t → args[j]? = some v → Value.okWide Yba.prog W .any base t v := hval0
  have hW' := hW
  obtain ⟨p, q, hA0, hV, rfl, hfz, hnd⟩ := hW
  have hA : DataW.TrodAll enc Yba.prog W 0 (fun _ => true) true Yba.f4.params.toList args.toList ds p := hA0
  rw [Yba.params4] at hA hval
  obtain ⟨v0, vs0, d0, ds0, p0, q0, hargs, rfl, rfl, h0, r0⟩ := trodAll_cons hA
  obtain ⟨v1, vs1, d1, ds1, p1, q1, rfl, rfl, rfl, h1, r1⟩ := trodAll_cons r0
  obtain ⟨v2, vs2, d2, ds2, p2, q2, rfl, rfl, rfl, h2, r2⟩ := trodAll_cons r1
  obtain ⟨rfl, rfl, rfl⟩ := trodAll_nil r2
  obtain rfl : args = #[v0, v1, v2] := by cases args; simp_all
  obtain ⟨rfl, rfl⟩ := trodVars_none hV
  obtain ⟨a0, len0, cap0, rfl⟩ := okWide_slice Yba.underlying56 (hval 0 56 v0 rfl rfl)
  have k0 := h0
  have lt0 : ∀ x ∈ p0, x.block < W.heap.size := by obtain ⟨m, hm⟩ := k0; exact DataW.trod_lt m _ _ _ hm
  obtain ⟨a1, rfl, rfl, rfl, w1⟩ := open_int Yba.underlying32 (hval 1 32 v1 rfl rfl) h1
  obtain ⟨a2, len2, cap2, rfl⟩ := okWide_slice Yba.underlying56 (hval 2 56 v2 rfl rfl)
  have k2 := h2
  have lt2 : ∀ x ∈ p2, x.block < W.heap.size := by obtain ⟨m, hm⟩ := k2; exact DataW.trod_lt m _ _ _ hm
  obtain ⟨vb, vo, fv, x0, x1, x2, x3, x4⟩ : ∃ (b off : Nat) (f : Nat → Int), (0 < len0 → a0 = some ⟨b, off, none⟩ ∧ b < W.heap.size) ∧ (a0 = none → len0 = 0 ∧ cap0 = 0) ∧ len0 ≤ cap0 ∧ U1 W b off len0 f ∧ ((d0 = .nil ∧ len0 = 0) ∨ ∃ es sp, d0 = .slice es sp ∧ es.length = len0) := by
    obtain ⟨fuel, hf⟩ := h0
    exact open_vec (x := (d0, p0)) (by simpa [Value.cells] using hf)
  obtain ⟨wb, wo, fw, y0, y1, y2, y3, y4⟩ : ∃ (b off : Nat) (f : Nat → Int), (0 < len2 → a2 = some ⟨b, off, none⟩ ∧ b < W.heap.size) ∧ (a2 = none → len2 = 0 ∧ cap2 = 0) ∧ len2 ≤ cap2 ∧ U1 W b off len2 f ∧ ((d2 = .nil ∧ len2 = 0) ∨ ∃ es sp, d2 = .slice es sp ∧ es.length = len2) := by
    obtain ⟨fuel, hf⟩ := h2
    exact open_vec (x := (d2, p2)) (by simpa [Value.cells] using hf)
  have hs0 : len0 * 8 ≤ 140737488351232 := by
    rcases x4 with ⟨_, rfl⟩ | ⟨es, sp, rfl, rfl⟩
    · omega
    · have : (es.length + sp.length) * Yba.prog.bytesOf 35 ≤ reachBytes := sized_slice hsz (j := 0) (t := 56) (e := 35) rfl rfl Yba.underlying56
      rw [bytes35] at this
      simp only [reachBytes] at this
      omega
  have hs2 : len2 * 8 ≤ 140737488351232 := by
    rcases y4 with ⟨_, rfl⟩ | ⟨es, sp, rfl, rfl⟩
    · omega
    · have : (es.length + sp.length) * Yba.prog.bytesOf 35 ≤ reachBytes := sized_slice hsz (j := 2) (t := 56) (e := 35) rfl rfl Yba.underlying56
      rw [bytes35] at this
      simp only [reachBytes] at this
      omega
  clear hA0 hval0
  have hwalk : Calls Yba.prog 4 #[.slice a0 len0 cap0, .int .u64 a1, .slice a2 len2 cap2] W fun e w' => e = .returned (.bool true) ∧ Below W.heap.size W w' := by
    by_cases hl : len0 + len2 ≤ 1048576
    · rcases Nat.eq_zero_or_pos len0 with hz | hp
      · subst hz
        exact law_none W a0 a2 vb vo cap0 wb wo len2 cap2 a1 fv fw (by omega)
      · exact law_small W a0 a2 vb vo len0 cap0 wb wo len2 cap2 a1 fv fw hl hp x0 y0 y1 y2 (u64_range w1) x3 y3
    · exact law_big W a0 a2 vb vo len0 cap0 wb wo len2 cap2 a1 fv fw hl (by omega)
  refine hwalk.mono fun e W' ⟨he, bel⟩ => ?_
  subst he
  exact ⟨_, rfl, _, _, _, [], _, [], hW', trodAll_mk1 (shut_bool Yba.underlying4 _), (trodAll_cons_mk (Below.trod laidOut (by kernel_rfl) (of_decide_eq_true (by kernel_rfl)) k0 bel lt0) (trodAll_cons_mk (shut_int Yba.underlying32 w1) (trodAll_cons_mk (Below.trod laidOut (by kernel_rfl) (of_decide_eq_true (by kernel_rfl)) k2 bel lt2) trodAll_mk0))), rfl, bel.frame _, fun h => by cases h⟩

theorem over : Rows.lawS8546CWholeRow.holds Yba.pinned (OpenSpec.ofChange Rows.lawS8546CWholeSpec) :=
  OpenClaim.holds_of_wide 4 Yba.f4 rfl rfl rfl rfl rfl rfl rfl ⟨rfl, rfl, rfl, rfl, rfl⟩ rfl rfl rfl rfl rfl (by kernel_rfl) Yba.func4 (by kernel_rfl)
    (of_decide_eq_true (by kernel_rfl)) (by unfold Func.isWrapper; first | (rw [if_pos (by decide +kernel)]; kernel_rfl) | (rw [if_neg (by decide +kernel)]; exact ⟨rfl, rfl⟩))
    (fun os started H enc _ => lifted os started H enc)

/-- THE STATEMENT. -/
theorem proved : Rows.LawS8546CWholeSaid := over
end Go.Proofs.Ybulkftys
