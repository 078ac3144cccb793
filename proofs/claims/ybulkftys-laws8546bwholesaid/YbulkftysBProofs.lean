import Derived.Test.YbulkftysLaw
import Derived.WalkKit
import Derived.ProofKit
import Derived.OpenShut
import Derived.ShutString
import Derived.ChangeOld
import Derived.Below
import Derived.SizedLaws
import Derived.Deep.Slices
namespace Go.Proofs.Ybulkftys
open Go.ChangeShapes Go.WideShapes Go.ChangeAt Go.RowKit Go.Deep

theorem own : ownKnob Yba.prog.godebug = none := by kernel_rfl
theorem laidOut : laidOutB Yba.prog = true := by kernel_rfl
theorem cells27 : Yba.prog.cellsOf 27 = 2 := by kernel_rfl
theorem cells24 : Yba.prog.cellsOf 24 = 1 := by kernel_rfl
theorem cells25 : Yba.prog.cellsOf 25 = 1 := by kernel_rfl
theorem cells22 : Yba.prog.cellsOf 22 = 1 := by kernel_rfl
theorem cells5 : Yba.prog.cellsOf 5 = 1 := by kernel_rfl
theorem bytes27 : Yba.prog.bytesOf 27 = 32 := by kernel_rfl
theorem bytes22 : Yba.prog.bytesOf 22 = 24 := by kernel_rfl
theorem bytes5 : Yba.prog.bytesOf 5 = 1 := by kernel_rfl

section
variable {H : Type} {enc : TypeId × Value → H} {w : World} {held : Bool} {fuel : Nat} {cs : List Value} {x : DataW H × List MemPlace}

/-- Whatever is met in the datum lies within the reach. -/
def Fits (t : TypeId) (d : DataW H) : Prop := ∀ n ∈ d.weights Yba.prog t, n ≤ reachBytes

theorem weightsAll_mem {P : Program} {e : TypeId} : ∀ {l : List (DataW H)} {d : DataW H}, d ∈ l → ∀ n ∈ d.weights P e, n ∈ DataW.weightsAll P e l
  | d0 :: l, d, hd, n, hn => by
    simp only [DataW.weightsAll, List.mem_append]
    rcases List.mem_cons.1 hd with rfl | h
    · exact .inl hn
    · exact .inr (weightsAll_mem h n hn)
  | [], _, hd, _, _ => by cases hd

theorem Fits.slice {t e : TypeId} {es sp : List (DataW H)} (h : Fits t (.slice es sp)) (hu : Yba.prog.underlying t = some (.slice e)) : (es.length + sp.length) * Yba.prog.bytesOf e ≤ reachBytes ∧ ∀ d ∈ es, Fits e d := by
  refine ⟨h _ (by simp [DataW.weights, hu]), fun d hd n hn => h n ?_⟩
  simp only [DataW.weights, hu, List.mem_cons, List.mem_append]
  exact .inr (.inl (weightsAll_mem hd n hn))

theorem Fits.struct {t : TypeId} {fs : Array Field} {ds : List (DataW H)} (h : Fits t (.agg ds)) (hu : Yba.prog.underlying t = some (.struct fs)) {j : Nat} {e : TypeId} {d : DataW H} (he : (fs.toList.map (·.type))[j]? = some e) (hd : ds[j]? = some d) : Fits e d := by
  intro n hn
  refine h n ?_
  simp only [DataW.weights, hu]
  exact DataW.weights_mem_each he hd n hn

theorem open_bytes {v : Value} (h : DataW.trod enc Yba.prog w 0 (fun _ => true) held fuel 22 [v] = some x) (hF : Fits 22 x.1) :
    ∃ (z : Bool) (xs : List Int), Bs w (fun b => b < w.heap.size) v z xs ∧ xs.length ≤ 140737488351232 := by
  rcases open_slice1 Yba.underlying22 cells5 h with ⟨hcs, rfl⟩ | ⟨a, len, cap, m, n, V, D, Pl, hcs, _, hl, _, hm, rfl, hel⟩
  · simp at hcs
    subst hcs
    exact ⟨true, [], .inl ⟨rfl, rfl, rfl⟩, by simp⟩
  · simp at hcs
    subst hcs
    simp only [if_true] at hm
    subst hm
    have hb := (hF.slice Yba.underlying22).1
    rw [bytes5] at hb
    simp only [List.length_map, List.length_range, reachBytes] at hb
    have h1 : ∀ i, i < len → ∃ q : Int, w.cell? (a.add i) = some (.int .u8 q) := by
      intro i hi
      obtain ⟨h2, h3⟩ := hel i (by omega)
      obtain ⟨f, e0, _, _⟩ := DataW.trod_int Yba.underlying5 h3
      simp at e0
      exact ⟨f, by rw [h2, e0]⟩
    obtain ⟨q, hq⟩ := choose_lt h1
    obtain ⟨b, off, sp⟩ := a
    refine ⟨false, (List.range len).map q, .inr ⟨rfl, ⟨b, off, sp⟩, m, b, off, by simp, fun hx => ?_, fun i hi => ?_⟩, by simp; omega⟩
    · have h0 : 0 < len := by
        rcases Nat.eq_zero_or_pos len with e | e
        · subst e; simp at hx
        · exact e
      have g := hq 0 h0
      have hsp := World.cell?_spot g
      simp [Addr.add] at hsp
      subst hsp
      exact ⟨rfl, by have := World.block_lt_of_cell? w _ g; simpa [Addr.add] using this⟩
    · have hi' : i < len := by simpa using hi
      have g := hq 0 (by omega)
      have hsp := World.cell?_spot g
      simp [Addr.add] at hsp
      subst hsp
      have g0 := hq i hi'
      rw [add_plain] at g0
      rw [g0]
      simp [List.getD, hi']

theorem open_pre {v : Value} (h : DataW.trod enc Yba.prog w 0 (fun _ => true) held fuel 25 [v] = some x) (hF : Fits 25 x.1) :
    ∃ (z : Bool) (es : Es), Ss w (fun b => b < w.heap.size) v z es ∧ es.length * 24 ≤ 140737488351232 ∧ ∀ e ∈ es, e.2.length ≤ 140737488351232 := by
  rcases open_slice1 Yba.underlying25 cells22 h with ⟨hcs, rfl⟩ | ⟨a, len, cap, m, n, V, D, Pl, hcs, _, hl, _, hm, rfl, hel⟩
  · simp at hcs
    subst hcs
    exact ⟨true, [], .inl ⟨rfl, rfl, rfl⟩, by simp, fun e he => by cases he⟩
  · simp at hcs
    subst hcs
    simp only [if_true] at hm
    subst hm
    obtain ⟨hb, hD⟩ := hF.slice Yba.underlying25
    rw [bytes22] at hb
    simp only [List.length_map, List.length_range, reachBytes] at hb
    have h1 : ∀ i, i < len → ∃ q : Bool × List Int, ∃ u, w.cell? (a.add i) = some u ∧ Bs w (fun b => b < w.heap.size) u q.1 q.2 ∧ q.2.length ≤ 140737488351232 := by
      intro i hi
      obtain ⟨h2, h3⟩ := hel i (by omega)
      obtain ⟨z, xs, h4, h5⟩ := open_bytes h3 (hD _ (by simp only [List.mem_map, List.mem_range]; exact ⟨i, hi, rfl⟩))
      exact ⟨(z, xs), V i, h2, h4, h5⟩
    obtain ⟨q, hq⟩ := choose_lt h1
    obtain ⟨b, off, sp⟩ := a
    refine ⟨false, (List.range len).map q, .inr ⟨rfl, ⟨b, off, sp⟩, m, b, off, by simp, fun hx => ?_, fun i e hi => ?_⟩, by simp; omega, fun e he => ?_⟩
    · have h0 : 0 < len := by
        rcases Nat.eq_zero_or_pos len with e | e
        · subst e; simp at hx
        · exact e
      obtain ⟨u, g, _⟩ := hq 0 h0
      have hsp := World.cell?_spot g
      simp [Addr.add] at hsp
      subst hsp
      exact ⟨rfl, by have := World.block_lt_of_cell? w _ g; simpa [Addr.add] using this⟩
    · have hi' : i < len := by have := (List.getElem?_eq_some_iff.1 hi).1; simpa using this
      obtain ⟨u, g, _⟩ := hq 0 (by omega)
      have hsp := World.cell?_spot g
      simp [Addr.add] at hsp
      subst hsp
      obtain ⟨u, g0, g1, _⟩ := hq i hi'
      rw [add_plain] at g0
      simp [hi'] at hi
      subst hi
      exact ⟨u, g0, g1⟩
    · simp only [List.mem_map, List.mem_range] at he
      obtain ⟨i, hi, rfl⟩ := he
      obtain ⟨u, _, _, g⟩ := hq i hi
      exact g

theorem cells2 {base : Nat} {a : Addr} {c0 c1 : Value} (h : w.cells? base a 2 = some [c0, c1]) : w.cell? a = some c0 ∧ w.cell? (a.add 1) = some c1 := by
  unfold World.cells? at h
  split at h
  case isFalse => cases h
  case isTrue =>
    have g := fun i x => mapM_some_get h i x
    refine ⟨?_, ?_⟩
    · have := g 0 0 rfl; simpa [Addr.add] using this
    · exact g 1 1 rfl

set_option maxRecDepth 100000 in
theorem open_part (h : DataW.trod enc Yba.prog w 0 (fun _ => true) held fuel 27 cs = some x) (hF : Fits 27 x.1) :
    ∃ (m : Int) (v : Value) (z : Bool) (es : Es), cs = [.int .u16 m, v] ∧ Ss w (fun b => b < w.heap.size) v z es ∧ es.length * 24 ≤ 140737488351232 ∧ ∀ e ∈ es, e.2.length ≤ 140737488351232 := by
  obtain ⟨xs, n, rfl, rfl, hl, hx, hf⟩ := DataW.trod_struct Yba.underlying27 h
  rw [cells27] at hl
  match cs, hl with
  | [c0, c1], _ =>
    have hxl : xs.length = 2 := hx
    match xs, hxl with
    | [x0, x1], _ =>
      have t0 : DataW.trod enc Yba.prog w 0 (fun _ => true) held n 24 (([c0, c1].drop 0).take (Yba.prog.cellsOf 24)) = some x0 := hf 0 _ rfl
      have t1 : DataW.trod enc Yba.prog w 0 (fun _ => true) held n 25 (([c0, c1].drop 1).take (Yba.prog.cellsOf 25)) = some x1 := hf 1 _ rfl
      rw [cells24] at t0
      rw [cells25] at t1
      obtain ⟨m, e0, _, _⟩ := DataW.trod_int Yba.underlying24 t0
      simp at e0
      have hF1 : Fits 25 x1.1 := hF.struct (ds := [x0.1, x1.1]) Yba.underlying27 (j := 1) rfl rfl
      obtain ⟨z, es, h1, h2, h3⟩ := open_pre (v := c1) t1 hF1
      exact ⟨m, c1, z, es, by rw [e0], h1, h2, h3⟩

theorem open_parts {qa : Option Addr} {n qc : Nat} (h : DataW.trod enc Yba.prog w 0 (fun _ => true) held fuel 23 [.slice qa n qc] = some x) (hF : Fits 23 x.1) :
    ∃ (qb qo : Nat) (mask : Nat → Int) (pa : Nat → Option Addr) (pc : Nat → Nat) (z : Nat → Bool) (es : Nat → Es), (0 < n → qa = some ⟨qb, qo, none⟩ ∧ qb < w.heap.size) ∧ Src w w qb qo n mask pa pc z es ∧ n * 32 ≤ 140737488351232 ∧
      (∀ i, i < n → (es i).length * 24 ≤ 140737488351232) ∧ ∀ i, i < n → ∀ e ∈ es i, e.2.length ≤ 140737488351232 := by
  rcases open_slice Yba.underlying23 h with ⟨hcs, rfl⟩ | ⟨a, len, cap, m, nf, D, Pl, hcs, _, hl, _, hm, rfl, hel⟩
  · simp at hcs
    obtain ⟨rfl, rfl, rfl⟩ := hcs
    exact ⟨0, 0, fun _ => 0, fun _ => none, fun _ => 0, fun _ => true, fun _ => [], fun h => by omega, ⟨fun i hi => by omega, fun i hi => by omega, fun i hi => by omega⟩, by simp, fun i hi => by omega, fun i hi => by omega⟩
  · simp at hcs
    obtain ⟨rfl, rfl, rfl⟩ := hcs
    simp only [if_true] at hm
    subst hm
    obtain ⟨hb, hD⟩ := hF.slice Yba.underlying23
    rw [bytes27] at hb
    simp only [List.length_map, List.length_range, reachBytes] at hb
    have h1 : ∀ i, i < n → ∃ q : Int × Option Addr × Nat × Bool × Es, w.cell? (a.add (i * 2)) = some (.int .u16 q.1) ∧ w.cell? (a.add (i * 2 + 1)) = some (.slice q.2.1 q.2.2.2.2.length q.2.2.1) ∧ Ss w (fun b => b < w.heap.size) (.slice q.2.1 q.2.2.2.2.length q.2.2.1) q.2.2.2.1 q.2.2.2.2 ∧ q.2.2.2.2.length * 24 ≤ 140737488351232 ∧ ∀ e ∈ q.2.2.2.2, e.2.length ≤ 140737488351232 := by
      intro i hi
      obtain ⟨cs', h2, h3⟩ := hel i (by omega)
      rw [cells27] at h2
      obtain ⟨m, v, z, es, rfl, h4, h5, h6⟩ := open_part h3 (hD _ (by simp only [List.mem_map, List.mem_range]; exact ⟨i, hi, rfl⟩))
      obtain ⟨g0, g1⟩ := cells2 h2
      rw [Addr.add_add] at g1
      obtain ⟨pa, pc, rfl, _⟩ := h4.form
      exact ⟨(m, pa, pc, z, es), g0, g1, h4, h5, h6⟩
    obtain ⟨q, hq⟩ := choose_lt h1
    obtain ⟨b, off, sp⟩ := a
    refine ⟨b, off, fun i => (q i).1, fun i => (q i).2.1, fun i => (q i).2.2.1, fun i => (q i).2.2.2.1, fun i => (q i).2.2.2.2, fun h0 => ?_, ⟨fun i hi => ?_, fun i hi => ?_, fun i hi => (hq i hi).2.2.1⟩, by omega, fun i hi => (hq i hi).2.2.2.1, fun i hi => (hq i hi).2.2.2.2⟩
    · have g := (hq 0 h0).1
      have hsp := World.cell?_spot g
      simp [Addr.add] at hsp
      subst hsp
      exact ⟨rfl, by have := World.block_lt_of_cell? w _ g; simpa [Addr.add] using this⟩
    · have g := (hq 0 (by omega)).1
      have hsp := World.cell?_spot g
      simp [Addr.add] at hsp
      subst hsp
      have g0 := (hq i hi).1
      rw [add_plain] at g0
      exact g0
    · have g := (hq 0 (by omega)).1
      have hsp := World.cell?_spot g
      simp [Addr.add] at hsp
      subst hsp
      have g0 := (hq i hi).2.1
      rw [add_plain] at g0
      rw [Nat.add_assoc]; exact g0
end

theorem u8_range {a : Int} (h : (Lit.int .u8 a).wf = true) : 0 ≤ a ∧ a < 256 := by
  simp only [Lit.wf, IntKind.min, IntKind.max, IntKind.signed, IntKind.bits, Bool.and_eq_true, decide_eq_true_eq, Bool.false_eq_true, if_false] at h
  omega

set_option maxRecDepth 100000 in
theorem lifted (os : Os) (started : os.Started) (H : Type) (enc : TypeId × Value → H) :
    ReturnsInHanded {} Yba.checked os 3 .any (Rows.lawS8546BWholeSpec.pre6 enc Yba.prog Yba.f3 Rows.lawS8546BWholeRow.domain false) (Rows.lawS8546BWholeSpec.post enc Yba.prog Yba.f3 false true false false) := by
  refine returnsInHanded_of_change_sized (C := Yba.checked) own started (by kernel_rfl) Yba.func3
    (ChangeSpec.witness6 (enc := enc) (C := Yba.checked) false ⟨#[], #[.int .i64 0, .int .u8 0, .int .u8 0, .slice none 0 0, .slice none 0 0], []⟩ 8 (by kernel_rfl) (by kernel_rfl) (by kernel_rfl) (by kernel_rfl)) ?_
  intro W base args ds gs before hval0 hW hcnd hsz _
  have hval : ∀ (j : Nat) t v, Yba.f3.params[j]? = some t → args[j]? = some v → Value.okWide Yba.prog W .any base t v := hval0
  have hW' := hW
  obtain ⟨p, q, hA0, hV, rfl, hfz, hnd⟩ := hW
  have hA : DataW.TrodAll enc Yba.prog W 0 (fun _ => true) true Yba.f3.params.toList args.toList ds p := hA0
  rw [Yba.params3] at hA hval
  obtain ⟨v0, vs0, d0, ds0, p0, q0, hargs, rfl, rfl, h0, r0⟩ := trodAll_cons hA
  obtain ⟨v1, vs1, d1, ds1, p1, q1, rfl, rfl, rfl, h1, r1⟩ := trodAll_cons r0
  obtain ⟨v2, vs2, d2, ds2, p2, q2, rfl, rfl, rfl, h2, r2⟩ := trodAll_cons r1
  obtain ⟨v3, vs3, d3, ds3, p3, q3, rfl, rfl, rfl, h3, r3⟩ := trodAll_cons r2
  obtain ⟨v4, vs4, d4, ds4, p4, q4, rfl, rfl, rfl, h4, r4⟩ := trodAll_cons r3
  obtain ⟨rfl, rfl, rfl⟩ := trodAll_nil r4
  obtain rfl : args = #[v0, v1, v2, v3, v4] := by cases args; simp_all
  obtain ⟨rfl, rfl⟩ := trodVars_none hV
  have hw := List.all_eq_true.1 hsz
  have F3 : Fits 22 d3 := fun n hn => by
    have := hw n (DataW.weights_mem_each (j := 3) (t := 22) (d := d3) rfl rfl n hn)
    simpa using this
  have F4 : Fits 23 d4 := fun n hn => by
    have := hw n (DataW.weights_mem_each (j := 4) (t := 23) (d := d4) rfl rfl n hn)
    simpa using this
  obtain ⟨U, rfl, rfl, rfl, w0⟩ := open_int Yba.underlying3 (hval 0 3 v0 rfl rfl) h0
  obtain ⟨a1, rfl, rfl, rfl, w1⟩ := open_int Yba.underlying5 (hval 1 5 v1 rfl rfl) h1
  obtain ⟨a2, rfl, rfl, rfl, w2⟩ := open_int Yba.underlying5 (hval 2 5 v2 rfl rfl) h2
  obtain ⟨ya, yn, yc, rfl⟩ := okWide_slice Yba.underlying22 (hval 3 22 v3 rfl rfl)
  have k3 := h3
  have lt3 : ∀ x ∈ p3, x.block < W.heap.size := by obtain ⟨m, hm⟩ := k3; exact DataW.trod_lt m _ _ _ hm
  obtain ⟨qa, n, qc, rfl⟩ := okWide_slice Yba.underlying23 (hval 4 23 v4 rfl rfl)
  have k4 := h4
  have lt4 : ∀ x ∈ p4, x.block < W.heap.size := by obtain ⟨m, hm⟩ := k4; exact DataW.trod_lt m _ _ _ hm
  obtain ⟨pz, px, b0, b1⟩ : ∃ (z : Bool) (xs : List Int), Bs W (fun b => b < W.heap.size) (.slice ya yn yc) z xs ∧ xs.length ≤ 140737488351232 := by
    obtain ⟨fuel, hf⟩ := h3
    exact open_bytes (x := (d3, p3)) (by simpa [Value.cells] using hf) F3
  obtain ⟨qb, qo, mask, pa, pc, z, es, c0, c1, c2, c3, c4⟩ : ∃ (qb qo : Nat) (mask : Nat → Int) (pa : Nat → Option Addr) (pc : Nat → Nat) (z : Nat → Bool) (es : Nat → Es), (0 < n → qa = some ⟨qb, qo, none⟩ ∧ qb < W.heap.size) ∧ Src W W qb qo n mask pa pc z es ∧ n * 32 ≤ 140737488351232 ∧
      (∀ i, i < n → (es i).length * 24 ≤ 140737488351232) ∧ ∀ i, i < n → ∀ e ∈ es i, e.2.length ≤ 140737488351232 := by
    obtain ⟨fuel, hf⟩ := h4
    exact open_parts (x := (d4, p4)) (by simpa [Value.cells] using hf) F4
  clear hA0 hval0
  refine (law W qa ya qb qo n qc yn yc U a1 a2 mask pa pc z es pz px (by omega) c0 c3 c4 (u8_range w1) (u8_range w2) b1 c1 b0).mono fun e W' ⟨he, bel⟩ => ?_
  subst he
  exact ⟨_, rfl, _, _, _, [], _, [], hW', trodAll_mk1 (shut_bool Yba.underlying4 _), (trodAll_cons_mk (shut_int Yba.underlying3 w0) (trodAll_cons_mk (shut_int Yba.underlying5 w1) (trodAll_cons_mk (shut_int Yba.underlying5 w2) (trodAll_cons_mk (Below.trod laidOut (by kernel_rfl) (of_decide_eq_true (by kernel_rfl)) k3 bel lt3) (trodAll_cons_mk (Below.trod laidOut (by kernel_rfl) (of_decide_eq_true (by kernel_rfl)) k4 bel lt4) trodAll_mk0))))), rfl, bel.frame _, fun h => by cases h⟩

theorem over : Rows.lawS8546BWholeRow.holds Yba.pinned (OpenSpec.ofChange Rows.lawS8546BWholeSpec) :=
  OpenClaim.holds_of_wide 3 Yba.f3 rfl rfl rfl rfl rfl rfl rfl ⟨rfl, rfl, rfl, rfl, rfl⟩ rfl rfl rfl rfl rfl (by kernel_rfl) Yba.func3 (by kernel_rfl)
    (of_decide_eq_true (by kernel_rfl)) (by unfold Func.isWrapper; first | (rw [if_pos (by decide +kernel)]; kernel_rfl) | (rw [if_neg (by decide +kernel)]; exact ⟨rfl, rfl⟩))
    (fun os started H enc _ => lifted os started H enc)

/-- THE STATEMENT. -/
theorem proved : Rows.LawS8546BWholeSaid := over
end Go.Proofs.Ybulkftys
