import Derived.Test.YbulkftysCl
namespace Go.Proofs.Ybulkftys
open Go.RowKit
set_option linter.unusedVariables false
set_option linter.unusedSimpArgs false

/-- A [][]byte that is read: nil or not; of each element whether it is nil, and its bytes. -/
def Ss (w : World) (ok : Nat → Prop) (v : Value) (z : Bool) (es : List (Bool × List Int)) : Prop :=
  (z = true ∧ es = [] ∧ v = .slice none 0 0) ∨
  (z = false ∧ ∃ (a : Addr) (cap b off : Nat), v = .slice (some a) es.length cap ∧ (es ≠ [] → a = ⟨b, off, none⟩ ∧ ok b) ∧ ∀ i e, es[i]? = some e → ∃ u, w.cell? ⟨b, off + i, none⟩ = some u ∧ Bs w ok u e.1 e.2)

theorem Ss.mono {w w' : World} {ok ok' : Nat → Prop} {v : Value} {z : Bool} {es : List (Bool × List Int)} (h : Ss w ok v z es) (hb : ∀ k, ok k → w'.heap[k]? = w.heap[k]?) (hk : ∀ k, ok k → ok' k) : Ss w' ok' v z es := by
  rcases h with h | ⟨h0, a, cap, b, off, h1, h2, h3⟩
  · exact .inl h
  · refine .inr ⟨h0, a, cap, b, off, h1, fun hx => ⟨(h2 hx).1, hk _ (h2 hx).2⟩, fun i e hi => ?_⟩
    have hx : es ≠ [] := by intro e; subst e; simp at hi
    obtain ⟨u, hu, hB⟩ := h3 i e hi
    exact ⟨u, (World.cell?_of_block (a := ⟨b, off + i, none⟩) (hb b (h2 hx).2)).trans hu, hB.mono hb hk⟩

/-- A [][]byte of our own: its row is new, its elements' blocks lie elsewhere. -/
def Lk (w : World) (lo hi : Nat) (v : Value) (z : Bool) (es : List (Bool × List Int)) : Prop :=
  ∃ us : List Value, w.ownsRow lo 22 1 v es.length us ∧ (z = true ↔ v = .slice none 0 0) ∧ (∀ k, v.ownBlock = some k → k < hi) ∧
    ∀ (i : Nat) (e : Bool × List Int), es[i]? = some e → ∃ u : Value, us[i]? = some u ∧ Bs w (fun b => lo ≤ b ∧ b < hi ∧ v.ownBlock ≠ some b) u e.1 e.2

theorem Lk_nil (w : World) (lo hi : Nat) : Lk w lo hi (.slice none 0 0) true [] := by
  refine ⟨[], ⟨rfl, .inl ⟨rfl, rfl⟩⟩, by simp, ?_, ?_⟩
  · intro k hk; simp [Value.ownBlock] at hk
  · intro i e he; simp at he

/-- The clone's loop, k elements copied. -/
structure CMid (w wr : World) (n k : Nat) (es : List (Bool × List Int)) : Prop where
  below : Below w.heap.size w wr
  row : ∃ cur, wr.heap[w.heap.size]? = some (.cells cur 22) ∧ cur.size = n ∧ ∀ i e, i < k → es[i]? = some e → ∃ u, cur[i]? = some u ∧ Bs wr (fun b => w.heap.size < b ∧ b < wr.heap.size) u e.1 e.2

theorem CMid.lt {w wr : World} {n k : Nat} {es : List (Bool × List Int)} (h : CMid w wr n k es) : w.heap.size < wr.heap.size := by
  obtain ⟨cur, h1, _⟩ := h.row
  exact (Array.getElem?_eq_some_iff.1 h1).1

theorem CMid.cell {w wr w1 : World} {n k : Nat} {es : List (Bool × List Int)} (h : CMid w wr n k es) (hk : k < n) (hb : Below wr.heap.size wr w1) : (∃ v, w1.cell? ⟨w.heap.size, k, none⟩ = some v) ∧ w1.frozen? ⟨w.heap.size, k, none⟩ = false := by
  have hlt := h.lt
  obtain ⟨cur, h1, h2, _⟩ := h.row
  have h3 := (hb.block _ hlt).trans h1
  exact ⟨⟨cur[k], by rw [cell_block h3]; simp [h2, hk]⟩, by simp [World.frozen?, h3]⟩

theorem CMid.step {w wr w1 : World} {n k : Nat} {es : List (Bool × List Int)} {e : Bool × List Int} {v : Value} (h : CMid w wr n k es) (hk : k < n) (he : es[k]? = some e) (hb : Below wr.heap.size wr w1) (hv : Bs w1 (fun b => wr.heap.size ≤ b ∧ b < w1.heap.size) v e.1 e.2) :
    CMid w (w1.setCell ⟨w.heap.size, k, none⟩ v) n (k + 1) es := by
  have hlt := h.lt
  have hs := hb.size
  have hbel : Below w.heap.size w (w1.setCell ⟨w.heap.size, k, none⟩ v) := (h.below.trans (hb.mono (Nat.le_of_lt hlt))).setCell (p := ⟨w.heap.size, k, none⟩) (Nat.le_refl _) v
  obtain ⟨cur, h1, h2, h3⟩ := h.row
  have h4 := (hb.block _ hlt).trans h1
  have h5 : (w1.setCell ⟨w.heap.size, k, none⟩ v).heap[w.heap.size]? = some (.cells (cur.setIfInBounds k v) 22) := by
    simp only [World.setCell, Array.getElem?_modify, if_true, h4, Option.map_some, Option.isSome_none, Bool.false_eq_true, if_false]
  have h6 : ∀ j, w.heap.size < j → (w1.setCell ⟨w.heap.size, k, none⟩ v).heap[j]? = w1.heap[j]? := by
    intro j hj
    exact Below.heap_setCell _ _ _ _ (by show j ≠ w.heap.size; omega)
  refine ⟨hbel, _, h5, by simp [h2], fun i e' hi he' => ?_⟩
  by_cases hik : i = k
  · subst hik
    rw [he] at he'
    cases he'
    refine ⟨v, by simp [h2, hk], hv.mono (fun j hj => h6 j (by omega)) (fun j hj => ⟨by omega, by simp [World.setCell]; omega⟩)⟩
  · obtain ⟨u, hu, hB⟩ := h3 i e' (by omega) he'
    refine ⟨u, by simp [Array.getElem?_setIfInBounds, Ne.symm hik, hu], hB.mono (fun j hj => (h6 j hj.1).trans (hb.block j hj.2)) (fun j hj => ⟨hj.1, by simp [World.setCell]; omega⟩)⟩

theorem CMid.done {w wr : World} {es : List (Bool × List Int)} (h : CMid w wr es.length es.length es) (hn : es.length ≤ maxLen) : Lk wr w.heap.size wr.heap.size (.slice (some ⟨w.heap.size, 0, none⟩) es.length es.length) false es := by
  have hlt := h.lt
  obtain ⟨cur, h1, h2, h3⟩ := h.row
  refine ⟨cur.toList, ⟨by simp [h2], .inr ⟨w.heap.size, es.length, cur, rfl, Nat.le_refl _, h1, Nat.le_refl _, hn, by simp [h2], by rw [List.take_of_length_le]; simp [h2]⟩⟩, by simp, fun k hk => by simp [Value.ownBlock] at hk; omega, fun i e he => ?_⟩
  obtain ⟨u, hu, hB⟩ := h3 i e (List.getElem?_eq_some_iff.1 he).1 he
  exact ⟨u, by simpa using hu, hB.mono (fun _ _ => rfl) (fun j hj => ⟨by omega, hj.2, by simp [Value.ownBlock]; omega⟩)⟩

theorem wrap_succ {k : Nat} (h : k < 9223372036854775807) : Value.int .i64 (wrap64 ((k : Int) + 1)) = Value.int .i64 ((k + 1 : Nat) : Int) := by
  have : wrap64 ((k : Int) + 1) = ((k + 1 : Nat) : Int) := by unfold wrap64; omega
  rw [this]

theorem run_mk25 (n : Nat) (hn : n * 24 ≤ 140737488355328) (w : World) : (Instr.makeSlice 25 (.int .i64 (n : Int)) (.int .i64 (n : Int))).run Yba.prog w =
    .ok (.slice (some ⟨w.heap.size, 0, none⟩) n n) (w.alloc (.cells (madeCells #[.slice none 0 0] n) 22)) := by
  obtain ⟨i, hi, hz, hs, hb⟩ := info_parts info22
  have hr := run_make (P := Yba.prog) w 25 22 i _ Yba.underlying25 hi hz .i64 .i64 n n (by omega) (Int.le_refl _) (by rw [hb]; omega) (by omega)
  rw [hs] at hr
  simpa [Value.cells] using hr

set_option maxRecDepth 100000 in
set_option maxHeartbeats 1000000 in
theorem sclone (w : World) (ok : Nat → Prop) (v : Value) (z : Bool) (es : List (Bool × List Int)) (h : Ss w ok v z es) (hok : ∀ k, ok k → k < w.heap.size) (hn : es.length * 24 ≤ 140737488355328) (hb : ∀ e ∈ es, e.2.length ≤ 140737488355328) :
    Calls Yba.prog 6 #[v] w fun e w' => ∃ v', e = .returned v' ∧ Lk w' w.heap.size w'.heap.size v' z es ∧ Below w.heap.size w w' := by
  have s25 := fun w a n c n' c' => Lib.run_eql_slice_nil (P := Yba.prog) w 25 _ a n c n' c' Yba.underlying25
  rcases h with ⟨rfl, rfl, rfl⟩ | ⟨rfl, a, cap, b, off, rfl, h2, h3⟩
  · go_enter Yba.func6, Yba.ntmps6
    go_wp2
    go_ret
    exact ⟨_, rfl, Lk_nil _ _ _, Below.refl _ _⟩
  · have hmk := run_mk25 es.length hn
    have hmx : es.length ≤ maxLen := by unfold maxLen; omega
    have hD := fun (wr : World) (h : CMid w wr es.length es.length es) => h.done hmx
    generalize hl : es.length = n at hmk hn hD ⊢
    have HL : Hid (es.length = n ∧ n * 24 ≤ 140737488355328) := ⟨hl, hn⟩
    have HD : Hid (∀ wr : World, CMid w wr n n es → Lk wr w.heap.size wr.heap.size (.slice (some ⟨w.heap.size, 0, none⟩) n n) false es) := hD
    clear hn hl hD hmx
    go_enter Yba.func6, Yba.ntmps6
    go_wp2
    go_loopg [13] n (fun g i wr => ∃ k : Nat, k + g = n ∧ i = .int .i64 k ∧ CMid w wr n k es)
    case atStart => exact ⟨0, by omega, rfl, (Below.refl _ _).alloc (Nat.le_refl _) _, _, heap_alloc_new _ _, by rw [size_madeCells], fun i e hi _ => by omega⟩
    case round =>
      obtain ⟨k, hk, rfl, hm⟩ := hrel
      have hn := HL.out.2
      by_cases hlt : k < n
      · have hlt' : k < es.length := by rw [HL.out.1]; exact hlt
        obtain ⟨rfl, hbok⟩ := h2 (by intro e; subst e; simp at hlt')
        have hek : es[k]? = some es[k] := List.getElem?_eq_getElem hlt'
        have hbk := hb _ (List.getElem_mem hlt')
        generalize es[k] = ek at hek hbk
        obtain ⟨u, hu, hB⟩ := h3 k _ hek
        have hu' : wr.cell? ⟨b, off + k, none⟩ = some u := (hm.below.cell (by exact hok _ hbok)).trans hu
        have hB' : Bs wr ok u ek.1 ek.2 := hB.mono (fun j hj => hm.below.block j (hok _ hj)) (fun _ h => h)
        have hC := bclone wr ok u ek.1 ek.2 hB' (fun j hj => Nat.lt_of_lt_of_le (hok j hj) hm.below.size) hbk
        obtain ⟨au, cu, rfl, -, -⟩ := hB'.form
        have HS : Hid (∀ (w1 : World) (v : Value), Below wr.heap.size wr w1 → Bs w1 (fun b => wr.heap.size ≤ b ∧ b < w1.heap.size) v ek.1 ek.2 → CMid w (w1.setCell ⟨w.heap.size, k, none⟩ v) n (k + 1) es) := fun w1 v hb hv => hm.step hlt hek hb hv
        have HCe : Hid (∀ w1 : World, Below wr.heap.size wr w1 → (∃ v, w1.cell? ⟨w.heap.size, k, none⟩ = some v) ∧ w1.frozen? ⟨w.heap.size, k, none⟩ = false) := fun w1 hb => hm.cell hlt hb
        have HC : Hid (Calls _ _ _ _ _) := hC
        have hklt : (k : Int) < (n : Int) := by omega
        have hk0 : (0 : Int) ≤ (k : Int) := by omega
        clear hC hB hB' hu hm h2 h3 hb hn hbk hlt' hek
        go_wp2_with (go_at_call 5; refine HC.out.mono ?_; rintro e w1 ⟨v', rfl, hB1, hbel1⟩; obtain ⟨⟨vx, hx⟩, hfz⟩ := HCe.out w1 hbel1; have R := HS.out w1 v' hbel1 hB1; obtain ⟨a', c', rfl, -, -⟩ := hB1.form)
        go_roundg (gk - 1)
        case measure => omega
        case rel => exact ⟨k + 1, by omega, wrap_succ (by have := HL.out.2; omega), R⟩
      · have : k = n := by omega
        subst this
        have R := HD.out wr hm
        have hbe := hm.below
        clear hm h2 h3
        go_wp2
        go_ret
        exact ⟨_, rfl, R, hbe⟩
end Go.Proofs.Ybulkftys
