import Derived.Test.YbulkftzuDoorHl
namespace Go.Proofs.YbulkftzuDoor
open Go.RowKit
set_option linter.unusedVariables false
set_option linter.unusedSimpArgs false

theorem run_store_float (P : Program) (w : World) (a : Addr) (m : Mode) (k : FloatKind) (n : Nat) : (store a (.float k n) m).run P w = stored P w a (.float k n) m := run_store P w a _ m rfl
attribute [local go_sem] frun_add frun_sub frun_mul frun_quo mrun run_store_float

theorem cell_block {w : World} {b : Nat} {c : Array Value} {t : TypeId} (h : w.heap[b]? = some (.cells c t)) (i : Nat) : w.cell? ⟨b, i, none⟩ = c[i]? := by
  simp [World.cell?, h]

/-- What Limit leaves: the group's block alone has turned. -/
structure Lim (w w' : World) (Hb L S : Nat) : Prop where
  os : w'.os = w.os
  tape : w'.tape = w.tape
  output : w'.output = w.output
  size : w.heap.size ≤ w'.heap.size
  block : ∀ b, b < w.heap.size → b ≠ Hb → w'.heap[b]? = w.heap[b]?
  h0 : w'.cell? ⟨Hb, 0, none⟩ = some (.float .f64 L)
  h1 : w'.cell? ⟨Hb, 1, none⟩ = some (.float .f64 S)

/-- Ahead of the stores. -/
structure Pre (w w' : World) (Hb held hsh : Nat) : Prop where
  os : w'.os = w.os
  tape : w'.tape = w.tape
  output : w'.output = w.output
  size : w.heap.size ≤ w'.heap.size
  block : ∀ b, b < w.heap.size → w'.heap[b]? = w.heap[b]?

theorem Pre.lim1 {w w' : World} {Hb held hsh L S : Nat} (h : Pre w w' Hb held hsh) (hb : w.heap[Hb]? = some (.cells #[.float .f64 held, .float .f64 hsh] 25)) : Lim w ((w'.setCell ⟨Hb, 1, none⟩ (.float .f64 S)).setCell ⟨Hb, 0, none⟩ (.float .f64 L)) Hb L S := by
  have hlt := (Array.getElem?_eq_some_iff.1 hb).1
  have e1 : w'.heap[Hb]? = some (.cells #[.float .f64 held, .float .f64 hsh] 25) := (h.block Hb hlt).trans hb
  have e2 : ((w'.setCell ⟨Hb, 1, none⟩ (.float .f64 S)).setCell ⟨Hb, 0, none⟩ (.float .f64 L)).heap[Hb]? = some (.cells #[.float .f64 L, .float .f64 S] 25) := by
    simp only [World.setCell, Array.getElem?_modify, if_true, e1, Option.map_some, Option.isSome_none, Bool.false_eq_true, if_false]
    rfl
  refine ⟨h.os, h.tape, h.output, by simpa [World.setCell] using h.size, fun b h1 h2 => ?_, by rw [cell_block e2]; rfl, by rw [cell_block e2]; rfl⟩
  rw [Below.heap_setCell _ _ _ _ (by exact h2), Below.heap_setCell _ _ _ _ (by exact h2)]; exact h.block b h1
theorem Pre.lim0 {w w' : World} {Hb held hsh L : Nat} (h : Pre w w' Hb held hsh) (hb : w.heap[Hb]? = some (.cells #[.float .f64 held, .float .f64 hsh] 25)) : Lim w (w'.setCell ⟨Hb, 0, none⟩ (.float .f64 L)) Hb L hsh := by
  have hlt := (Array.getElem?_eq_some_iff.1 hb).1
  have e1 : w'.heap[Hb]? = some (.cells #[.float .f64 held, .float .f64 hsh] 25) := (h.block Hb hlt).trans hb
  have e2 : (w'.setCell ⟨Hb, 0, none⟩ (.float .f64 L)).heap[Hb]? = some (.cells #[.float .f64 L, .float .f64 hsh] 25) := by
    simp only [World.setCell, Array.getElem?_modify, if_true, e1, Option.map_some, Option.isSome_none, Bool.false_eq_true, if_false]
    rfl
  refine ⟨h.os, h.tape, h.output, by simpa [World.setCell] using h.size, fun b h1 h2 => ?_, by rw [cell_block e2]; rfl, by rw [cell_block e2]; rfl⟩
  rw [Below.heap_setCell _ _ _ _ (by exact h2)]; exact h.block b h1

/-- The cores that are shared. -/
def sharedV (share av : Nat) : Nat := if ltB share 4607182418800017408 = true then 9218868437227405312 else av

set_option maxRecDepth 1000000 in
set_option maxHeartbeats 4000000 in
theorem limit_ (Hb J l wt held hsh share av : Nat) (i p : Int) (w : World) (hb : w.heap[Hb]? = some (.cells #[.float .f64 held, .float .f64 hsh] 25)) (hj : w.cell? ⟨J, 1, none⟩ = some (.float .f64 share)) (hg : w.cell? ⟨0, 0, none⟩ = some (.float .f64 9218868437227405312)) (hJH : J ≠ Hb) (h0H : 0 ≠ Hb) :
    Calls Ybad.prog 4 #[.pointer (some ⟨Hb, 0, none⟩), .agg #[.float .f64 l, .float .f64 wt], .pointer (some ⟨J, 0, none⟩), .float .f64 av, .int .i64 i, .int .i64 p] w fun e w' =>
      e = .returned (.float .f64 (heldV (slackO i p) l held (sharedV share av) (gtB share hsh))) ∧ Lim w w' Hb (heldV (slackO i p) l held (sharedV share av) (gtB share hsh)) (if (FloatKind.f64.format.order (heldV (slackO i p) l held (sharedV share av) (gtB share hsh)) held != some .eq) = true then share else hsh) := by
  have hlt : Hb < w.heap.size := (Array.getElem?_eq_some_iff.1 hb).1
  have jlt : J < w.heap.size := World.block_lt_of_cell? w _ hj
  have glt : 0 < w.heap.size := World.block_lt_of_cell? w _ hg
  have HP : Hid (∀ q, Pre w ((w.alloc (.cells #[.float .f64 l, .float .f64 wt] 40)).drewN q) Hb held hsh) := fun q => ⟨rfl, rfl, rfl, by simp, fun b h => Below.heap_alloc _ _ _ h⟩
  have b1 : (w.alloc (.cells #[.float .f64 l, .float .f64 wt] 40)).heap[Hb]? = some (.cells #[.float .f64 held, .float .f64 hsh] 25) := (Below.heap_alloc _ _ _ hlt).trans hb
  have f0 : (w.alloc (.cells #[.float .f64 l, .float .f64 wt] 40)).cell? ⟨Hb, 0, none⟩ = some (.float .f64 held) := by rw [cell_block b1]; rfl
  have f1 : (w.alloc (.cells #[.float .f64 l, .float .f64 wt] 40)).cell? ⟨Hb, 1, none⟩ = some (.float .f64 hsh) := by rw [cell_block b1]; rfl
  have z0 : (w.alloc (.cells #[.float .f64 l, .float .f64 wt] 40)).frozen? ⟨Hb, 0, none⟩ = false := by simp [World.frozen?, b1]
  have z1 : (w.alloc (.cells #[.float .f64 l, .float .f64 wt] 40)).frozen? ⟨Hb, 1, none⟩ = false := by simp [World.frozen?, b1]
  have f2 : (w.alloc (.cells #[.float .f64 l, .float .f64 wt] 40)).cell? ⟨J, 1, none⟩ = some (.float .f64 share) := (World.cell?_alloc_lt _ _ _ jlt).trans hj
  have f3 : (w.alloc (.cells #[.float .f64 l, .float .f64 wt] 40)).cell? ⟨0, 0, none⟩ = some (.float .f64 9218868437227405312) := (World.cell?_alloc_lt _ _ _ glt).trans hg
  have f4 : (w.alloc (.cells #[.float .f64 l, .float .f64 wt] 40)).cell? ⟨w.heap.size, 0, none⟩ = some (.float .f64 l) := by rw [cell_block (heap_alloc_new _ _)]; rfl
  have HY : Hid (Calls _ _ _ _ _) := yields_ J share _ f2
  have HB : Hid (w.heap[Hb]? = some (.cells #[.float .f64 held, .float .f64 hsh] 25)) := hb
  clear hb b1
  generalize hsv : sharedV share av = sh
  have HSV : Hid (sharedV share av = sh) := hsv
  have HS : Hid (∀ w, Calls Ybad.prog 11 #[.int .i64 i, .int .i64 p] w fun e w' => ∃ r, e = .returned (.float .f64 r) ∧ R (slackO i p) r ∧ ∃ k, w' = w.drewN k) := slack_ i p
  have HH : Hid (∀ (s : Nat) (w : World), R (slackO i p) s → w.cell? ⟨0, 0, none⟩ = some (.float .f64 9218868437227405312) → Calls Ybad.prog 10 #[.float .f64 l, .float .f64 held, .float .f64 sh, .float .f64 s, .bool (FloatKind.f64.format.order share hsh == some .gt)] w fun e w' => e = .returned (.float .f64 (heldV (slackO i p) l held sh (gtB share hsh))) ∧ ∃ k, w' = w.drewN k) := fun s w h1 h2 => held_ (slackO i p) l held sh s (gtB share hsh) w h1 h2
  generalize heldV (slackO i p) l held sh (gtB share hsh) = V at HH ⊢
  generalize hS0 : (if (FloatKind.f64.format.order V held != some .eq) = true then share else hsh) = S0
  have HS0 : Hid ((if (FloatKind.f64.format.order V held != some .eq) = true then share else hsh) = S0) := hS0
  clear hsv hS0
  go_enter Ybad.func4, Ybad.ntmps4
  go_wp2_with fail
  clear hg hj
  generalize w.alloc (.cells #[.float .f64 l, .float .f64 wt] 40) = w1 at *
  refine HY.out.mono ?_
  rintro e w2 ⟨rfl, rfl⟩
  cases hY : (Ieee.double.order share 4607182418800017408 == some .lt) with
  | true =>
    obtain rfl : 9218868437227405312 = sh := by
      have h1 : ltB share 4607182418800017408 = true := hY
      have h2 := HSV.out
      simpa [sharedV, h1] using h2
    clear hY HSV HY
    go_wp2_with fail
    go_region_held3 (fun w' => w'.cell? ⟨w.heap.size, 0, none⟩ = some (.float .f64 l) ∧ w'.cell? ⟨Hb, 0, none⟩ = some (.float .f64 held) ∧ w'.cell? ⟨Hb, 1, none⟩ = some (.float .f64 hsh) ∧ w'.cell? ⟨J, 1, none⟩ = some (.float .f64 share) ∧ w'.cell? ⟨0, 0, none⟩ = some (.float .f64 9218868437227405312)) (go_keep)
      (first | (go_at_call 11; refine (HS.out _).mono ?_; rintro e w3 ⟨s, rfl, hs, q, rfl⟩) | (go_at_call 10; refine (HH.out s _ hs ?_).mono ?_; (simp [*]); rintro e w4 ⟨rfl, q2, rfl⟩))
    clear HS HH hs f2 f3 f4
    cases hN : (FloatKind.f64.format.order V held != some .eq) with
    | true =>
      obtain rfl : share = S0 := by have h1 := HS0.out; rw [hN] at h1; simpa using h1
      clear HS0
      go_wp2_with fail
      go_ret
      exact ⟨rfl, (HP.out _).lim1 HB.out⟩
    | false =>
      obtain rfl : hsh = S0 := by have h1 := HS0.out; rw [hN] at h1; simpa using h1
      clear HS0
      go_wp2_with fail
      go_ret
      exact ⟨rfl, (HP.out _).lim0 HB.out⟩
  | false =>
    obtain rfl : av = sh := by
      have h1 : ltB share 4607182418800017408 = false := hY
      have h2 := HSV.out
      simpa [sharedV, h1] using h2
    clear hY HSV HY
    go_wp2_with fail
    go_region_held3 (fun w' => w'.cell? ⟨w.heap.size, 0, none⟩ = some (.float .f64 l) ∧ w'.cell? ⟨Hb, 0, none⟩ = some (.float .f64 held) ∧ w'.cell? ⟨Hb, 1, none⟩ = some (.float .f64 hsh) ∧ w'.cell? ⟨J, 1, none⟩ = some (.float .f64 share) ∧ w'.cell? ⟨0, 0, none⟩ = some (.float .f64 9218868437227405312)) (go_keep)
      (first | (go_at_call 11; refine (HS.out _).mono ?_; rintro e w3 ⟨s, rfl, hs, q, rfl⟩) | (go_at_call 10; refine (HH.out s _ hs ?_).mono ?_; (simp [*]); rintro e w4 ⟨rfl, q2, rfl⟩))
    clear HS HH hs f2 f3 f4
    cases hN : (FloatKind.f64.format.order V held != some .eq) with
    | true =>
      obtain rfl : share = S0 := by have h1 := HS0.out; rw [hN] at h1; simpa using h1
      clear HS0
      go_wp2_with fail
      go_ret
      exact ⟨rfl, (HP.out _).lim1 HB.out⟩
    | false =>
      obtain rfl : hsh = S0 := by have h1 := HS0.out; rw [hN] at h1; simpa using h1
      clear HS0
      go_wp2_with fail
      go_ret
      exact ⟨rfl, (HP.out _).lim0 HB.out⟩
end Go.Proofs.YbulkftzuDoor
