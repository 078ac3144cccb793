import Derived.Test.YbulkftysRows
import Derived.WalkKit
import Derived.WalkLawsBesides
import Derived.WalkSpells
import Derived.BigRegion
import Derived.BigQuiet
import Derived.Laws.BytesArg
import Derived.LaidEqlPtr
import Derived.Deep.QuietTactic
import Derived.Deep.RegionHeld3
import Derived.Deep.LoopGhost
import Derived.Deep.DeepCutAuto
import Derived.Deep.Light
import Derived.Deep.AppendLies
import Derived.Maps.AppendAt
namespace Go.Proofs.Ybulkftys
open Go.RowKit
set_option linter.unusedVariables false
set_option linter.unusedSimpArgs false

theorem cell_block {w : World} {b : Nat} {c : Array Value} {t : TypeId} (h : w.heap[b]? = some (.cells c t)) (i : Nat) : w.cell? ⟨b, i, none⟩ = c[i]? := by
  simp [World.cell?, h]

/-- A []byte: nil or not, its bytes; its block fits 'ok'. -/
def Bs (w : World) (ok : Nat → Prop) (v : Value) (z : Bool) (xs : List Int) : Prop :=
  (z = true ∧ xs = [] ∧ v = .slice none 0 0) ∨
  (z = false ∧ ∃ (a : Addr) (cap b off : Nat), v = .slice (some a) xs.length cap ∧ (xs ≠ [] → a = ⟨b, off, none⟩ ∧ ok b) ∧ ∀ i, i < xs.length → w.cell? ⟨b, off + i, none⟩ = some (.int .u8 (xs.getD i 0)))

theorem Bs.mono {w w' : World} {ok ok' : Nat → Prop} {v : Value} {z : Bool} {xs : List Int} (h : Bs w ok v z xs) (hb : ∀ k, ok k → w'.heap[k]? = w.heap[k]?) (hk : ∀ k, ok k → ok' k) : Bs w' ok' v z xs := by
  rcases h with h | ⟨h0, a, cap, b, off, h1, h2, h3⟩
  · exact .inl h
  · refine .inr ⟨h0, a, cap, b, off, h1, fun hx => ⟨(h2 hx).1, hk _ (h2 hx).2⟩, fun i hi => ?_⟩
    have hx : xs ≠ [] := by intro e; subst e; simp at hi
    rw [← h3 i hi]
    exact World.cell?_of_block (a := ⟨b, off + i, none⟩) (hb b (h2 hx).2)

theorem conv0 (w : World) (a : Addr) (cap : Nat) : (convert 22 9 (.slice (some a) 0 cap)).run Yba.prog w = .ok (.string (strOfNums [])) w := by
  rw [run_convert_bytes_string w 22 9 5 (some a) 0 cap Yba.underlying22 Yba.underlying5 Yba.underlying9]
  simp [Conv.bytesToString, loadCells, strOfNums]
  rfl

theorem Bs.conv {w : World} {ok : Nat → Prop} {v : Value} {z : Bool} {xs : List Int} (h : Bs w ok v z xs) : (convert 22 9 v).run Yba.prog w = .ok (.string (strOfNums xs)) w := by
  rcases h with ⟨_, rfl, rfl⟩ | ⟨_, a, cap, b, off, rfl, h2, h3⟩
  · exact run_convert_bytes_nil (P := Yba.prog) w 22 5 Yba.underlying22 Yba.underlying5 0 0 9 Yba.underlying9
  · by_cases hx : xs = []
    · subst hx
      exact conv0 w a cap
    · obtain ⟨rfl, _⟩ := h2 hx
      exact run_convert_bytes_arg (P := Yba.prog) w 22 5 Yba.underlying22 Yba.underlying5 b off xs.length cap xs rfl h3 9 Yba.underlying9

theorem Bs.form {w : World} {ok : Nat → Prop} {v : Value} {z : Bool} {xs : List Int} (h : Bs w ok v z xs) : ∃ a cap, v = .slice a xs.length cap ∧ a.isNone = z ∧ (z = true → xs = []) := by
  rcases h with ⟨rfl, rfl, rfl⟩ | ⟨rfl, a, cap, b, off, rfl, h2, h3⟩
  · exact ⟨none, 0, rfl, rfl, fun _ => rfl⟩
  · exact ⟨some a, cap, rfl, rfl, fun e => by cases e⟩

set_option maxRecDepth 100000 in
set_option maxHeartbeats 2000000 in
theorem equal_ (v1 v2 : Value) (xs : List Int) (w : World) (h1 : (convert 22 9 v1).run Yba.prog w = .ok (.string (strOfNums xs)) w) (h2 : (convert 22 9 v2).run Yba.prog w = .ok (.string (strOfNums xs)) w) :
    Calls Yba.prog 12 #[v1, v2] w fun e w' => e = .returned (.bool true) ∧ w' = w := by
  go_enter Yba.func12, Yba.ntmps12
  go_wp2
  go_ret
  exact ⟨by simp, rfl⟩

set_option maxRecDepth 100000 in
set_option maxHeartbeats 2000000 in
theorem same_ (w : World) (ok1 ok2 : Nat → Prop) (v1 v2 : Value) (z : Bool) (xs : List Int) (h1 : Bs w ok1 v1 z xs) (h2 : Bs w ok2 v2 z xs) :
    Calls Yba.prog 8 #[v1, v2] w fun e w' => e = .returned (.bool true) ∧ w' = w := by
  have hc := equal_ v1 v2 xs w h1.conv h2.conv
  obtain ⟨a1, c1, rfl, e1, -⟩ := h1.form
  obtain ⟨a2, c2, rfl, e2, -⟩ := h2.form
  have s22 := fun w a n c n' c' => Lib.run_eql_slice_nil (P := Yba.prog) w 22 _ a n c n' c' Yba.underlying22
  have HC : Hid (Calls _ _ _ _ _) := hc
  clear hc h1 h2
  generalize xs.length = n at HC ⊢
  go_enter Yba.func8, Yba.ntmps8
  cases z with
  | true =>
    cases a1 with
    | some _ => simp at e1
    | none =>
    cases a2 with
    | some _ => simp at e2
    | none =>
    go_wp2_with (go_at_call 12; refine HC.out.mono ?_; rintro e w4 ⟨rfl, rfl⟩)
    go_ret
    exact ⟨rfl, rfl⟩
  | false =>
    cases a1 with
    | none => simp at e1
    | some _ =>
    cases a2 with
    | none => simp at e2
    | some _ =>
    go_wp2_with (go_at_call 12; refine HC.out.mono ?_; rintro e w4 ⟨rfl, rfl⟩)
    go_ret
    exact ⟨rfl, rfl⟩
end Go.Proofs.Ybulkftys
