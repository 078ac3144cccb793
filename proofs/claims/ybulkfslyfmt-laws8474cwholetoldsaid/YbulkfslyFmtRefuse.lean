import Derived.Test.YbulkfslyFmtErr
import Derived.Test.YbulkfslyFmtAdd
namespace Go.Proofs.YbulkfslyFmt
open Go.RowKit Go.Extern.Stop Go.Stop Go.Extern
set_option linter.unusedVariables false
set_option linter.unusedSimpArgs false
set_option maxRecDepth 1000000 in
set_option maxHeartbeats 4000000 in
theorem addRefuse (PS t : Nat) (e v count room lim : Int) (sd : Bool) (a : Addr) (s : ByteArray) (w : World)
    (p2 : w.cell? ⟨PS, 2, none⟩ = some (.int .i64 count)) (p3 : w.cell? ⟨PS, 3, none⟩ = some (.int .i64 room)) (p4 : w.cell? ⟨PS, 4, none⟩ = some (.int .i64 lim)) (p5 : w.cell? ⟨PS, 5, none⟩ = some (.bool sd))
    (h0 : w.cell? ⟨0, 0, none⟩ = some (.iface 66 (.pointer (some a)))) (hs : w.cell? a = some (.string s)) (ha : a.block < w.heap.size) (h00 : 0 < w.heap.size)
    (hc : room ≤ count) :
    Calls Ybaf.prog 6 #[.pointer (some ⟨PS, 0, none⟩), .float .f64 t, .int .i64 e, .int .i64 v] w fun e' w' => ∃ pb, e' = .returned (.iface 65 (.pointer (some ⟨pb, 0, none⟩))) ∧ w.heap.size ≤ pb ∧ pb < w'.heap.size ∧ w'.cell? ⟨pb, 1, none⟩ = some (.iface 66 (.pointer (some a))) ∧ Below w.heap.size w w' := by
  go_enter Ybaf.func6, Ybaf.ntmps6
  go_wp2_with fail
  go_quiet (fail)
  go_wp2_with fail
  go_region_held3 (fun w' => w'.cell? ⟨PS, 4, none⟩ = some (.int .i64 lim) ∧ w'.cell? ⟨PS, 5, none⟩ = some (.bool sd) ∧ w'.cell? ⟨0, 0, none⟩ = some (.iface 66 (.pointer (some a))) ∧ w'.cell? a = some (.string s)) (go_keep)
    (first | (go_at_call 10; refine (tooMany sd a s lim _ ?_ ?_ ?_ ?_).mono ?_; (simpa using h0); (simpa using hs); (simpa using ha); (simpa using h00); rintro e w' ⟨nd, rfl, rfl⟩))
  go_wp2
  go_ret
  exact ⟨w.heap.size + 1, rfl, by omega, by simp, by rw [World.cell?_drew, World.cell?_alloc_at (hn := by simp)]; rfl, below_drewN (((below_drewN (Below.refl w.heap.size w) (nq + 1)).alloc (by simp) _).alloc (by simp) _) 1⟩
end Go.Proofs.YbulkfslyFmt
