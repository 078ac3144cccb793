import Derived.Test.YbulkftysSum
namespace Go.Proofs.Ybulkftys
open Go.RowKit
set_option linter.unusedVariables false
set_option linter.unusedSimpArgs false
set_option maxRecDepth 1000000 in
set_option maxHeartbeats 4000000 in
theorem law (W : World) (qa ya : Option Addr) (qb qo n qc yn yc : Nat) (U a1 a2 : Int) (mask : Nat → Int) (pa : Nat → Option Addr) (pc : Nat → Nat) (z : Nat → Bool) (es : Nat → Es) (pz : Bool) (px : List Int)
    (hn : n * 32 ≤ 140737488355328) (hq : 0 < n → qa = some ⟨qb, qo, none⟩ ∧ qb < W.heap.size) (hes : ∀ i, i < n → (es i).length * 24 ≤ 140737488351232) (hby : ∀ i, i < n → ∀ e ∈ es i, e.2.length ≤ 140737488351232) (ha1 : 0 ≤ a1 ∧ a1 < 256) (ha2 : 0 ≤ a2 ∧ a2 < 256) (hpl : px.length ≤ 140737488351232) (hsrc : Src W W qb qo n mask pa pc z es) (hp : Bs W (fun b => b < W.heap.size) (.slice ya yn yc) pz px) :
    Calls Yba.prog 3 #[.int .i64 U, .int .u8 a1, .int .u8 a2, .slice ya yn yc, .slice qa n qc] W fun e w' => e = .returned (.bool true) ∧ Below W.heap.size W w' := by
  go_enter Yba.func3, Yba.ntmps3
  refine wp_gen fun rc hrc => ?_
  go_wp2_with fail
  refine hrc _ _ ?_
  clear hrc rc
  refine wp_gen fun rc hrc => ?_
  go_wp2_with fail
  refine hrc _ _ ?_
  clear hrc rc
  have HP : Hid (Bs W (fun b => b < W.heap.size) (.slice ya yn yc) pz px) := hp
  clear hp
  refine wp_gen fun rc hrc => ?_
  refine wp_seq (loop2 W W qa qb qo n qc _ mask pa pc z es _ hn hq hes (Below.refl _ _) hsrc (fun x' _ _ _ _ _ _ _ _ _ _ _ _ _ _ _ _ _ _ _ _ _ _ _ _ _ _ w' hb' => ?_))
  refine hrc _ _ ?_
  clear hrc rc
  by_cases hx : (65536 : Int) < x'
  · go_wp2_with fail
    go_ret
    exact ⟨rfl, hb'⟩
  · refine wp_gen_if fun ra rc hra hrc => ?_
    go_wp2_with fail
    first
      | refine hrc _ _ ?_
      | (refine (‹∀ (a : Act) (w : World), Code.wp _ _ _ a w → _› _ _ ?_); refine hrc _ _ ?_)
    clear hra hrc ra rc
    exact part14 W w' qa ya qb qo n qc yn yc U a1 a2 mask pa pc z es pz px hn hq hes hby ha1 ha2 hpl hb' hsrc HP.out
end Go.Proofs.Ybulkftys
