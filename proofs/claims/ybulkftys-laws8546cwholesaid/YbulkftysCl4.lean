import Derived.Test.YbulkftysCl3
namespace Go.Proofs.Ybulkftys
open Go.RowKit
set_option linter.unusedVariables false
set_option linter.unusedSimpArgs false
set_option maxRecDepth 1000000 in
set_option maxHeartbeats 4000000 in
theorem law_big (W : World) (va wa : Option Addr) (vb vo n vc wb wo wn wc : Nat) (a1 : Int) (fv fw : Nat → Int) (hlen : ¬ n + wn ≤ 1048576) (hfit : n + wn < 2 ^ 62) :
    Calls Yba.prog 4 #[.slice va n vc, .int .u64 a1, .slice wa wn wc] W fun e w' => e = .returned (.bool true) ∧ Below W.heap.size W w' := by
  have hbig : (1048576 : Int) < (n : Int) + (wn : Int) := by omega
  go_enter Yba.func4, Yba.ntmps4
  go_wp2_with fail
  go_ret
  exact ⟨rfl, Below.refl _ _⟩
set_option maxRecDepth 1000000 in
set_option maxHeartbeats 4000000 in
theorem law_none (W : World) (va wa : Option Addr) (vb vo vc wb wo wn wc : Nat) (a1 : Int) (fv fw : Nat → Int) (hlen : wn ≤ 1048576) :
    Calls Yba.prog 4 #[.slice va 0 vc, .int .u64 a1, .slice wa wn wc] W fun e w' => e = .returned (.bool true) ∧ Below W.heap.size W w' := by
  go_enter Yba.func4, Yba.ntmps4
  go_wp2_with fail
  go_ret
  exact ⟨rfl, Below.refl _ _⟩
set_option maxRecDepth 1000000 in
set_option maxHeartbeats 4000000 in
theorem law_small (W : World) (va wa : Option Addr) (vb vo n vc wb wo wn wc : Nat) (a1 : Int) (fv fw : Nat → Int) (hlen : n + wn ≤ 1048576) (hpos : 0 < n) (hva : 0 < n → va = some ⟨vb, vo, none⟩ ∧ vb < W.heap.size) (hwa : 0 < wn → wa = some ⟨wb, wo, none⟩ ∧ wb < W.heap.size) (hnil : wa = none → wn = 0 ∧ wc = 0) (hcap : wn ≤ wc) (ha1 : 0 ≤ a1 ∧ a1 < 18446744073709551616) (hv : U1 W vb vo n fv) (hw : U1 W wb wo wn fw) :
    Calls Yba.prog 4 #[.slice va n vc, .int .u64 a1, .slice wa wn wc] W fun e w' => e = .returned (.bool true) ∧ Below W.heap.size W w' := by
  obtain ⟨rfl, hvb⟩ := hva hpos
  obtain ⟨ha10, ha11⟩ := ha1
  have hn0 : ((n : Int) == 0) = false := by simp; omega
  have hp : (0 : Int) < (n : Int) := by omega
  have HH : Hid (U1 W vb vo n fv ∧ U1 W wb wo wn fw ∧ (0 < wn → wa = some ⟨wb, wo, none⟩ ∧ wb < W.heap.size) ∧ (wa = none → wn = 0 ∧ wc = 0)) := ⟨hv, hw, hwa, hnil⟩
  clear hv hw hwa hnil hva
  go_enter Yba.func4, Yba.ntmps4
  refine wp_gen fun rc hrc => ?_
  go_wp2_with fail
  refine hrc _ _ ?_
  clear hrc rc
  refine wp_gen_if fun ra rc hra hrc => ?_
  go_wp2_with fail
  first
    | refine hrc _ _ ?_
    | (refine (‹∀ (a : Act) (w : World), Code.wp _ _ _ a w → _› _ _ ?_); refine hrc _ _ ?_)
  clear hra hrc ra rc
  refine wp_gen_if fun ra rc hra hrc => ?_
  go_wp2_with fail
  first
    | refine hrc _ _ ?_
    | (refine (‹∀ (a : Act) (w : World), Code.wp _ _ _ a w → _› _ _ ?_); refine hrc _ _ ?_)
  clear hra hrc ra rc
  refine wp_gen fun rc hrc => ?_
  go_wp2_with fail
  refine hrc _ _ ?_
  clear hrc rc
  have hm1 := Int.emod_nonneg a1 (show (n : Int) ≠ 0 by omega)
  have hm2 := Int.emod_lt_of_pos a1 hp
  obtain ⟨k, hk⟩ : ∃ k : Nat, a1 % (n : Int) = (k : Int) := ⟨(a1 % (n : Int)).toNat, by omega⟩
  have hkw : wrap64 (a1 % (n : Int)) = (k : Int) := by rw [hk]; unfold wrap64; omega
  rw [hkw, hk]
  have hkn : k < n := by omega
  clear hkw hk hm1 hm2 ha10 ha11
  refine wp_gen fun rc hrc => ?_
  go_wp2_with fail
  refine hrc _ _ ?_
  clear hrc rc
  refine wp_gen fun rc hrc => ?_
  by_cases hgt : n < wn
  · have hgt2 : (n : Int) < (wn : Int) := by omega
    have hn1 : (0 : Int) ≤ (n : Int) := by omega
    have hn2 : (n : Int) ≤ (wc : Int) := by omega
    go_wp2_with fail
    first
      | refine hrc _ _ ?_
      | (refine (‹∀ (a : Act) (w : World), Code.wp _ _ _ a w → _› _ _ ?_); refine hrc _ _ ?_)
    obtain ⟨hv, hw, hwa, hnil⟩ := HH.out
    exact part9 W wa vb vo n vc wb wo wn wc n k fv fw (by omega) (by omega) (by omega) (by omega) hkn hvb hwa hnil hv hw
  · have hgt2 : ¬ (n : Int) < (wn : Int) := by omega
    go_wp2_with fail
    first
      | refine hrc _ _ ?_
      | (refine (‹∀ (a : Act) (w : World), Code.wp _ _ _ a w → _› _ _ ?_); refine hrc _ _ ?_)
    obtain ⟨hv, hw, hwa, hnil⟩ := HH.out
    exact part9 W wa vb vo n vc wb wo wn wc wn k fv fw (by omega) (by omega) (by omega) (by omega) hkn hvb hwa hnil hv hw
end Go.Proofs.Ybulkftys
