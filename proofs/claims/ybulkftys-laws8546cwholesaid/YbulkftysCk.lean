import Derived.Test.YbulkftysCt
namespace Go.Proofs.Ybulkftys
open Go.RowKit
set_option linter.unusedVariables false
set_option linter.unusedSimpArgs false

set_option maxRecDepth 100000 in
set_option maxHeartbeats 1000000 in
theorem merged_ (w : World) (vb vo n vc : Nat) (wa : Option Addr) (wb wo m wc : Nat) (fv fw : Nat → Int) (hmn : m ≤ n) (hn : n ≤ 1048576) (hvb : vb < w.heap.size) (hw : 0 < m → wa = some ⟨wb, wo, none⟩ ∧ wb < w.heap.size) (hv : U1 w vb vo n fv) (hu : U1 w wb wo m fw) :
    Calls Yba.prog 13 #[.slice (some ⟨vb, vo, none⟩) n vc, .slice wa m wc] w fun e w' => ∃ g c, e = .returned (.slice (some ⟨g, 0, none⟩) n c) ∧ Row w' g n (mx fv fw m) ∧ w.heap.size ≤ g ∧ Below w.heap.size w w' := by
  have hC := clone14 w ⟨vb, vo, none⟩ vb vo n vc fv (fun _ => ⟨rfl, hvb⟩) hv hn
  have HC : Hid (Calls _ _ _ _ _) := hC
  have HR : Hid (∀ (w1 : World) (g c : Nat), Row w1 g n fv → w.heap.size ≤ g → Below w.heap.size w w1 → Calls Yba.prog 15 #[.slice (some ⟨g, 0, none⟩) n c, .slice wa m wc] w1 fun e w' => e = .returned (.tuple #[]) ∧ Row w' g n (mx fv fw m) ∧ Turned w1 w' g) := fun w1 g c hr hg hb =>
    raise_ w1 g n c wa wb wo m wc fv fw hmn hn (fun h => ⟨(hw h).1, by have := (hw h).2; omega⟩) (hu.below hb (fun h => (hw h).2)) hr
  clear hC hv hu hw
  go_enter Yba.func13, Yba.ntmps13
  go_wp2_with (first | (go_at_call 14; refine HC.out.mono ?_; rintro e w1 ⟨g, c, rfl, hr1, hg1, hb1⟩) | (go_at_call 15; refine (HR.out w1 g c hr1 hg1 hb1).mono ?_; rintro e w2 ⟨rfl, hr2, ht2⟩))
  go_ret
  exact ⟨g, c, rfl, hr2, hg1, hb1.trans (ht2.below hg1)⟩

/-- What tick answers. -/
def tk (fv fw : Nat → Int) (m k : Nat) : Nat → Int := fun i => if i = k then IntKind.u64.wrap (mx fv fw m k + 1) else mx fv fw m i

set_option maxRecDepth 100000 in
set_option maxHeartbeats 1000000 in
theorem tick_ (w : World) (vb vo n vc k : Nat) (wa : Option Addr) (wb wo m wc : Nat) (fv fw : Nat → Int) (hmn : m ≤ n) (hn : n ≤ 1048576) (hk : k < n) (hvb : vb < w.heap.size) (hw : 0 < m → wa = some ⟨wb, wo, none⟩ ∧ wb < w.heap.size) (hv : U1 w vb vo n fv) (hu : U1 w wb wo m fw) :
    Calls Yba.prog 10 #[.slice (some ⟨vb, vo, none⟩) n vc, .int .i64 k, .slice wa m wc] w fun e w' => ∃ g c, e = .returned (.slice (some ⟨g, 0, none⟩) n c) ∧ Row w' g n (tk fv fw m k) ∧ w.heap.size ≤ g ∧ Below w.heap.size w w' := by
  have hC := merged_ w vb vo n vc wa wb wo m wc fv fw hmn hn hvb hw hv hu
  have HC : Hid (Calls _ _ _ _ _) := hC
  have hklt : (k : Int) < (n : Int) := by omega
  have hk0 : (0 : Int) ≤ (k : Int) := by omega
  clear hC hv hu hw
  go_enter Yba.func10, Yba.ntmps10
  go_wp2_with (first | (go_at_call 13; refine HC.out.mono ?_; rintro e w1 ⟨g, c, rfl, hr1, hg1, hb1⟩; obtain ⟨c1, c2⟩ := hr1.cell hk))
  go_ret
  exact ⟨g, c, rfl, hr1.set hk _ _ (by simp [tk]) (fun i hi => by simp [tk, hi]), hg1, hb1.setCell (p := ⟨g, k, none⟩) hg1 _⟩

/-- The state behind tick: the arguments, their clones, the answer's row. -/
structure LS (W w : World) (vb vo n wb wo wn g1 g2 g3 : Nat) (fv fw f : Nat → Int) : Prop where
  v : U1 w vb vo n fv
  w_ : U1 w wb wo wn fw
  cv : U1 w g1 0 n fv
  cw : U1 w g2 0 wn fw
  row : Row w g3 n f
  below : Below W.heap.size W w

theorem LS.draw {W w : World} {vb vo n wb wo wn g1 g2 g3 : Nat} {fv fw f : Nat → Int} (h : LS W w vb vo n wb wo wn g1 g2 g3 fv fw f) (q : Nat) : LS W (w.drewN q) vb vo n wb wo wn g1 g2 g3 fv fw f := by
  have e : ∀ a, (w.drewN q).cell? a = w.cell? a := fun a => by simp
  refine ⟨fun i hi => (e _).trans (h.v i hi), fun i hi => (e _).trans (h.w_ i hi), fun i hi => (e _).trans (h.cv i hi), fun i hi => (e _).trans (h.cw i hi), ?_, below_drewN h.below _⟩
  have hb : Below w.heap.size w (w.drewN q) := below_drewN (Below.refl _ _) _
  exact h.row.below hb h.row.lt

theorem LS.set {W w : World} {vb vo n wb wo wn g1 g2 g3 : Nat} {fv fw f : Nat → Int} (h : LS W w vb vo n wb wo wn g1 g2 g3 fv fw f) {k : Nat} (hk : k < n) (x : Int) (h1 : vb ≠ g3) (h2 : 0 < wn → wb ≠ g3) (h3 : g1 ≠ g3) (h4 : 0 < wn → g2 ≠ g3) (h5 : W.heap.size ≤ g3) :
    ∃ f', LS W (w.setCell ⟨g3, k, none⟩ (.int .u64 x)) vb vo n wb wo wn g1 g2 g3 fv fw f' := by
  have t := (Turned.refl w g3).setCell k (.int .u64 x)
  exact ⟨fun i => if i = k then x else f i, h.v.turned t (fun _ => h1), h.w_.turned t h2, h.cv.turned t (fun _ => h3), h.cw.turned t h4, h.row.set hk x _ (by simp) (fun i hi => by simp [hi]), h.below.setCell (p := ⟨g3, k, none⟩) h5 _⟩
end Go.Proofs.Ybulkftys
