import Derived.Test.YbulkftysRows
import Derived.WalkKit
import Derived.WalkLawsBesides
import Derived.WalkSpells
import Derived.BigRegion
import Derived.BigQuiet
import Derived.LaidEqlPtr
import Derived.Deep.QuietTactic
import Derived.Deep.RegionHeld3
import Derived.Deep.LoopGhost
import Derived.Deep.DeepCutAuto
import Derived.Deep.Light
import Derived.Deep.AppendLies
import Derived.Maps.AppendAt
namespace Go.Proofs.Ybulkftys
open Go.RowKit
set_option linter.unusedVariables false
set_option linter.unusedSimpArgs false

theorem cell_block {w : World} {b : Nat} {c : Array Value} {t : TypeId} (h : w.heap[b]? = some (.cells c t)) (i : Nat) : w.cell? ⟨b, i, none⟩ = c[i]? := by
  simp [World.cell?, h]
theorem info35 : (Yba.prog.info? 35).map (fun i => (i.zero, i.size, i.bytes)) = some (some (.int .u64 0), 1, 8) := by kernel_rfl
theorem info_parts {t : TypeId} {z : Value} {s b : Nat} (h : (Yba.prog.info? t).map (fun i => (i.zero, i.size, i.bytes)) = some (some z, s, b)) : ∃ i, Yba.prog.info? t = some i ∧ i.zero = some z ∧ i.size = s ∧ i.bytes = b := by
  obtain ⟨i, hi, hzz⟩ := Option.map_eq_some_iff.1 h
  simp only [Prod.mk.injEq] at hzz
  exact ⟨i, hi, hzz.1, hzz.2.1, hzz.2.2⟩

/-- The first n cells of a place hold these numbers. -/
def U1 (w : World) (b off n : Nat) (f : Nat → Int) : Prop := ∀ i, i < n → w.cell? ⟨b, off + i, none⟩ = some (.int .u64 (f i))

theorem U1.below {B : Nat} {w w' : World} {b off n : Nat} {f : Nat → Int} (h : U1 w b off n f) (hb : Below B w w') (hB : 0 < n → b < B) : U1 w' b off n f :=
  fun i hi => (hb.cell (by exact hB (by omega))).trans (h i hi)

/-- A row of our own: block g, n numbers at its head. -/
def Row (w : World) (g n : Nat) (f : Nat → Int) : Prop := ∃ arr, w.heap[g]? = some (.cells arr 35) ∧ n ≤ arr.size ∧ ∀ i, i < n → arr[i]? = some (.int .u64 (f i))

theorem Row.lt {w : World} {g n : Nat} {f : Nat → Int} (h : Row w g n f) : g < w.heap.size := by
  obtain ⟨arr, h1, _⟩ := h
  exact (Array.getElem?_eq_some_iff.1 h1).1
theorem Row.u1 {w : World} {g n : Nat} {f : Nat → Int} (h : Row w g n f) : U1 w g 0 n f := by
  obtain ⟨arr, h1, _, h3⟩ := h
  intro i hi
  rw [Nat.zero_add, cell_block h1]; exact h3 i hi
theorem Row.cell {w : World} {g n : Nat} {f : Nat → Int} (h : Row w g n f) {i : Nat} (hi : i < n) : w.cell? ⟨g, i, none⟩ = some (.int .u64 (f i)) ∧ w.frozen? ⟨g, i, none⟩ = false := by
  obtain ⟨arr, h1, _, h3⟩ := h
  exact ⟨by rw [cell_block h1]; exact h3 i hi, by simp [World.frozen?, h1]⟩
theorem Row.below {B : Nat} {w w' : World} {g n : Nat} {f : Nat → Int} (h : Row w g n f) (hb : Below B w w') (hB : g < B) : Row w' g n f := by
  obtain ⟨arr, h1, h2, h3⟩ := h
  exact ⟨arr, (hb.block g hB).trans h1, h2, h3⟩
theorem Row.set {w : World} {g n k : Nat} {f : Nat → Int} (h : Row w g n f) (hk : k < n) (x : Int) (f' : Nat → Int) (h1 : f' k = x) (h2 : ∀ i, i ≠ k → f' i = f i) : Row (w.setCell ⟨g, k, none⟩ (.int .u64 x)) g n f' := by
  obtain ⟨arr, e1, e2, e3⟩ := h
  refine ⟨arr.setIfInBounds k (.int .u64 x), ?_, by simpa using e2, fun i hi => ?_⟩
  · simp only [World.setCell, Array.getElem?_modify, if_true, e1, Option.map_some, Option.isSome_none, Bool.false_eq_true, if_false]
  · rw [Array.getElem?_setIfInBounds]
    by_cases e : k = i
    · subst e; simp [h1]; omega
    · rw [if_neg e, h2 i (Ne.symm e)]; exact e3 i hi

theorem row_own {w : World} {base g cap n : Nat} {f : Nat → Int} (h : w.ownsRow base 35 1 (.slice (some ⟨g, 0, none⟩) n cap) n ((List.range n).map fun i => Value.int .u64 (f i))) : Row w g n f ∧ base ≤ g := by
  obtain ⟨h0, ⟨h1, _⟩ | ⟨g, cap, cur, h1, h2, h3, h4, h5, h6, h7⟩⟩ := h
  · cases h1
  · cases h1
    refine ⟨⟨cur, h3, by omega, fun i hi => ?_⟩, h2⟩
    have : cur.toList[i]? = (cur.toList.take (n * 1))[i]? := by rw [List.getElem?_take]; simp [hi]
    rw [← Array.getElem?_toList, this, h7]
    simp [hi]

theorem own_form {w : World} {base : Nat} {e : TypeId} {size : Nat} {v : Value} {n : Nat} {xs : List Value} (h : w.ownsRow base e size v n xs) (hne : v ≠ .slice none 0 0) :
    ∃ g cap, v = .slice (some ⟨g, 0, none⟩) n cap ∧ base ≤ g := by
  obtain ⟨_, ⟨h1, _⟩ | ⟨g, cap, cur, h1, h2, _⟩⟩ := h
  · exact absurd h1 hne
  · exact ⟨g, cap, h1, h2⟩

set_option maxRecDepth 100000 in
set_option maxHeartbeats 1000000 in
theorem clone9 (w : World) (x : Addr) (b off n cap : Nat) (f : Nat → Int) (hx : 0 < n → x = ⟨b, off, none⟩ ∧ b < w.heap.size) (hu : U1 w b off n f) (hn : n ≤ 1048576) :
    Calls Yba.prog 9 #[.slice (some x) n cap] w fun e w' => ∃ g c, e = .returned (.slice (some ⟨g, 0, none⟩) n c) ∧ Row w' g n f ∧ w.heap.size ≤ g ∧ Below w.heap.size w w' := by
  have s22 := fun w a n c n' c' => Lib.run_eql_slice_nil (P := Yba.prog) w 56 _ a n c n' c' Yba.underlying56
  obtain ⟨i0, hi, hz0, hz1, hz2⟩ := info_parts info35
  have hown : (w.alloc (.cells #[] 35)).ownsRow w.heap.size 35 1 (.slice (some ⟨w.heap.size, 0, none⟩) 0 0) 0 [] := World.ownsRow_made w #[] 0 (Nat.le_refl _) (by simp [maxLen]) rfl
  have hc' : ∀ j u, ((List.range n).map fun i => Value.int .u64 (f i))[j]? = some u → (w.alloc (.cells #[] 35)).cell? (x.add j) = some u := by
    intro j u hj
    have hjl : j < n := by have := (List.getElem?_eq_some_iff.1 hj).1; simpa using this
    obtain ⟨rfl, hb⟩ := hx (by omega)
    have hadd : (⟨b, off, none⟩ : Addr).add j = ⟨b, off + j, none⟩ := by unfold Addr.add; split <;> simp_all
    rw [hadd, World.cell?_alloc_lt _ _ _ hb, hu j hjl]
    simp [hjl] at hj
    simp [hj]
  have h1 : ∀ u ∈ ((List.range n).map fun i => Value.int .u64 (f i)), u.oneCell' = true := by intro u hu; simp only [List.mem_map] at hu; obtain ⟨t, _, rfl⟩ := hu; rfl
  have hl : ((List.range n).map fun i => Value.int .u64 (f i)).length = n := by simp
  have HX : Hid (∀ (g c : Nat) (w1 : World), w1.ownsRow w.heap.size 35 1 (.slice (some ⟨g, 0, none⟩) n c) n ((List.range n).map fun i => Value.int .u64 (f i)) → Row w1 g n f ∧ w.heap.size ≤ g) := fun g c w1 h => row_own h
  clear hx hu
  generalize (List.range n).map (fun i => Value.int .u64 (f i)) = us at *
  have Hl : Hid (us.length = n) := hl
  clear hl
  go_enter Yba.func9, Yba.ntmps9
  go_wp2_with (at_builtin; refine wpList_append_own _ rfl _ _ 56 rfl w.heap.size 35 i0 (.int .u64 0) 1 8 Yba.underlying56 hi hz0 hz1 hz2 rfl (by decide) (.slice (some ⟨w.heap.size, 0, none⟩) 0 0) 0 [] rfl hown x n cap us rfl (by have := Hl.out; omega) hc' h1 (by unfold maxLen; omega) (by omega) (by simp) ?_; intro v' w1 hown' hgrow hnil)
  obtain ⟨g, c, rfl, hg⟩ := own_form hown' (fun e => by have := hnil.1 e; simp at this)
  simp only [Nat.zero_add, List.nil_append] at hown' ⊢
  go_wp2
  go_ret
  exact ⟨_, _, rfl, (HX.out _ _ _ hown').1, (HX.out _ _ _ hown').2, ((Below.refl _ _).alloc (Nat.le_refl _) _).grown hgrow (by simp) (fun k hk => by simp [Value.ownBlock] at hk; omega)⟩

set_option maxRecDepth 100000 in
set_option maxHeartbeats 1000000 in
theorem clone14 (w : World) (x : Addr) (b off n cap : Nat) (f : Nat → Int) (hx : 0 < n → x = ⟨b, off, none⟩ ∧ b < w.heap.size) (hu : U1 w b off n f) (hn : n ≤ 1048576) :
    Calls Yba.prog 14 #[.slice (some x) n cap] w fun e w' => ∃ g c, e = .returned (.slice (some ⟨g, 0, none⟩) n c) ∧ Row w' g n f ∧ w.heap.size ≤ g ∧ Below w.heap.size w w' := by
  have s22 := fun w a n c n' c' => Lib.run_eql_slice_nil (P := Yba.prog) w 61 _ a n c n' c' Yba.underlying61
  obtain ⟨i0, hi, hz0, hz1, hz2⟩ := info_parts info35
  have hown : (w.alloc (.cells #[] 35)).ownsRow w.heap.size 35 1 (.slice (some ⟨w.heap.size, 0, none⟩) 0 0) 0 [] := World.ownsRow_made w #[] 0 (Nat.le_refl _) (by simp [maxLen]) rfl
  have hc' : ∀ j u, ((List.range n).map fun i => Value.int .u64 (f i))[j]? = some u → (w.alloc (.cells #[] 35)).cell? (x.add j) = some u := by
    intro j u hj
    have hjl : j < n := by have := (List.getElem?_eq_some_iff.1 hj).1; simpa using this
    obtain ⟨rfl, hb⟩ := hx (by omega)
    have hadd : (⟨b, off, none⟩ : Addr).add j = ⟨b, off + j, none⟩ := by unfold Addr.add; split <;> simp_all
    rw [hadd, World.cell?_alloc_lt _ _ _ hb, hu j hjl]
    simp [hjl] at hj
    simp [hj]
  have h1 : ∀ u ∈ ((List.range n).map fun i => Value.int .u64 (f i)), u.oneCell' = true := by intro u hu; simp only [List.mem_map] at hu; obtain ⟨t, _, rfl⟩ := hu; rfl
  have hl : ((List.range n).map fun i => Value.int .u64 (f i)).length = n := by simp
  have HX : Hid (∀ (g c : Nat) (w1 : World), w1.ownsRow w.heap.size 35 1 (.slice (some ⟨g, 0, none⟩) n c) n ((List.range n).map fun i => Value.int .u64 (f i)) → Row w1 g n f ∧ w.heap.size ≤ g) := fun g c w1 h => row_own h
  clear hx hu
  generalize (List.range n).map (fun i => Value.int .u64 (f i)) = us at *
  have Hl : Hid (us.length = n) := hl
  clear hl
  go_enter Yba.func14, Yba.ntmps14
  go_wp2_with (at_builtin; refine wpList_append_own _ rfl _ _ 61 rfl w.heap.size 35 i0 (.int .u64 0) 1 8 Yba.underlying61 hi hz0 hz1 hz2 rfl (by decide) (.slice (some ⟨w.heap.size, 0, none⟩) 0 0) 0 [] rfl hown x n cap us rfl (by have := Hl.out; omega) hc' h1 (by unfold maxLen; omega) (by omega) (by simp) ?_; intro v' w1 hown' hgrow hnil)
  obtain ⟨g, c, rfl, hg⟩ := own_form hown' (fun e => by have := hnil.1 e; simp at this)
  simp only [Nat.zero_add, List.nil_append] at hown' ⊢
  go_wp2
  go_ret
  exact ⟨_, _, rfl, (HX.out _ _ _ hown').1, (HX.out _ _ _ hown').2, ((Below.refl _ _).alloc (Nat.le_refl _) _).grown hgrow (by simp) (fun k hk => by simp [Value.ownBlock] at hk; omega)⟩

set_option maxRecDepth 100000 in
set_option maxHeartbeats 1000000 in
theorem clone9_nil (w : World) : Calls Yba.prog 9 #[.slice none 0 0] w fun e w' => e = .returned (.slice none 0 0) ∧ w' = w := by
  have s22 := fun w a n c n' c' => Lib.run_eql_slice_nil (P := Yba.prog) w 56 _ a n c n' c' Yba.underlying56
  go_enter Yba.func9, Yba.ntmps9
  go_wp2
  go_ret
  exact ⟨rfl, rfl⟩

set_option maxRecDepth 100000 in
set_option maxHeartbeats 1000000 in
theorem equal11 (a b : Option Addr) (x ox y oy n ca cb : Nat) (f : Nat → Int) (w : World) (hn : n ≤ 1048576) (hA : 0 < n → a = some ⟨x, ox, none⟩) (hB : 0 < n → b = some ⟨y, oy, none⟩) (cA : U1 w x ox n f) (cB : U1 w y oy n f) :
    Calls Yba.prog 11 #[.slice a n ca, .slice b n cb] w fun e w' => e = .returned (.bool true) ∧ ∃ k, w' = w.drewN k := by
  have hll : ((n : Int) != (n : Int)) = false := by simp
  go_enter Yba.func11, Yba.ntmps11
  go_wp2_with fail
  go_loopg [13] n (fun g i wr => ∃ k : Nat, k + g = n ∧ i = .int .i64 k ∧ ∃ q, wr = w.drewN q)
  case atStart => exact ⟨0, by omega, rfl, 0, rfl⟩
  case round =>
    obtain ⟨k, hk, rfl, q, rfl⟩ := hrel
    by_cases hlt : k < n
    · obtain rfl := hA (by omega)
      obtain rfl := hB (by omega)
      have c1 := cA k hlt
      have c2 := cB k hlt
      have hklt : (k : Int) < (n : Int) := by omega
      have hk0 : (0 : Int) ≤ (k : Int) := by omega
      have hff : (f k != f k) = false := by simp
      clear cA cB hA hB
      go_wp2_with fail
      go_quiet (fail)
      go_wp2
      go_roundg (gk - 1)
      case measure => omega
      case rel => exact ⟨k + 1, by omega, by go_num, _, rfl⟩
    · go_wp2
      go_ret
      exact ⟨rfl, _, rfl⟩
end Go.Proofs.Ybulkftys
