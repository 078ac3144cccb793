import Derived.Test.YbulkftysPt
import Derived.Deep.RegionLaw
namespace Go.Proofs.Ybulkftys
open Go.RowKit
set_option linter.unusedVariables false
set_option linter.unusedSimpArgs false

theorem orMap {a b c d : Prop} (h : a ∨ b) (f : a → c) (g : b → d) : c ∨ d := h.elim (fun x => .inl (f x)) (fun x => .inr (g x))
def PtAt (w : World) (own : Nat → Option Nat) (lnk : Nat → Nat) (MB HB i size : Nat) (bit : Nat → Bool) (z : Bool) (es : Es) : Prop :=
  ∃ P R L, w.cell? ⟨MB, i, none⟩ = some (.pointer (some ⟨P, 0, none⟩)) ∧ w.cell? ⟨HB, i, none⟩ = some (.pointer (some ⟨P, 0, none⟩)) ∧ Pt w own lnk i size P R L bit z es
def FpAt (w : World) (ok : Nat → Prop) (MB HB i size : Nat) (bit add : Nat → Bool) (z : Bool) (es : Es) (pz : Bool) (px : List Int) : Prop :=
  ∃ P R L, w.cell? ⟨MB, i, none⟩ = some (.pointer (some ⟨P, 0, none⟩)) ∧ w.cell? ⟨HB, i, none⟩ = some (.pointer (some ⟨P, 0, none⟩)) ∧ Fp w ok size P R L bit add z es pz px

/-- recordOnLink's loop, k parts seen. -/
structure Rm (w0 w : World) (own : Nat → Option Nat) (lnk : Nat → Nat) (MB HB n k size fr : Nat) (bit : Nat → Nat → Bool) (z : Nat → Bool) (es : Nat → Es) (pz : Bool) (px : List Int) : Prop where
  stab : Stab w0 w (fun b => own b = none)
  done : ∀ i, i < k → FpAt w (fun b => b < w.heap.size ∧ (own b = some i ∨ own b = none)) MB HB i size (bit i) (fun j => decide (j = fr) && bit i fr) (z i) (es i) pz px
  left : ∀ i, k ≤ i → i < n → PtAt w own lnk MB HB i size (bit i) (z i) (es i)

theorem PtAt.mono {w w' : World} {own : Nat → Option Nat} {lnk : Nat → Nat} {MB HB i k size : Nat} {bit : Nat → Bool} {z : Bool} {es : Es} (h : PtAt w own lnk MB HB i size bit z es) (hst : Stab w w' (fun b => own b ≠ some k)) (hik : i ≠ k) (hM : own MB = none) (hH : own HB = none) : PtAt w' own lnk MB HB i size bit z es := by
  obtain ⟨P, R, L, h1, h2, h3⟩ := h
  refine ⟨P, R, L, (World.cell?_of_block (a := ⟨MB, i, none⟩) (hst.block _ (World.block_lt_of_cell? w _ h1) (by simp [hM]))).trans h1, (World.cell?_of_block (a := ⟨HB, i, none⟩) (hst.block _ (World.block_lt_of_cell? w _ h2) (by simp [hH]))).trans h2, h3.mono hst.size (fun b h4 h5 => hst.block b h4 (by rw [h5]; simpa using hik))⟩

theorem FpAt.mono {w w' : World} {ok ok' : Nat → Prop} {MB HB i size : Nat} {bit add : Nat → Bool} {z : Bool} {es : Es} {pz : Bool} {px : List Int} (h : FpAt w ok MB HB i size bit add z es pz px) (hb : ∀ k, ok k → w'.heap[k]? = w.heap[k]?) (hk : ∀ k, ok k → ok' k) (hM : w'.heap[MB]? = w.heap[MB]?) (hH : w'.heap[HB]? = w.heap[HB]?) : FpAt w' ok' MB HB i size bit add z es pz px := by
  obtain ⟨P, R, L, h1, h2, h3⟩ := h
  exact ⟨P, R, L, (World.cell?_of_block (a := ⟨MB, i, none⟩) hM).trans h1, (World.cell?_of_block (a := ⟨HB, i, none⟩) hH).trans h2, h3.mono hb hk⟩

theorem Rm.step {w0 w w2 : World} {own : Nat → Option Nat} {lnk : Nat → Nat} {MB HB n k size fr : Nat} {bit : Nat → Nat → Bool} {z : Nat → Bool} {es : Nat → Es} {pz : Bool} {px : List Int} (h : Rm w0 w own lnk MB HB n k size fr bit z es pz px)
    (hst : Stab w w2 (fun b => own b ≠ some k)) (hM : own MB = none) (hH : own HB = none) (hMl : MB < w.heap.size) (hHl : HB < w.heap.size)
    (hfp : FpAt w2 (fun b => b < w2.heap.size ∧ (own b = some k ∨ own b = none)) MB HB k size (bit k) (fun j => decide (j = fr) && bit k fr) (z k) (es k) pz px) :
    Rm w0 w2 own lnk MB HB n (k + 1) size fr bit z es pz px := by
  have hs := hst.size
  refine ⟨h.stab.trans (hst.weak (fun b hb => by rw [hb]; simp)), fun i hi => ?_, fun i h1 h2 => (h.left i (by omega) h2).mono hst (by omega) hM hH⟩
  by_cases e : i = k
  · subst e; exact hfp
  · refine (h.done i (by omega)).mono (fun b hb => hst.block b hb.1 ?_) (fun b hb => ⟨by omega, hb.2⟩) (hst.block MB hMl (by simp [hM])) (hst.block HB hHl (by simp [hH]))
    rcases hb.2 with hb | hb <;> rw [hb] <;> simp [e]

theorem stab_alloc (w : World) (o : Obj) (keep : Nat → Prop) : Stab w (w.alloc o) keep := ⟨rfl, rfl, rfl, by simp, fun k hk _ => Below.heap_alloc _ _ _ hk⟩

set_option maxRecDepth 1000000 in
set_option maxHeartbeats 4000000 in
theorem record (w : World) (own : Nat → Option Nat) (lnk : Nat → Nat) (MB HB G n size fr : Nat) (bit : Nat → Nat → Bool) (z : Nat → Bool) (es : Nat → Es) (pz : Bool) (px : List Int) (U : Int) (pa : Option Addr) (pl pc : Nat) (okp : Nat → Prop) (s : ByteArray)
    (hG : w.cell? ⟨G, 58, none⟩ = some (.slice (some ⟨HB, 0, none⟩) n n)) (hU : w.cell? ⟨G, 59, none⟩ = some (.int .i64 U)) (hN : ∀ b, w.heap.size ≤ b → own b = none) (hoG : own G = none) (hM : own MB = none) (hH : own HB = none)
    (hMl : MB < w.heap.size) (hHl : HB < w.heap.size) (hfr : fr < size) (hsz : size ≤ 8) (hn : n ≤ 140737488355328)
    (hpt : ∀ i, i < n → PtAt w own lnk MB HB i size (bit i) (z i) (es i)) (hes : ∀ i, i < n → (es i).length * 24 ≤ 140737488351232)
    (hp : Bs w okp (.slice pa pl pc) pz px) (hokp : ∀ b, okp b → own b = none ∧ b < w.heap.size) :
    Calls Yba.prog 7 #[.pointer (some ⟨G, 0, none⟩), .agg #[.int .u8 0, .string s, .int .i64 fr, .int .u64 0, .slice none 0 0, .slice none 0 0, .slice none 0 0, .int .u64 0, .int .i64 0, .pointer none, .int .u64 0, .bool false, .bool false, .bool false, .slice pa pl pc]] w
      fun e w' => e = .returned (.tuple #[]) ∧ Stab w w' (fun b => own b = none) ∧ ∀ i, i < n → FpAt w' (fun b => b < w'.heap.size ∧ (own b = some i ∨ own b = none)) MB HB i size (bit i) (fun j => decide (U ≠ 0) && (decide (j = fr) && bit i fr)) (z i) (es i) pz px := by
  have hGl : G < w.heap.size := World.block_lt_of_cell? w _ hG
  have hS1 := stab_alloc w (.cells #[.int .u8 0, .string s, .int .i64 fr, .int .u64 0, .slice none 0 0, .slice none 0 0, .slice none 0 0, .int .u64 0, .int .i64 0, .pointer none, .int .u64 0, .bool false, .bool false, .bool false, .slice pa pl pc] 102) (fun _ => True)
  have hnew := heap_alloc_new w (.cells #[.int .u8 0, .string s, .int .i64 fr, .int .u64 0, .slice none 0 0, .slice none 0 0, .slice none 0 0, .int .u64 0, .int .i64 0, .pointer none, .int .u64 0, .bool false, .bool false, .bool false, .slice pa pl pc] 102)
  by_cases hU0 : U = 0
  · subst hU0
    have H1 : Hid (Stab w _ (fun _ => True) ∧ (∀ i, i < n → PtAt w own lnk MB HB i size (bit i) (z i) (es i)) ∧ own MB = none ∧ own HB = none ∧ 0 < size) := ⟨hS1, hpt, hM, hH, by omega⟩
    clear hS1 hpt hnew hN hp hokp hes
    go_enter Yba.func7, Yba.ntmps7
    go_wp2
    refine bodyPost_ret (results_none rfl _ _ _) rfl ?_
    obtain ⟨hS1, hpt, hM, hH, hs0⟩ := H1.out
    refine ⟨rfl, hS1.weak (fun _ _ => trivial), fun i hi => ?_⟩
    obtain ⟨P, R, L, h1, h2, h3⟩ := (hpt i hi).mono (k := i + 1) (hS1.weak (fun _ _ => trivial)) (by omega) hM hH
    exact ⟨P, R, L, h1, h2, Fp_of_Pt h3 hs0 (fun _ _ => rfl)⟩
  · have hUb : (U == 0) = false := by simpa using hU0
    obtain ⟨i0, hi0, hz0, hz1, hz2⟩ := info_parts info22
    have HN : Hid (n ≤ 140737488355328) := hn
    have hadd : (fun (i j : Nat) => decide (U ≠ 0) && (decide (j = fr) && bit i fr)) = (fun (i j : Nat) => (decide (j = fr) && bit i fr)) := by funext i j; simp [hU0]
    have hpost : ∀ (w' : World) (i : Nat), FpAt w' (fun b => b < w'.heap.size ∧ (own b = some i ∨ own b = none)) MB HB i size (bit i) (fun j => (decide (j = fr) && bit i fr)) (z i) (es i) pz px → FpAt w' (fun b => b < w'.heap.size ∧ (own b = some i ∨ own b = none)) MB HB i size (bit i) (fun j => decide (U ≠ 0) && (decide (j = fr) && bit i fr)) (z i) (es i) pz px := fun w' i h => by
      have := congrFun hadd i
      rw [show (fun j => decide (U ≠ 0) && (decide (j = fr) && bit i fr)) = (fun (j : Nat) => (decide (j = fr) && bit i fr)) from this]; exact h
    have HP : Hid (∀ (w' : World) (i : Nat), FpAt w' (fun b => b < w'.heap.size ∧ (own b = some i ∨ own b = none)) MB HB i size (bit i) (fun j => (decide (j = fr) && bit i fr)) (z i) (es i) pz px → FpAt w' (fun b => b < w'.heap.size ∧ (own b = some i ∨ own b = none)) MB HB i size (bit i) (fun j => decide (U ≠ 0) && (decide (j = fr) && bit i fr)) (z i) (es i) pz px) := hpost
    have hR0 : Rm _ _ own lnk MB HB n 0 size fr bit z es pz px := ⟨Stab.refl _ _, fun i hi => by omega, fun i _ hi => (hpt i hi).mono (k := i + 1) (hS1.weak (fun _ _ => trivial)) (by omega) hM hH⟩
    have HR0 : Hid (Rm (w.alloc (.cells #[.int .u8 0, .string s, .int .i64 fr, .int .u64 0, .slice none 0 0, .slice none 0 0, .slice none 0 0, .int .u64 0, .int .i64 0, .pointer none, .int .u64 0, .bool false, .bool false, .bool false, .slice pa pl pc] 102)) _ own lnk MB HB n 0 size fr bit z es pz px) := hR0
    have e58 := (World.cell?_of_block (a := ⟨G, 58, none⟩) (hS1.block G hGl trivial)).trans hG
    have e2 : (w.alloc (.cells #[.int .u8 0, .string s, .int .i64 fr, .int .u64 0, .slice none 0 0, .slice none 0 0, .slice none 0 0, .int .u64 0, .int .i64 0, .pointer none, .int .u64 0, .bool false, .bool false, .bool false, .slice pa pl pc] 102)).cell? ⟨w.heap.size, 14, none⟩ = some (.slice pa pl pc) := by rw [cell_block hnew]; rfl
    have HE : Hid ((w.alloc (.cells #[.int .u8 0, .string s, .int .i64 fr, .int .u64 0, .slice none 0 0, .slice none 0 0, .slice none 0 0, .int .u64 0, .int .i64 0, .pointer none, .int .u64 0, .bool false, .bool false, .bool false, .slice pa pl pc] 102)).cell? ⟨w.heap.size, 14, none⟩ = some (.slice pa pl pc) ∧ Stab w (w.alloc (.cells #[.int .u8 0, .string s, .int .i64 fr, .int .u64 0, .slice none 0 0, .slice none 0 0, .slice none 0 0, .int .u64 0, .int .i64 0, .pointer none, .int .u64 0, .bool false, .bool false, .bool false, .slice pa pl pc] 102)) (fun _ => True)) := ⟨e2, hS1⟩
    clear hadd hpost hR0 e58 e2 hnew hS1 hpt hn
    go_enter Yba.func7, Yba.ntmps7
    go_wp2
    generalize hw1 : w.alloc _ = w1 at HR0 HE ⊢
    go_loopg [21] n (fun g i wr => ∃ k : Nat, k + g = n ∧ i = .int .i64 k ∧ Rm w1 wr own lnk MB HB n k size fr bit z es pz px)
    case atStart => exact ⟨0, by omega, rfl, HR0.out⟩
    case round =>
      obtain ⟨k, hk, rfl, hm⟩ := hrel
      by_cases hlt : k < n
      · obtain ⟨P, R, L, c1, c2, hP⟩ := hm.left k (Nat.le_refl _) hlt
        obtain ⟨v, lo, hi, c6, hLk, hlh, hhi, hint⟩ := hP.links fr hfr
        have c3 := hP.p3
        have c4 := hP.p4
        have c5 := hP.rc fr hfr
        have hklt : (k : Int) < (n : Int) := by omega
        have hk0 : (0 : Int) ≤ (k : Int) := by omega
        have hflt : (fr : Int) < (size : Int) := by omega
        have hf0 : (0 : Int) ≤ (fr : Int) := by omega
        have hMw : MB < wr.heap.size := World.block_lt_of_cell? wr _ c1
        have hHw : HB < wr.heap.size := World.block_lt_of_cell? wr _ c2
        have HS : Hid (∀ w2 : World, Stab wr w2 (fun b => own b ≠ some k) → FpAt w2 (fun b => b < w2.heap.size ∧ (own b = some k ∨ own b = none)) MB HB k size (bit k) (fun j => decide (j = fr) && bit k fr) (z k) (es k) pz px → Rm w1 w2 own lnk MB HB n (k + 1) size fr bit z es pz px) := fun w2 h1 h2 => hm.step h1 hM hH hMw hHw h2
        have HP2 : Hid (Pt wr own lnk k size P R L (bit k) (z k) (es k)) := hP
        cases hbit : bit k fr with
        | false =>
          rw [hbit] at c5
          have HB2 : Hid (bit k fr = false ∧ wr.cell? ⟨MB, k, none⟩ = some (.pointer (some ⟨P, 0, none⟩)) ∧ 0 < size) := ⟨hbit, c1, by omega⟩
          clear hP hLk hint hm hbit c1 c3 c6
          go_wp2
          go_roundg (gk - 1)
          case measure => omega
          case rel =>
            refine ⟨k + 1, by omega, wrap_succ (by have := HN.out; omega), HS.out wr (Stab.refl _ _) ⟨P, R, L, HB2.out.2.1, c2, Fp_of_Pt HP2.out HB2.out.2.2 (fun j _ => by rw [HB2.out.1]; simp)⟩⟩
        | true =>
          rw [hbit] at c5
          have hfz : wr.frozen? ⟨L, fr, none⟩ = false := by
            obtain ⟨arr, hL, _⟩ := hP.lrow
            simp [World.frozen?, hL]
          have c7 : wr.cell? ⟨w.heap.size, 14, none⟩ = some (.slice pa pl pc) := (World.cell?_of_block (a := ⟨w.heap.size, 14, none⟩) (hm.stab.block _ (World.block_lt_of_cell? w1 _ HE.out.1) (hN _ (Nat.le_refl _)))).trans HE.out.1
          have nP := World.new_ne wr ⟨P, 3, none⟩ c3
          have nL := World.new_ne wr ⟨L, fr, none⟩ c6
          have nM := World.new_ne wr ⟨w.heap.size, 14, none⟩ c7
          have hPw : P < wr.heap.size := World.block_lt_of_cell? wr _ c3
          have hLw : L < wr.heap.size := World.block_lt_of_cell? wr _ c6
          have hGw : w.heap.size < wr.heap.size := World.block_lt_of_cell? wr _ c7
          obtain ⟨us, hown, hzv, hvb, hel⟩ := hLk
          have hblk : ∀ k, v.ownBlock = some k → lo ≤ k ∧ k < hi := fun k hk => ⟨(hown.lt k hk).1, hvb k hk⟩
          have vP : some P ≠ v.ownBlock := fun e => (hint P (hblk P e.symm).1 (hblk P e.symm).2).2.2.1 rfl
          have vL : some L ≠ v.ownBlock := fun e => (hint L (hblk L e.symm).1 (hblk L e.symm).2).2.2.2.2 rfl
          have vG : some w.heap.size ≠ v.ownBlock := fun e => by
            have e1 := (hint _ (hblk _ e.symm).1 (hblk _ e.symm).2).1
            rw [hN _ (Nat.le_refl _)] at e1; cases e1
          have hb24 : ((es k).length + 1) * 24 ≤ 140737488355328 := by have := hes k hlt; omega
          have h63 : (es k).length + 1 ≤ maxLen := by unfold maxLen; omega
          have HO : Hid ((wr.alloc (.cells #[.slice pa pl pc] 22)).drew.ownsRow lo 22 1 v (es k).length us) := hown.alloc _
          have HW : Hid (∀ j u, [Value.slice pa pl pc][j]? = some u → (wr.alloc (.cells #[.slice pa pl pc] 22)).drew.cell? ((⟨wr.heap.size, 0, none⟩ : Addr).add j) = some u) := World.news_of_block (w := (wr.alloc (.cells #[.slice pa pl pc] 22)).drew) (cs := #[.slice pa pl pc]) (t := 22) (fr := (0, 0)) (heap_alloc_new wr _)
          have HF : Hid (∀ (g cap : Nat) (w9 : World), w9.ownsRow lo 22 1 (.slice (some ⟨g, 0, none⟩) ((es k).length + 1) cap) ((es k).length + 1) (us ++ [.slice pa pl pc]) → (wr.alloc (.cells #[.slice pa pl pc] 22)).drew.grownBy w9 v.ownBlock → (v.ownBlock = some g ∨ g = wr.heap.size + 1) → g < w9.heap.size →
              w9.cell? ⟨P, 3, none⟩ = some (.slice (some ⟨L, 0, none⟩) size size) ∧ w9.cell? ⟨L, fr, none⟩ = some v ∧ w9.cell? ⟨w.heap.size, 14, none⟩ = some (.slice pa pl pc) ∧ w9.frozen? ⟨L, fr, none⟩ = false ∧
              (w9.setCell ⟨L, fr, none⟩ (.slice (some ⟨g, 0, none⟩) ((es k).length + 1) cap)).cell? ⟨P, 3, none⟩ = some (.slice (some ⟨L, 0, none⟩) size size) ∧
              (w9.setCell ⟨L, fr, none⟩ (.slice (some ⟨g, 0, none⟩) ((es k).length + 1) cap)).cell? ⟨w.heap.size, 14, none⟩ = some (.slice pa pl pc) ∧
              Rm w1 (w9.setCell ⟨L, fr, none⟩ (.slice (some ⟨g, 0, none⟩) ((es k).length + 1) cap)) own lnk MB HB n (k + 1) size fr bit z es pz px) := by
            intro g cap w9 hown9 hgrow hat hlt9
            have hwr : w.heap.size ≤ wr.heap.size := Nat.le_of_lt hGw
            have hGL : w.heap.size ≠ L := fun e => by have e1 := hP.oL; rw [← e, hN _ (Nat.le_refl _)] at e1; cases e1
            have hpw : Bs wr okp (.slice pa pl pc) pz px := hp.mono (fun b hb => (hm.stab.block b (Nat.lt_of_lt_of_le (hokp b hb).2 HE.out.2.size) (hokp b hb).1).trans (HE.out.2.block b (hokp b hb).2 trivial)) (fun _ h => h)
            have hokp' : ∀ b, okp b → own b = none ∧ b < wr.heap.size := fun b hb => ⟨(hokp b hb).1, Nat.lt_of_lt_of_le (hokp b hb).2 hwr⟩
            have hBs : Stab wr (wr.alloc (.cells #[.slice pa pl pc] 22)).drew (fun _ => True) := ⟨rfl, rfl, rfl, by simp, fun k hk _ => Below.heap_alloc _ _ _ hk⟩
            obtain ⟨hfp, hst⟩ := hP.added hfr hN hwr hown hblk hel hhi hint hBs hgrow hown9 (orMap hat id (fun h => by omega)) hlt9 hpw hokp'
            have a1 : w9.cell? ⟨P, 3, none⟩ = some (.slice (some ⟨L, 0, none⟩) size size) := (hgrow.cell_far _ (by simp; omega) vP).trans (by simpa using (World.cell?_alloc_lt _ _ _ hPw).trans c3)
            have a2 : w9.cell? ⟨L, fr, none⟩ = some v := (hgrow.cell_far _ (by simp; omega) vL).trans (by simpa using (World.cell?_alloc_lt _ _ _ hLw).trans c6)
            have a3 : w9.cell? ⟨w.heap.size, 14, none⟩ = some (.slice pa pl pc) := (hgrow.cell_far _ (by simp; omega) vG).trans (by simpa using (World.cell?_alloc_lt _ _ _ hGw).trans c7)
            have a4 : w9.frozen? ⟨L, fr, none⟩ = false := (hgrow.frozen_far _ (by simp; omega) vL).trans (by simp only [World.frozen?_drew]; rw [World.frozen?_alloc_old _ _ _ (by show L ≠ _; omega)]; exact hfz)
            refine ⟨a1, a2, a3, a4, ?_, ?_, hm.step hst hM hH hMw hHw ⟨P, R, L, ?_, ?_, ?_⟩⟩
            · rw [World.cell?_setCell_other _ _ _ _ (by intro e; cases e; exact hP.hPL rfl)]; exact a1
            · rw [World.cell?_setCell_other _ _ _ _ (by intro e; injection e with e1 e2; exact hGL e1.symm)]; exact a3
            · exact (World.cell?_of_block (a := ⟨MB, k, none⟩) (hst.block MB hMw (by simp [hM]))).trans c1
            · exact (World.cell?_of_block (a := ⟨HB, k, none⟩) (hst.block HB hHw (by simp [hH]))).trans c2
            · have e1 : (fun j => decide (j = fr) && bit k fr) = (fun j : Nat => decide (j = fr)) := by funext j; simp [hbit]
              rw [e1]
              exact hfp.mono (fun _ _ => rfl) (fun b hb => ⟨by simp [World.setCell]; exact hb.1, hb.2⟩)
          clear hP hint hm hbit c1 hel hzv hvb hown hblk
          go_upto_region 7 with fail
          have ka : ∀ o, (wr.alloc o).cell? ⟨P, 3, none⟩ = some (.slice (some ⟨L, 0, none⟩) size size) := fun o => (World.cell?_alloc_lt _ _ _ hPw).trans c3
          have kb : ∀ o, (wr.alloc o).cell? ⟨L, fr, none⟩ = some v := fun o => (World.cell?_alloc_lt _ _ _ hLw).trans c6
          have kc : ∀ o, (wr.alloc o).cell? ⟨w.heap.size, 14, none⟩ = some (.slice pa pl pc) := fun o => (World.cell?_alloc_lt _ _ _ hGw).trans c7
          go_region_law ((refine step_append_lies _ (by rfl) _ _ 25 (by rfl) lo 22 i0 (.slice none 0 0) 1 24 Yba.underlying25 hi0 hz0 hz1 hz2 rfl (by omega) v (es k).length us (by simp [Act.eval]) HO.out ⟨wr.heap.size, 0, none⟩ 1 1 [.slice pa pl pc] (by simp [Act.eval]) (by rfl) HW.out (by simp [Value.oneCell']) (by omega) h63 hb24 (by simp; omega) (wr.heap.size + 1) (by simp) ?_; intro g cap w9 hown9 hgrow hat hlt9; obtain ⟨k1, k2, k3, k4, k6, k7, k5⟩ := HF.out g cap w9 hown9 hgrow hat hlt9))
          all_goals go_wp2
          all_goals go_roundg (gk - 1)
          all_goals first
            | omega
            | exact ⟨k + 1, by omega, wrap_succ (by have := HN.out; omega), k5⟩
      · have : k = n := by omega
        subst this
        go_wp2
        go_end0
        refine ⟨rfl, (HE.out.2.weak (fun _ _ => trivial)).trans hm.stab, fun i hi => HP.out _ _ (hm.done i hi)⟩
end Go.Proofs.Ybulkftys
