import Derived.Test.YbulkfslyCopy
import Derived.LaidEqlPtr
namespace Go.Proofs.Ybulkfsly
open Go.RowKit

/-- The number of the first region of a piece of code. -/
def firstId : Code → Option Nat
  | .region i _ _ => some i
  | .seq a _ => firstId a
  | .block _ b => firstId b
  | .loop b => firstId b
  | .scope b => firstId b
  | _ => none
/-- What is left of a body from the statement on that opens with region 'id'. -/
def tailAt (id : Nat) : Code → Code
  | .seq a b => if firstId a == some id then .seq a b else tailAt id b
  | c => c

theorem run_neq_ptr_same {P : Program} (w : World) {tp te : TypeId} {j : TypeInfo} (a : Addr) (hp : P.underlying tp = some (.pointer te)) (hte : P.info? te = some j) :
    (binOp .neq tp (.pointer (some a)) (.pointer (some a))).run P w = .ok (.bool false) w := by
  have h : ∀ d : Nat, (Op.equalIn (d + 1) tp (.pointer (some a)) (.pointer (some a))).run P w = .ok true w := fun d => by
    simp [Op.equalIn, run_underlying hp, sizeOf, typeInfo, hte, run_sameAddr_same]
  simp only [binOp]
  simp [Op.equal, Op.maxDepth, h 9999]
theorem neq28 (w : World) (a : Addr) : (binOp .neq 28 (.pointer (some a)) (.pointer (some a))).run Yba.prog w = .ok (.bool false) w :=
  run_neq_ptr_same (j := (Yba.prog.info? 32).getD default) w a Yba.underlying28 (by kernel_rfl)
theorem neq54 (w : World) (a : Addr) : (binOp .neq 54 (.pointer (some a)) (.pointer (some a))).run Yba.prog w = .ok (.bool false) w :=
  run_neq_ptr_same (j := (Yba.prog.info? 27).getD default) w a Yba.underlying54 (by kernel_rfl)

/-- The state behind NewRule: the links, their copy, the scenario, the rule. -/
structure St (w : World) (sa : Option Addr) (SB BB G len : Nat) (fF fT : Nat → Int) (fM fU : Nat → Nat) : Prop where
  sl : C4 w SB 0 len fF fT fM fU
  bef : C4 w BB 0 len fF fT fM fU
  links : w.cell? ⟨G, 1, none⟩ = some (.slice sa len len)
  m : MapIs w (G + 1) SB (msTo (fun j => (fF j, fT j)) len)
  r0 : w.cell? ⟨G + 1 + 1 + 1, 0, none⟩ = some (.pointer (some ⟨G, 0, none⟩))
  r1 : w.cell? ⟨G + 1 + 1 + 1, 1, none⟩ = some (.map (some (G + 1)))
  r2 : w.cell? ⟨G + 1 + 1 + 1, 2, none⟩ = some (.pointer (some ⟨G + 1 + 1, 0, none⟩))
  fr : w.cell? ⟨G + 1 + 1, 3, none⟩ = some (.slice none 0 0)
  hSB : 0 < len → SB < w.heap.size
  hBB : BB < w.heap.size
  hG : G + 1 + 1 + 1 < w.heap.size

theorem St.below {w w' : World} {sa : Option Addr} {SB BB G len : Nat} {fF fT : Nat → Int} {fM fU : Nat → Nat} (h : St w sa SB BB G len fF fT fM fU) (hb : Below w.heap.size w w') : St w' sa SB BB G len fF fT fM fU := by
  have hg := h.hG
  refine ⟨?_, h.bef.below hb h.hBB, (hb.cell (by show G < _; omega)).trans h.links, ?_, (hb.cell hg).trans h.r0, (hb.cell hg).trans h.r1, (hb.cell hg).trans h.r2, (hb.cell (by show G + 1 + 1 < _; omega)).trans h.fr, fun hl => Nat.lt_of_lt_of_le (h.hSB hl) hb.size, Nat.lt_of_lt_of_le h.hBB hb.size, Nat.lt_of_lt_of_le hg hb.size⟩
  · intro j hj
    exact h.sl.below hb (h.hSB (by omega)) j hj
  · obtain ⟨es, clock, h1, h2⟩ := h.m
    exact ⟨es, clock, (hb.block _ (by omega)).trans h1, h2⟩

theorem St_start {wc w2 w3 : World} {sa : Option Addr} {SB len : Nat} {fF fT : Nat → Int} {fM fU : Nat → Nat} (hsa : 0 < len → sa = some ⟨SB, 0, none⟩ ∧ SB < wc.heap.size) (hc4 : C4 wc SB 0 len fF fT fM fU)
    (hc4b : C4 w2 wc.heap.size 0 len fF fT fM fU) (hbel2 : Below wc.heap.size wc w2) (hsz : w2.heap.size = wc.heap.size + 1)
    (hnr : NR (w2.alloc (.cells #[.slice none 0 0, .slice sa len len, .slice none 0 0] 32)) w3 SB w2.heap.size (msTo (fun j => (fF j, fT j)) len)) :
    St w3 sa SB wc.heap.size w2.heap.size len fF fT fM fU := by
  have hW : (w2.alloc (.cells #[.slice none 0 0, .slice sa len len, .slice none 0 0] 32)).heap.size = w2.heap.size + 1 := by simp
  have hb1 : Below w2.heap.size w2 (w2.alloc (.cells #[.slice none 0 0, .slice sa len len, .slice none 0 0] 32)) := (Below.refl _ _).alloc (Nat.le_refl _) _
  have hb3 := hnr.below
  rw [hW] at hb3
  have hb23 : Below w2.heap.size w2 w3 := hb1.trans (hb3.mono (by omega))
  have hbc3 : Below wc.heap.size wc w3 := hbel2.trans (hb23.mono (by omega))
  have hs3 := hnr.size
  rw [hW] at hs3
  have hm := hnr.map
  have hf := hnr.from_
  have hr := hnr.rule
  rw [hW] at hm hf hr
  refine ⟨?_, hc4b.below hb23 (by omega), ?_, hm, ?_, ?_, ?_, ?_, ?_, by omega, by omega⟩
  · intro j hj
    exact hc4.below hbc3 (hsa (by omega)).2 j hj
  · rw [hb3.cell (by show w2.heap.size < _; omega)]; simp
  · rw [cell_block hr]; rfl
  · rw [cell_block hr]; rfl
  · rw [cell_block hr]; rfl
  · rw [cell_block hf]; rfl
  · intro hl; have := (hsa hl).2; omega

theorem below_all {w wr w' : World} (h : Below w.heap.size w wr) (k : Below wr.heap.size wr w') : Below w.heap.size w w' := h.trans (k.mono h.size)
end Go.Proofs.Ybulkfsly
