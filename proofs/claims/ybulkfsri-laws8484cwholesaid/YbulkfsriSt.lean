import Derived.Test.YbulkfsriUnslot
namespace Go.Proofs.Ybulkfsri
open Go.RowKit

/-- The number of the first region of a piece of code. -/
def firstId : Code → Option Nat
  | .region i _ _ => some i
  | .seq a _ => firstId a
  | .block _ b => firstId b
  | .loop b => firstId b
  | .scope b => firstId b
  | _ => none
/-- What is left of a body from the statement on that opens with region 'id'. -/
def tailAt (id : Nat) : Code → Code
  | .seq a b => if firstId a == some id then .seq a b else tailAt id b
  | c => c
theorem wp_gen_if {P : Program} {R0 : Code} {t : Operand} {a b c : Code} {Q : Exit → Act → World → Prop} {act : Act} {w : World} (h : ∀ ra rc : Code, (∀ (Q' : Exit → Act → World → Prop) (a' : Act) (w' : World), Code.wp P a Q' a' w' → Code.wp P ra Q' a' w') → (∀ (a' : Act) (w' : World), Code.wp P c Q a' w' → Code.wp P rc Q a' w') → Code.wp P (.seq (.seq R0 (.cond t ra b)) rc) Q act w) : Code.wp P (.seq (.seq R0 (.cond t a b)) c) Q act w := h a c (fun _ _ _ h => h) (fun _ _ h => h)
theorem wp_gen {P : Program} {a b : Code} {Q : Exit → Act → World → Prop} {act : Act} {w : World} (h : ∀ r : Code, (∀ (a' : Act) (w' : World), Code.wp P b Q a' w' → Code.wp P r Q a' w') → Code.wp P (.seq a r) Q act w) : Code.wp P (.seq a b) Q act w := h b (fun _ _ h => h)

theorem run_neq_ptr_same {P : Program} (w : World) {tp te : TypeId} {j : TypeInfo} (a : Addr) (hp : P.underlying tp = some (.pointer te)) (hte : P.info? te = some j) :
    (binOp .neq tp (.pointer (some a)) (.pointer (some a))).run P w = .ok (.bool false) w := by
  have h : ∀ d : Nat, (Op.equalIn (d + 1) tp (.pointer (some a)) (.pointer (some a))).run P w = .ok true w := fun d => by
    simp [Op.equalIn, run_underlying hp, sizeOf, typeInfo, hte, run_sameAddr_same]
  simp only [binOp]
  simp [Op.equal, Op.maxDepth, h 9999]
theorem neq81 (w : World) (a : Addr) : (binOp .neq 81 (.pointer (some a)) (.pointer (some a))).run Yba.prog w = .ok (.bool false) w :=
  run_neq_ptr_same (j := (Yba.prog.info? 29).getD default) w a Yba.underlying81 (by kernel_rfl)

/-- A row of integers. -/
def H1 (w : World) (b off k : Nat) (fH : Nat → Int) : Prop := ∀ j, j < k → w.cell? ⟨b, off + j, none⟩ = some (.int .i64 (fH j))

/-- The state behind unslotReads: what came in, the reads, the nodes heard, the copy of the struct. -/
structure St (w : World) (b off SB len hb hoff HB hl Gg : Nat) (wa ha : Option Addr) (fF fI fS fR fH : Nat → Int) (at_ sent lease : Int) : Prop where
  src : C4 w b off len fF fI fS fR
  row : C4 w SB 0 len fF fI (fun _ => 0) (fun _ => 0)
  hsrc : H1 w hb hoff hl fH
  hrow : H1 w HB 0 hl fH
  g0 : w.cell? ⟨Gg, 0, none⟩ = some (.slice wa len len)
  g1 : w.cell? ⟨Gg, 1, none⟩ = some (.int .u64 0)
  g2 : w.cell? ⟨Gg, 2, none⟩ = some (.slice ha 0 hl)
  g3 : w.cell? ⟨Gg, 3, none⟩ = some (.int .i64 at_)
  g4 : w.cell? ⟨Gg, 4, none⟩ = some (.int .i64 sent)
  g5 : w.cell? ⟨Gg, 5, none⟩ = some (.int .i64 lease)

theorem St.draw {w : World} {b off SB len hb hoff HB hl Gg : Nat} {wa ha : Option Addr} {fF fI fS fR fH : Nat → Int} {at_ sent lease : Int} (h : St w b off SB len hb hoff HB hl Gg wa ha fF fI fS fR fH at_ sent lease) (n : Nat) :
    St (w.drewN n) b off SB len hb hoff HB hl Gg wa ha fF fI fS fR fH at_ sent lease := by
  have e : ∀ a, (w.drewN n).cell? a = w.cell? a := fun a => by simp
  refine ⟨?_, ?_, ?_, ?_, ?_, ?_, ?_, ?_, ?_, ?_⟩
  · intro j hj; simp only [e]; exact h.src j hj
  · intro j hj; simp only [e]; exact h.row j hj
  · intro j hj; simp only [e]; exact h.hsrc j hj
  · intro j hj; simp only [e]; exact h.hrow j hj
  · rw [e]; exact h.g0
  · rw [e]; exact h.g1
  · rw [e]; exact h.g2
  · rw [e]; exact h.g3
  · rw [e]; exact h.g4
  · rw [e]; exact h.g5
end Go.Proofs.Ybulkfsri
