import Derived.Test.YbulkfsriP19
import Derived.Great.BuildSlice
namespace Go.Proofs.Ybulkfsri
open Go.RowKit

/-- The cells of the Replica that the law lays: all zero but for 'reads'. -/
def repl (wa ha : Option Addr) (len hl : Nat) (ro at_ se le : Int) : Array Value :=
  #[.int .i64 0, .slice none 0 0, .int .i64 0, .int .i64 0, .nilIface, .int .i64 0, .int .i64 0, .nilFunc, .bool false, .bool false, .nilIface, .int .u64 0, .int .i64 0, .int .u64 0, .int .u64 0, .int .i64 0, .int .i64 0, .slice none 0 0, .int .i64 0, .int .i64 0, .int .i64 0, .int .i64 0, .pointer none, .int .u64 0, .map none, .int .i64 0, .int .u64 0, .int .i64 0, .bool false, .slice none 0 0, .int .u64 0, .int .i64 0, .int .i64 0, .slice none 0 0, .map none, .int .u64 0, .int .u8 0, .int .u64 0, .int .i64 0, .int .u64 0, .slice none 0 0, .map none, .map none, .map none, .int .u64 0, .slice none 0 0, .int .i64 0, .int .i64 0, .int .i64 0, .int .u64 0, .int .i64 0, .int .u64 0, .map none,
    .slice wa len len, .int .u64 ro, .slice ha hl hl, .int .i64 at_, .int .i64 se, .int .i64 le,
    .int .i64 0, .slice none 0 0, .slice none 0 0, .slice none 0 0, .int .i64 0, .int .i64 0, .int .i64 0]

theorem built80 (wa ha : Option Addr) (len hl : Nat) (ro at_ se le : Int) :
    Yba.prog.built 80 [(22, .agg #[.slice wa len len, .int .u64 ro, .slice ha hl hl, .int .i64 at_, .int .i64 se, .int .i64 le])] = some (repl wa ha len hl ro at_ se le) := by kernel_rfl

/-- A struct literal, met at the list of operations: by its built cells. -/
theorem wpList_bld {P : Program} {ops : Array Oper} {rest : List Oper} {o : Oper} {a : Act} {w : World} {Q : Exit → Act → World → Prop} (hg : o.guard = none) (t : TypeId) (ps : List (Nat × Operand)) (ho : o.op = .build t ps.toArray)
    (vs : List (Nat × Value)) (cells : Array Value) (hc : P.built t vs = some cells) (hv : ps.map (fun p => (p.1, a.eval p.2)) = vs)
    (h : wpList P ops Q rest (a.put o.dst (.agg cells)) w) : wpList P ops Q (o :: rest) a w := by
  subst hv
  refine wpList_build hg t ps.toArray ho ?_ ?_
  · have e : (ps.toArray.map fun (i, x) => (i, a.eval x)).toList = ps.map (fun p => (p.1, a.eval p.2)) := by simp
    rw [e, hc]; rfl
  · simpa [hc] using h

theorem run80 (wa ha : Option Addr) (len hl : Nat) (ro at_ se le : Int) (w : World) :
    (Instr.build 80 #[(22, .agg #[.slice wa len len, .int .u64 ro, .slice ha hl hl, .int .i64 at_, .int .i64 se, .int .i64 le])]).run Yba.prog w = .ok (.agg (repl wa ha len hl ro at_ se le)) w :=
  run_build _ _ _ _ (built80 wa ha len hl ro at_ se le)

theorem built33 (wa ha : Option Addr) (len hl : Nat) (ro at_ se le : Int) :
    Yba.prog.built 33 [(0, .slice wa len len), (1, .int .u64 ro), (2, .slice ha hl hl), (3, .int .i64 at_), (4, .int .i64 se), (5, .int .i64 le)] = some #[.slice wa len len, .int .u64 ro, .slice ha hl hl, .int .i64 at_, .int .i64 se, .int .i64 le] := by kernel_rfl

theorem run33 (wa ha : Option Addr) (len hl : Nat) (ro at_ se le : Int) (w : World) :
    (Instr.build 33 #[(0, .slice wa len len), (1, .int .u64 ro), (2, .slice ha hl hl), (3, .int .i64 at_), (4, .int .i64 se), (5, .int .i64 le)]).run Yba.prog w = .ok (.agg #[.slice wa len len, .int .u64 ro, .slice ha hl hl, .int .i64 at_, .int .i64 se, .int .i64 le]) w :=
  run_build _ _ _ _ (by kernel_rfl)

theorem repl_size (wa ha : Option Addr) (len hl : Nat) (ro at_ se le : Int) : (repl wa ha len hl ro at_ se le).size = 66 := rfl
end Go.Proofs.Ybulkfsri
