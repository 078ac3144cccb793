import Derived.Test.YbulkfslyFmtClone
import Derived.LaidEql
import Derived.Stop.Asserts
import Derived.RowKitTokens
import Derived.Stop.CallBack
import Derived.Stop.IfaceNil
import Derived.Stop.FmtLaws
namespace Go.Proofs.YbulkfslyFmt
open Go.RowKit Go.Extern.Stop Go.Stop Go.Extern
set_option linter.unusedVariables false
set_option linter.unusedSimpArgs false
theorem isTypeOf (v : Value) (w : World) : (callFunc 12 #[.iface 66 v]).run Ybaf.prog w = .ok (.value (.iface 53 (.agg #[.pointer (some ⟨2, 66, none⟩)]))) w := by kernel_rfl
theorem isComparable (w : World) : (callFunc 36 #[.agg #[.pointer (some ⟨2, 66, none⟩)]]).run Ybaf.prog w = .ok (.value (.bool true)) w := by kernel_rfl
theorem isMethodComparable (v : Value) (w : World) : (Go.method 207 53 v "Comparable").run Ybaf.prog w = .ok (36, v) w := by kernel_rfl
theorem methodUnwrap (v : Value) (w : World) : (Go.method 207 65 v "Unwrap").run Ybaf.prog w = .ok (46, v) w := by kernel_rfl
theorem isComp : (Ybaf.prog.info? 66).map (·.comparable) = some true := by kernel_rfl
theorem isSize : (Ybaf.prog.info? 68).map (·.size) = some 1 := by kernel_rfl
theorem noIsW (v : Value) (xT : TypeId) (w : World) : (Instr.typeAssert (.iface 65 v) xT 55 true).run Ybaf.prog w = .ok (.tuple #[.nilIface, .bool false]) w := run_typeAssert_lacksB Ybaf.underlying55 (by kernel_rfl) (by kernel_rfl) v xT w
theorem hasUnwrapW (v : Value) (xT : TypeId) (w : World) : (Instr.typeAssert (.iface 65 v) xT 58 true).run Ybaf.prog w = .ok (.tuple #[.iface 65 v, .bool true]) w := run_typeAssert_hasB Ybaf.underlying58 (by kernel_rfl) v xT w
set_option maxRecDepth 100000 in
theorem is_wrap_same (pb po : Nat) (b : Addr) (w : World) (h1 : w.cell? ⟨pb, po + 1, none⟩ = some (.iface 66 (.pointer (some b)))) :
    Calls Ybaf.prog 7 #[.iface 65 (.pointer (some ⟨pb, po, none⟩)), .iface 66 (.pointer (some b))] w fun e w' => e = .returned (.bool true) ∧ w' = w := by
  obtain ⟨i, hi, hcmp⟩ := Option.map_eq_some_iff.1 isComp
  obtain ⟨j, hj, hjs⟩ := Option.map_eq_some_iff.1 isSize
  have tT := isTypeOf
  have cT := isComparable
  have mR := isMethodComparable
  have mU := methodUnwrap
  have nW := noIsW
  have uW := hasUnwrapW
  have heq := run_eql_iface_ptr_same (P := Ybaf.prog) w b Ybaf.underlying36 Ybaf.underlying66 hi hcmp hj
  have hty := run_eql_iface_types (P := Ybaf.prog) 65 66 (.pointer (some ⟨pb, po, none⟩)) (.pointer (some b)) Ybaf.underlying36 (by decide) w
  go_enter Ybaf.func7, Ybaf.ntmps7
  go_wp2
  refine wp_loop_rounds 2 ?_
  rw [rounds_succ]
  go_wp2
  rw [rounds_succ]
  go_wp2
  go_ret
  exact ⟨rfl, rfl⟩

def okv {α : Type} (d : α) : Result α → α
  | .ok r _ => r
  | .halt _ _ => d
theorem call16 (args : Array Value) (w : World) : (callFunc 16 args).run Ybaf.prog w = ((FmtStop.errorf #[9, 63] #[36] args).run Ybaf.prog w).andThen fun v w' => .ok (.value v) w' :=
  run_callFunc_extern Ybaf.func16 (by kernel_rfl) (by kernel_rfl) (by kernel_rfl) (by kernel_rfl) args w
theorem guardE (w : World) : (FmtStop.guard "fmt.errorf").run Ybaf.prog w = .ok () w := by kernel_rfl
theorem fmtE0 (w : World) : (FmtDoors.printed ⟨#[37, 119, 32, 40, 37, 100, 41]⟩ 2).run Ybaf.prog w = .ok [(0, 119, false), (1, 100, false)] w := by kernel_rfl
theorem opI (x : Int) (w : World) : (FmtStop.operand "fmt.errorf" true 100 false (.iface 2 (.int .i64 x))).run Ybaf.prog w = .ok (okv ([], []) ((FmtStop.operand "fmt.errorf" true 100 false (.iface 2 (.int .i64 x))).run Ybaf.prog w)) w := by kernel_rfl
theorem opE (a : Addr) (s : ByteArray) (w : World) (hc : w.cell? a = some (.string s)) : ∃ r, (FmtStop.operand "fmt.errorf" true 119 false (.iface 66 (.pointer (some a)))).run Ybaf.prog w = .ok r w := by
  have h1 : (typeStr 66).run Ybaf.prog w = .ok ((Ybaf.prog.info? 66).map (·.str) |>.getD default) w := by kernel_rfl
  have d2 : Ybaf.t66.desc = .pointer 68 := rfl
  have d3 : Ybaf.t68.desc = .named "errors.errorString" 67 := rfl
  generalize ((Ybaf.prog.info? 66).map (·.str) |>.getD default) = z at h1
  refine ⟨(14 :: FmtStop.pack z.toUTF8.data.toList, s.data.toList), ?_⟩
  simp [FmtStop.operand, h1, d2, d3, run_load, hc]
theorem ptr65 (w : World) : (FmtStop.ptrTo "fmt.wrapError").run Ybaf.prog w = .ok 65 w := by kernel_rfl
theorem elem65 (w : World) : (elemOf 65).run Ybaf.prog w = .ok 94 w := by kernel_rfl
theorem isError66 (w : World) : (FmtDoors.textMethod 66 "Error").run Ybaf.prog w = .ok true w := by kernel_rfl

theorem errorf_run (f : ByteArray) (hf : ∀ w, (FmtDoors.printed f 2).run Ybaf.prog w = .ok [(0, 119, false), (1, 100, false)] w) (N : Nat) (a : Addr) (s : ByteArray) (x : Int) (w : World)
    (h0 : w.cell? ⟨N, 0, none⟩ = some (.iface 66 (.pointer (some a)))) (h1 : w.cell? ⟨N, 1, none⟩ = some (.iface 2 (.int .i64 x))) (hs : w.cell? a = some (.string s)) :
    ∃ t, (callFunc 16 #[.string f, .slice (some ⟨N, 0, none⟩) 2 2]).run Ybaf.prog w = .ok (.value (.iface 65 (.pointer (some ⟨w.heap.size, 0, none⟩)))) (w.alloc (.cells #[.string t, .iface 66 (.pointer (some a))] 94)).drew := by
  obtain ⟨r, hr⟩ := opE a s w hs
  have hi := opI x w
  generalize okv ([], []) ((FmtStop.operand "fmt.errorf" true 100 false (.iface 2 (.int .i64 x))).run Ybaf.prog w) = q at hi
  have hcells : (FmtStop.cells (.slice (some ⟨N, 0, none⟩) 2 2)).run Ybaf.prog w = .ok [.iface 66 (.pointer (some a)), .iface 2 (.int .i64 x)] w := by
    simp [FmtStop.cells, loadCells, loadCellsFrom, Addr.add, run_load, h0, h1]
  have ht : ∀ os, ∃ t, (FmtStop.text "fmt.errorf" [f.data.toList] os).run Ybaf.prog w = .ok (.string t) w.drew := by
    intro os
    simp [FmtStop.text, go_sem]
  have hra : (FmtStop.readAll "fmt.errorf" true [.iface 66 (.pointer (some a)), .iface 2 (.int .i64 x)] [(0, 119, false), (1, 100, false)]).run Ybaf.prog w = .ok [r, q] w := by
    simp [FmtStop.readAll, hr, hi]
  obtain ⟨t, ht⟩ := ht [r, q]
  refine ⟨t, ?_⟩
  have hm := isError66 w.drew
  have h65 := ptr65 w.drew
  have h94 := elem65 w.drew
  rw [call16, FmtStop.errorf_lit]
  simp [guardE, hcells, hf, hra, ht, hm, h65, h94, newVar]
  simp [newRow, run_newObj_alloc, Value.cells]
  rfl

theorem underl63 : Ybaf.prog.info? 63 = some Ybaf.t63 := by kernel_rfl
def fmt1 : ByteArray := ⟨#[37, 119, 32, 40, 37, 100, 41, 44, 32, 99, 111, 117, 110, 116, 105, 110, 103, 32, 119, 104, 97, 116, 32, 116, 104, 101, 32, 115, 101, 97, 114, 99, 104, 32, 111, 102, 32, 116, 104, 101, 32, 114, 111, 117, 110, 100, 115, 32, 104, 111, 108, 100, 115, 32, 97, 115, 32, 112, 97, 105, 114, 115]⟩
theorem fmtE1 (w : World) : (FmtDoors.printed fmt1 2).run Ybaf.prog w = .ok [(0, 119, false), (1, 100, false)] w := by kernel_rfl

set_option maxRecDepth 100000 in
theorem errorf_call (f : ByteArray) (hf : ∀ w, (FmtDoors.printed f 2).run Ybaf.prog w = .ok [(0, 119, false), (1, 100, false)] w) (N : Nat) (a : Addr) (s : ByteArray) (x : Int) (w : World)
    (h0 : w.cell? ⟨N, 0, none⟩ = some (.iface 66 (.pointer (some a)))) (h1 : w.cell? ⟨N, 1, none⟩ = some (.iface 2 (.int .i64 x))) (hs : w.cell? a = some (.string s)) :
    Calls Ybaf.prog 15 #[.string f, .slice (some ⟨N, 0, none⟩) 2 2] w fun e w' => ∃ t, e = .returned (.iface 65 (.pointer (some ⟨w.heap.size, 0, none⟩))) ∧ w' = (w.alloc (.cells #[.string t, .iface 66 (.pointer (some a))] 94)).drew := by
  obtain ⟨t, hr⟩ := errorf_run f hf N a s x w h0 h1 hs
  go_enter Ybaf.func15, Ybaf.ntmps15
  go_wp2
  go_ret
  exact ⟨t, rfl, rfl⟩

set_option maxRecDepth 100000 in
theorem tooMany (b : Bool) (a : Addr) (s : ByteArray) (x : Int) (w : World)
    (h0 : w.cell? ⟨0, 0, none⟩ = some (.iface 66 (.pointer (some a)))) (hs : w.cell? a = some (.string s)) (ha : a.block < w.heap.size) (h00 : 0 < w.heap.size) :
    Calls Ybaf.prog 10 #[.int .i64 x, .bool b] w fun e w' => ∃ t, e = .returned (.iface 65 (.pointer (some ⟨w.heap.size + 1, 0, none⟩))) ∧ w' = ((w.alloc (.cells #[.iface 66 (.pointer (some a)), .iface 2 (.int .i64 x)] 20)).alloc (.cells #[.string t, .iface 66 (.pointer (some a))] 94)).drew := by
  have c0 : (w.alloc (.cells #[.iface 66 (.pointer (some a)), .iface 2 (.int .i64 x)] 20)).cell? ⟨w.heap.size, 0, none⟩ = some (.iface 66 (.pointer (some a))) := by simp [World.cell?_alloc_new]
  have c1 : (w.alloc (.cells #[.iface 66 (.pointer (some a)), .iface 2 (.int .i64 x)] 20)).cell? ⟨w.heap.size, 1, none⟩ = some (.iface 2 (.int .i64 x)) := by simp [World.cell?_alloc_new]
  have c2 : (w.alloc (.cells #[.iface 66 (.pointer (some a)), .iface 2 (.int .i64 x)] 20)).cell? a = some (.string s) := by rw [World.cell?_alloc_lt _ _ _ ha, hs]
  go_enter Ybaf.func10, Ybaf.ntmps10
  cases b
  · go_wp2_with (go_at_call 15; refine (errorf_call _ fmtE0 w.heap.size a s x _ c0 c1 c2).mono ?_; rintro e w1 ⟨t, rfl, rfl⟩)
    go_ret
    exact ⟨t, by simp, rfl⟩
  · go_wp2_with (go_at_call 15; refine (errorf_call fmt1 fmtE1 w.heap.size a s x _ c0 c1 c2).mono ?_; rintro e w1 ⟨t, rfl, rfl⟩)
    go_ret
    exact ⟨t, by simp, rfl⟩
end Go.Proofs.YbulkfslyFmt
