import Derived.Test.YbulkfslyRows
import Derived.WalkKit
import Derived.WalkLawsBesides
import Derived.WalkSpells
import Derived.ChangeKeysEq
namespace Go.Proofs.Ybulkfsly
open Go.RowKit

/-- The key [2]int{a, b} as a value. -/
def keyV (k : Int × Int) : Value := .agg #[.int .i64 k.1, .int .i64 k.2]
/-- &sl[j]. -/
def ptrV (sb : Nat) (j : Nat) : Value := .pointer (some ⟨sb, j * 4, none⟩)

theorem run_equal57 (k l : Int × Int) (w : World) : (Op.equal 57 (keyV k) (keyV l)).run Yba.prog w = .ok (decide (k = l)) w := by
  obtain ⟨a, b⟩ := k
  obtain ⟨c, d⟩ := l
  have hi : Yba.prog.info? 3 = some ((Yba.prog.info? 3).getD default) := by kernel_rfl
  have hc : Yba.prog.cellsOf 3 = 1 := by kernel_rfl
  have e1 : (Op.equal 57 (keyV (a, b)) (keyV (c, d))) = Op.equalIn (9999 + 1) 57 (keyV (a, b)) (keyV (c, d)) := rfl
  have p0 : ∀ x y : Int, (part 3 #[.int .i64 x, .int .i64 y] 0).run Yba.prog w = .ok (.int .i64 x) w := fun x y => by kernel_rfl
  have p1 : ∀ x y : Int, (part 3 #[.int .i64 x, .int .i64 y] 1).run Yba.prog w = .ok (.int .i64 y) w := fun x y => by kernel_rfl
  have q : ∀ x y : Int, (Op.equalIn 9999 3 (.int .i64 x) (.int .i64 y)).run Yba.prog w = .ok (x == y) w := fun x y => run_equalIn_int w 9998 3 .i64 .i64 x y Yba.underlying3
  rw [e1, keyV, keyV, run_equalIn_array w 9999 _ _ Yba.underlying57 hi, hc, show List.range 2 = [0, 1] from rfl]
  simp only [Op.eqItems, Sem.run_bind, p0, q, Result.andThen_ok, Nat.mul_one]
  by_cases h1 : a = c
  · by_cases h2 : b = d
    · subst h1; subst h2; simp [p1, q]
    · simp [h1, h2, p1, q]
  · simp [h1]

theorem run_check57 (e : Bool) (k : Int × Int) (w : World) : (Instr.checkKey e 10000 57 (keyV k)).run Yba.prog w = .ok () w := by
  kernel_rfl

/-- The map as a list of pairs, in the order in which the keys came. -/
def upd : List ((Int × Int) × Nat) → Int × Int → Nat → List ((Int × Int) × Nat)
  | [], k, j => [(k, j)]
  | p :: r, k, j => if p.1 = k then (k, j) :: r else p :: upd r k j
def mget : List ((Int × Int) × Nat) → Int × Int → Option Nat
  | [], _ => none
  | p :: r, k => if p.1 = k then some p.2 else mget r k

def enc (sb : Nat) (p : (Int × Int) × Nat) : Value × Value := (keyV p.1, ptrV sb p.2)

theorem run_findAsking (sb : Nat) (k : Int × Int) (w : World) : ∀ (es : List MapEntry) (ms : List ((Int × Int) × Nat)) (i : Nat), es.map (fun e => (e.key, e.val)) = ms.map (enc sb) →
    ∃ r, (Instr.findAsking 57 (keyV k) es i).run Yba.prog w = .ok r w ∧
      match r with
      | none => mget ms k = none ∧ ∀ j, upd ms k j = ms ++ [(k, j)]
      | some (x, v) => ∃ y, x = i + y ∧ ∃ q, ms[y]? = some (k, q) ∧ v = ptrV sb q ∧ mget ms k = some q ∧ ∀ j, upd ms k j = ms.set y (k, j)
  | [], ms, i, h => by
    cases ms with
    | cons => simp at h
    | nil => exact ⟨none, by simp [Instr.findAsking], rfl, fun j => rfl⟩
  | e :: es, ms, i, h => by
    cases ms with
    | nil => simp at h
    | cons p ms =>
      simp only [List.map_cons, List.cons.injEq, Prod.mk.injEq, enc] at h
      obtain ⟨⟨h1, h2⟩, h3⟩ := h
      simp only [Instr.findAsking, Sem.run_bind, h1, run_equal57, Result.andThen_ok]
      by_cases hk : k = p.1
      · refine ⟨some (i, e.val), by simp [hk], 0, rfl, p.2, ?_, h2, ?_, ?_⟩
        · simp [hk]
        · simp [mget, hk]
        · intro j; simp [upd, hk]
      · obtain ⟨r, hr, hm⟩ := run_findAsking sb k w es ms (i + 1) h3
        have hk' : ¬ p.1 = k := fun e => hk e.symm
        refine ⟨r, by simpa [hk] using hr, ?_⟩
        cases r with
        | none => exact ⟨by simp [mget, hk', hm.1], fun j => by simp [upd, hk', hm.2]⟩
        | some x =>
          obtain ⟨x, v⟩ := x
          obtain ⟨y, e1, q, e2, e3, e4, e5⟩ := hm
          exact ⟨y + 1, by omega, q, by simpa using e2, e3, by simp [mget, hk', e4], fun j => by simp [upd, hk', e5]⟩

theorem run_find57 (sb : Nat) (k : Int × Int) (w : World) (es : List MapEntry) (ms : List ((Int × Int) × Nat)) (h : es.map (fun e => (e.key, e.val)) = ms.map (enc sb)) :
    ∃ r, (Instr.findKey 57 (keyV k) es).run Yba.prog w = .ok r w ∧
      match r with
      | none => mget ms k = none ∧ ∀ j, upd ms k j = ms ++ [(k, j)]
      | some (x, v) => ∃ q, ms[x]? = some (k, q) ∧ v = ptrV sb q ∧ mget ms k = some q ∧ ∀ j, upd ms k j = ms.set x (k, j) := by
  have hu := run_underlying (w := w) Yba.underlying57
  cases es with
  | nil =>
    cases ms with
    | cons => simp at h
    | nil => exact ⟨none, by simp [Instr.findKey, hu, Instr.findNow], rfl, fun j => rfl⟩
  | cons e es =>
    obtain ⟨r, hr, hm⟩ := run_findAsking sb k w (e :: es) ms 0 h
    refine ⟨r, by simpa [Instr.findKey, hu, Instr.findNow, Instr.sameNow] using hr, ?_⟩
    cases r with
    | none => exact hm
    | some x =>
      obtain ⟨x, v⟩ := x
      obtain ⟨y, e1, q, e2, e3, e4, e5⟩ := hm
      obtain rfl : x = y := by omega
      exact ⟨q, e2, e3, e4, e5⟩

/-- Block b is a map that holds just these pairs. -/
def MapIs (w : World) (b sb : Nat) (ms : List ((Int × Int) × Nat)) : Prop :=
  ∃ es clock, w.heap[b]? = some (.map es clock) ∧ es.toList.map (fun e => (e.key, e.val)) = ms.map (enc sb)

/-- w1 is w but for block b, a map still. -/
structure Turned (w w1 : World) (b : Nat) : Prop where
  os : w1.os = w.os
  tape : w1.tape = w.tape
  output : w1.output = w.output
  size : w1.heap.size = w.heap.size
  block : ∀ k, k ≠ b → w1.heap[k]? = w.heap[k]?

theorem sameBits_key (k : Int × Int) : Instr.sameBits 10000 (keyV k) (keyV k) = true := by
  simp [keyV, Instr.sameBits]

theorem run_upd (w : World) (b sb : Nat) (ms : List ((Int × Int) × Nat)) (k : Int × Int) (j : Nat) (h : MapIs w b sb ms) :
    ∃ w1, (Instr.mapUpdate 35 (.map (some b)) (keyV k) (ptrV sb j)).run Yba.prog w = .ok () w1 ∧ MapIs w1 b sb (upd ms k j) ∧ Turned w w1 b := by
  obtain ⟨es, clock, hb, hes⟩ := h
  have hlt : b < w.heap.size := by
    rcases Nat.lt_or_ge b w.heap.size with h | h
    · exact h
    · simp [Array.getElem?_eq_none h] at hb
  obtain ⟨r, hr, hm⟩ := run_find57 sb k w es.toList ms hes
  have hu := run_underlying (w := w) Yba.underlying35
  have hT : ∀ o, Turned w { w with heap := w.heap.setIfInBounds b o } b := fun o =>
    ⟨rfl, rfl, rfl, by simp, fun i hi => by simp [Ne.symm hi]⟩
  cases r with
  | none =>
    refine ⟨{ w with heap := w.heap.setIfInBounds b (.map (es.push { key := keyV k, val := ptrV sb j, born := clock }) (clock + 1)) }, ?_, ⟨es.push { key := keyV k, val := ptrV sb j, born := clock }, clock + 1, by simp [hlt], by simp [hes, hm.2, enc]⟩, hT _⟩
    simp [Instr.mapUpdate, hu, getObj, setObj, Sem.run, hb, run_check57, hr]
  | some x =>
    obtain ⟨x, v⟩ := x
    obtain ⟨q, e2, e3, e4, e5⟩ := hm
    have hx : x < es.size := by
      have h1 := congrArg List.length hes
      have h2 := (List.getElem?_eq_some_iff.1 e2).1
      simp at h1
      omega
    have hk : es[x].key = keyV k := by
      have h1 := congrArg (fun l => l[x]?) hes
      simp [e2, enc, hx] at h1
      exact h1.1
    refine ⟨{ w with heap := w.heap.setIfInBounds b (.map (es.modify x fun e => { e with key := keyV k, val := ptrV sb j }) clock) }, ?_, ⟨es.modify x fun e => { e with key := keyV k, val := ptrV sb j }, clock, by simp [hlt], ?_⟩, hT _⟩
    · simp [Instr.mapUpdate, hu, getObj, setObj, Sem.run, hb, run_check57, hr, Instr.keyThatStays, hx, hk, sameBits_key]
    · rw [e5, List.map_set, ← hes]
      apply List.ext_getElem?
      intro n
      simp only [Array.toList_modify, List.getElem?_map, List.getElem?_modify, List.getElem?_set, List.length_map, Array.length_toList]
      by_cases hn : x = n
      · subst hn
        simp [hx, enc]
      · simp [hn]

theorem run_get (w : World) (b sb : Nat) (ms : List ((Int × Int) × Nat)) (k : Int × Int) (q : Nat) (h : MapIs w b sb ms) (hq : mget ms k = some q) :
    (Instr.lookup 35 (.map (some b)) (keyV k) true).run Yba.prog w = .ok (.tuple #[ptrV sb q, .bool true]) w := by
  obtain ⟨es, clock, hb, hes⟩ := h
  obtain ⟨r, hr, hm⟩ := run_find57 sb k w es.toList ms hes
  have hu := run_underlying (w := w) Yba.underlying35
  cases r with
  | none => rw [hm.1] at hq; cases hq
  | some x =>
    obtain ⟨x, v⟩ := x
    obtain ⟨q', e2, e3, e4, e5⟩ := hm
    obtain rfl : q' = q := by rw [e4] at hq; exact Option.some.inj hq
    simp [Instr.lookup, hu, getObj, Sem.run, hb, run_check57, hr, e3]

theorem run_len (w : World) (b sb : Nat) (ms : List ((Int × Int) × Nat)) (h : MapIs w b sb ms) :
    (Builtin.len_ #[35] 3 #[.map (some b)]).run Yba.prog w = .ok (.int .i64 ms.length) w := by
  obtain ⟨es, clock, hb, hes⟩ := h
  have h1 := congrArg List.length hes
  simp at h1
  simp [Builtin.len_, getObj, Sem.run, hb, goInt, h1]

/-! ### THE PLAIN LAW -/
def msTo (ks : Nat → Int × Int) : Nat → List ((Int × Int) × Nat)
  | 0 => []
  | k + 1 => upd (msTo ks k) (ks k) k
def lastTo (ks : Nat → Int × Int) (i : Nat) : Nat → Nat
  | 0 => i
  | t + 1 => if ks (i + 1 + t) = ks i then i + 1 + t else lastTo ks i t
def firstTo (ks : Nat → Int × Int) (i : Nat) : Nat → Bool
  | 0 => true
  | t + 1 => firstTo ks i t && decide (¬ ks t = ks i)
def distTo (ks : Nat → Int × Int) : Nat → Nat
  | 0 => 0
  | k + 1 => distTo ks k + if firstTo ks k k = true then 1 else 0

theorem mget_upd (ms : List ((Int × Int) × Nat)) (k : Int × Int) (j : Nat) (k' : Int × Int) : mget (upd ms k j) k' = if k = k' then some j else mget ms k' := by
  induction ms with
  | nil => simp [upd, mget]
  | cons p r ih =>
    simp only [upd]
    by_cases h : p.1 = k
    · by_cases h2 : k = k'
      · simp [h, mget, h2]
      · have h3 : ¬ p.1 = k' := by rw [h]; exact h2
        simp [h, mget, h2]
    · by_cases h3 : p.1 = k'
      · have h2 : ¬ k = k' := fun e => h (h3.trans e.symm)
        have h4 : ¬ k' = k := fun e => h2 e.symm
        simp [mget, h2, h3, h4]
      · simp [h, mget, h3, ih]

theorem length_upd (ms : List ((Int × Int) × Nat)) (k : Int × Int) (j : Nat) : (upd ms k j).length = ms.length + if mget ms k = none then 1 else 0 := by
  induction ms with
  | nil => simp [upd, mget]
  | cons p r ih =>
    by_cases h : p.1 = k
    · simp [upd, mget, h]
    · simp [upd, mget, h, ih]; omega

theorem first_none (ks : Nat → Int × Int) (i : Nat) : ∀ m, (firstTo ks i m = true ↔ mget (msTo ks m) (ks i) = none)
  | 0 => by simp [firstTo, msTo, mget]
  | m + 1 => by
    simp only [firstTo, msTo, mget_upd, Bool.and_eq_true, first_none ks i m, decide_eq_true_eq]
    by_cases h : ks m = ks i <;> simp [h]

theorem get_last (ks : Nat → Int × Int) (i : Nat) : ∀ t, mget (msTo ks (i + 1 + t)) (ks i) = some (lastTo ks i t)
  | 0 => by simp [msTo, mget_upd, lastTo]
  | t + 1 => by
    show mget (upd (msTo ks (i + 1 + t)) (ks (i + 1 + t)) (i + 1 + t)) (ks i) = _
    rw [mget_upd, get_last ks i t]
    simp only [lastTo]
    by_cases h : ks (i + 1 + t) = ks i <;> simp [h]

theorem last_lt (ks : Nat → Int × Int) (i : Nat) : ∀ t, lastTo ks i t < i + 1 + t
  | 0 => by simp [lastTo]
  | t + 1 => by
    have := last_lt ks i t
    simp only [lastTo]
    split <;> omega

theorem len_dist (ks : Nat → Int × Int) : ∀ m, (msTo ks m).length = distTo ks m
  | 0 => rfl
  | m + 1 => by
    simp only [msTo, length_upd, distTo, len_dist ks m]
    have := first_none ks m m
    by_cases h : firstTo ks m m = true
    · simp [h, this.1 h]
    · have h2 : ¬ mget (msTo ks m) (ks m) = none := fun e => h (this.2 e)
      simp [h, h2]

theorem dist_le (ks : Nat → Int × Int) : ∀ m, distTo ks m ≤ m
  | 0 => Nat.le_refl _
  | m + 1 => by
    have := dist_le ks m
    simp only [distTo]
    split <;> omega

end Go.Proofs.Ybulkfsly
