/-
  The wait queue as a list of blocks; pushTail, popHead, remove, holds.
-/
import Derived.Test.YbulkcszoRows
import Derived.WalkKit
import Derived.WalkSpells
import Derived.WalkLawsBesides
import Derived.Deep.QuietTactic
import Derived.BigQuiet
import Derived.RegionTactic
import Derived.LaidEqlPtr
namespace Go.Proofs.Ybulkcszo
open Go.RowKit
set_option linter.unusedVariables false

/-- a pointer to block g, or nil -/
def ptrO : Option Nat → Value
  | none => .pointer none
  | some g => .pointer (some ⟨g, 0, none⟩)

/-- a waiter's cells -/
def nodeC (v : Int) (p n : Option Nat) : Array Value := #[.pointer none, .int .i64 v, .bool false, .pointer none, .int .i64 0, ptrO p, ptrO n]

def prevO (gs : List Nat) (i : Nat) : Option Nat := if i = 0 then none else gs[i - 1]?
def nextO (gs : List Nat) (i : Nat) : Option Nat := gs[i + 1]?

structure Linked (w : World) (Q : Nat) (gs : List Nat) (vs : List Int) : Prop where
  queue : w.heap[Q]? = some (.cells #[ptrO gs.head?, ptrO gs.getLast?] 25 (0, 0))
  len : vs.length = gs.length
  node : ∀ (i g : Nat) (v : Int), gs[i]? = some g → vs[i]? = some v → w.heap[g]? = some (.cells (nodeC v (prevO gs i) (nextO gs i)) 32 (0, 0))
  lo : ∀ g ∈ gs, Q + 3 ≤ g
  rise : gs.Pairwise (· < ·)

structure Fr (Q : Nat) (w w' : World) : Prop where
  os : w'.os = w.os
  tape : w'.tape = w.tape
  output : w'.output = w.output
  size : w'.heap.size = w.heap.size
  block : ∀ b, b < Q + 3 → b ≠ Q → w'.heap[b]? = w.heap[b]?

theorem heap_cell {w : World} {g : Nat} {cur : Array Value} {e : TypeId} (h : w.heap[g]? = some (.cells cur e (0, 0))) (j : Nat) : w.cell? ⟨g, j, none⟩ = cur[j]? := cell_of_row w g j cur e (0, 0) h
theorem heap_frozen {w : World} {g : Nat} {cur : Array Value} {e : TypeId} (h : w.heap[g]? = some (.cells cur e (0, 0))) (j : Nat) : w.frozen? ⟨g, j, none⟩ = false := by
  simp [World.frozen?, h]
theorem heap_set_other (w : World) (a : Addr) (v : Value) (b : Nat) (h : b ≠ a.block) : (w.setCell a v).heap[b]? = w.heap[b]? := Below.heap_setCell w a v b h
theorem heap_set_same {w : World} {g : Nat} {cur : Array Value} {e : TypeId} (h : w.heap[g]? = some (.cells cur e (0, 0))) (j : Nat) (v : Value) : (w.setCell ⟨g, j, none⟩ v).heap[g]? = some (.cells (cur.setIfInBounds j v) e (0, 0)) := by
  simp [World.setCell, Array.getElem?_modify, h]

theorem info32 : (Yba.prog.info? 32).map (·.size) = some 7 := by kernel_rfl
theorem eq_same (w : World) (a : Addr) : (binOp .eql 23 (.pointer (some a)) (.pointer (some a))).run Yba.prog w = .ok (.bool true) w := by
  obtain ⟨j, hj, _⟩ := Option.map_eq_some_iff.1 info32
  exact run_eql_ptr_same w a Yba.underlying23 hj
theorem ne_same (w : World) (a : Addr) : (binOp .neq 23 (.pointer (some a)) (.pointer (some a))).run Yba.prog w = .ok (.bool false) w := by
  obtain ⟨j, hte, _⟩ := Option.map_eq_some_iff.1 info32
  have h : ∀ d : Nat, (Op.equalIn (d + 1) 23 (.pointer (some a)) (.pointer (some a))).run Yba.prog w = .ok true w := fun d => by
    simp [Op.equalIn, run_underlying Yba.underlying23, sizeOf, typeInfo, hte, run_sameAddr_same]
  simp only [binOp]
  simp [Op.equal, Op.maxDepth, h 9999]

set_option maxHeartbeats 1000000 in
theorem push_empty (w : World) (Q g : Nat) (hq0 : w.cell? ⟨Q, 0, none⟩ = some (.pointer none)) (hq1 : w.cell? ⟨Q, 1, none⟩ = some (.pointer none)) (hg5 : w.cell? ⟨g, 5, none⟩ = some (.pointer none))
    (f0 : w.frozen? ⟨Q, 0, none⟩ = false) (f1 : w.frozen? ⟨Q, 1, none⟩ = false) (f5 : w.frozen? ⟨g, 5, none⟩ = false) (hne : Q ≠ g) :
    Calls Yba.prog 4 #[.pointer (some ⟨Q, 0, none⟩), .pointer (some ⟨g, 0, none⟩)] w fun e w' => e = .returned (.tuple #[]) ∧ w' = ((w.setCell ⟨g, 5, none⟩ (.pointer none)).setCell ⟨Q, 0, none⟩ (.pointer (some ⟨g, 0, none⟩))).setCell ⟨Q, 1, none⟩ (.pointer (some ⟨g, 0, none⟩)) := by
  go_enter Yba.func4, Yba.ntmps4
  go_wp2
  go_end0
  exact ⟨rfl, rfl⟩

set_option maxHeartbeats 1000000 in
theorem push_more (w : World) (Q g t : Nat) (hq1 : w.cell? ⟨Q, 1, none⟩ = some (.pointer (some ⟨t, 0, none⟩))) (hg5 : w.cell? ⟨g, 5, none⟩ = some (.pointer none)) (ht6 : w.cell? ⟨t, 6, none⟩ = some (.pointer none))
    (f1 : w.frozen? ⟨Q, 1, none⟩ = false) (f5 : w.frozen? ⟨g, 5, none⟩ = false) (f6 : w.frozen? ⟨t, 6, none⟩ = false) (hne : Q ≠ g) (hne2 : Q ≠ t) (hne3 : t ≠ g) :
    Calls Yba.prog 4 #[.pointer (some ⟨Q, 0, none⟩), .pointer (some ⟨g, 0, none⟩)] w fun e w' => e = .returned (.tuple #[]) ∧ w' = ((w.setCell ⟨g, 5, none⟩ (.pointer (some ⟨t, 0, none⟩))).setCell ⟨t, 6, none⟩ (.pointer (some ⟨g, 0, none⟩))).setCell ⟨Q, 1, none⟩ (.pointer (some ⟨g, 0, none⟩)) := by
  go_enter Yba.func4, Yba.ntmps4
  go_wp2
  go_end0
  exact ⟨rfl, rfl⟩

set_option maxHeartbeats 1000000 in
theorem remove_one (w : World) (Q g : Nat) (q0 q1 : Value) (hq0 : w.cell? ⟨Q, 0, none⟩ = some q0) (hq1 : w.cell? ⟨Q, 1, none⟩ = some q1) (hg5 : w.cell? ⟨g, 5, none⟩ = some (.pointer none)) (hg6 : w.cell? ⟨g, 6, none⟩ = some (.pointer none))
    (f0 : w.frozen? ⟨Q, 0, none⟩ = false) (f1 : w.frozen? ⟨Q, 1, none⟩ = false) (f5 : w.frozen? ⟨g, 5, none⟩ = false) (f6 : w.frozen? ⟨g, 6, none⟩ = false) (hne : Q ≠ g) :
    Calls Yba.prog 8 #[.pointer (some ⟨Q, 0, none⟩), .pointer (some ⟨g, 0, none⟩)] w fun e w' => e = .returned (.tuple #[]) ∧ w' = (((w.setCell ⟨Q, 0, none⟩ (.pointer none)).setCell ⟨Q, 1, none⟩ (.pointer none)).setCell ⟨g, 5, none⟩ (.pointer none)).setCell ⟨g, 6, none⟩ (.pointer none) := by
  go_enter Yba.func8, Yba.ntmps8
  go_wp2
  go_end0
  exact ⟨rfl, rfl⟩

set_option maxHeartbeats 1000000 in
theorem remove_more (w : World) (Q g n : Nat) (q0 p5 : Value) (hq0 : w.cell? ⟨Q, 0, none⟩ = some q0) (hg5 : w.cell? ⟨g, 5, none⟩ = some (.pointer none)) (hg6 : w.cell? ⟨g, 6, none⟩ = some (.pointer (some ⟨n, 0, none⟩))) (hn5 : w.cell? ⟨n, 5, none⟩ = some p5)
    (f0 : w.frozen? ⟨Q, 0, none⟩ = false) (f5 : w.frozen? ⟨g, 5, none⟩ = false) (f6 : w.frozen? ⟨g, 6, none⟩ = false) (fn : w.frozen? ⟨n, 5, none⟩ = false) (hne : Q ≠ g) (hne2 : Q ≠ n) (hne3 : n ≠ g) :
    Calls Yba.prog 8 #[.pointer (some ⟨Q, 0, none⟩), .pointer (some ⟨g, 0, none⟩)] w fun e w' => e = .returned (.tuple #[]) ∧ w' = ((((w.setCell ⟨Q, 0, none⟩ (.pointer (some ⟨n, 0, none⟩))).setCell ⟨n, 5, none⟩ (.pointer none)).setCell ⟨g, 5, none⟩ (.pointer none)).setCell ⟨g, 6, none⟩ (.pointer none)).drew := by
  go_enter Yba.func8, Yba.ntmps8
  go_wp2
  go_region
  all_goals
    go_wp2
    go_end0
    exact ⟨rfl, rfl⟩

set_option maxHeartbeats 1000000 in
theorem pop_empty (w : World) (Q : Nat) (hq0 : w.cell? ⟨Q, 0, none⟩ = some (.pointer none)) :
    Calls Yba.prog 5 #[.pointer (some ⟨Q, 0, none⟩)] w fun e w' => e = .returned (.tuple #[.pointer none, .bool false]) ∧ w = w' := by
  go_enter Yba.func5, Yba.ntmps5
  go_wp2
  go_ret2
  exact ⟨rfl, rfl⟩

set_option maxHeartbeats 1000000 in
theorem pop_some (w : World) (Q g : Nat) (R : World → Prop) (hq0 : w.cell? ⟨Q, 0, none⟩ = some (.pointer (some ⟨g, 0, none⟩)))
    (hr : Calls Yba.prog 8 #[.pointer (some ⟨Q, 0, none⟩), .pointer (some ⟨g, 0, none⟩)] w fun e w' => e = .returned (.tuple #[]) ∧ R w') :
    Calls Yba.prog 5 #[.pointer (some ⟨Q, 0, none⟩)] w fun e w' => e = .returned (.tuple #[.pointer (some ⟨g, 0, none⟩), .bool true]) ∧ R w' := by
  have HR : Hid _ := hr
  clear hr
  go_enter Yba.func5, Yba.ntmps5
  go_wp2_with fail
  refine Calls.mono HR ?_
  rintro e w' ⟨rfl, h⟩
  go_wp2_with fail
  go_ret2
  exact ⟨rfl, h⟩

set_option maxHeartbeats 1000000 in
theorem holds_no (w : World) (Q g : Nat) (hg5 : w.cell? ⟨g, 5, none⟩ = some (.pointer none)) (p : Option Addr) (hq0 : w.cell? ⟨Q, 0, none⟩ = some (.pointer p)) (hne : (binOp .eql 23 (.pointer p) (.pointer (some ⟨g, 0, none⟩))).run Yba.prog w = .ok (.bool false) w) :
    Calls Yba.prog 6 #[.pointer (some ⟨Q, 0, none⟩), .pointer (some ⟨g, 0, none⟩)] w fun e w' => e = .returned (.bool false) ∧ w = w' := by
  go_enter Yba.func6, Yba.ntmps6
  go_wp2
  go_ret
  exact ⟨rfl, rfl⟩
end Go.Proofs.Ybulkcszo
