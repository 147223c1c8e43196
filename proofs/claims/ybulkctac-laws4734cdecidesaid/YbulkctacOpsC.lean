/-
  Whole structs as one operation each: a message, a pending install, a member, a copy set aside.
-/
import Derived.Test.YbulkctacBase
namespace Go.Proofs.Ybulkctac
open Go.RowKit
set_option linter.unusedVariables false

theorem heap_alloc_some' {w : World} {k : Nat} {o : Obj} (h : w.heap[k]? = some o) (o' : Obj) : (w.alloc o').heap[k]? = some o := by
  rw [Below.heap_alloc w o' k (heap_lt h)]; exact h

/-- a pending install's cells: the map of the latest in block g -/
def pendA (g : Nat) : Array Value := #[.int .u8 0, .int .u8 0, .int .u8 0, .int .u8 0, .string ⟨#[]⟩, .string ⟨#[]⟩, .int .u64 0, .int .u64 0, .int .u64 0, .slice none 0 0, .slice none 0 0, .slice none 0 0, .slice none 0 0, .int .u64 0, .slice none 0 0, .slice none 0 0, .int .u64 0, .int .u64 0, .int .u64 0, .string ⟨#[]⟩, .bool false, .slice none 0 0, .slice none 0 0, .slice none 0 0, .slice none 0 0, .slice none 0 0, .slice none 0 0, .slice none 0 0, .pointer none, .pointer none, .pointer none, .slice none 0 0, .slice none 0 0, .slice none 0 0, .string ⟨#[]⟩, .map (some g), .map none, .slice none 0 0, .int .i64 0]
/-- a member's cells, all nought -/
def memA : Array Value := #[.string ⟨#[]⟩, .int .u64 0, .pointer none, .int .u64 0, .slice none 0 0, .int .i64 0, .int .i64 0, .nilFunc, .nilFunc, .nilFunc, .nilFunc, .int .i64 0, .nilIface, .nilIface, .pointer none, .pointer none, .int .u64 0, .int .u64 0, .int .u64 0, .int .i32 0, .int .u32 0, .pointer none, .int .u64 0, .int .u64 0, .map none, .slice none 0 0, .slice none 0 0, .map none, .map none, .map none, .pointer none, .int .u64 0, .map none, .int .i64 0, .nilFunc, .int .u64 0, .int .i64 0, .slice none 0 0, .nilFunc, .int .i64 0, .int .i64 0, .slice none 0 0, .slice none 0 0, .nilFunc, .slice none 0 0, .slice none 0 0, .slice none 0 0, .pointer none, .slice none 0 0, .pointer none, .pointer none, .pointer none, .map none, .map none, .map none, .map none, .map none, .map none, .nilFunc, .nilFunc, .int .u64 0, .map none, .pointer none, .map none, .bool false, .slice none 0 0, .map none, .int .u64 0, .slice none 0 0, .slice none 0 0, .int .i64 0, .map none, .slice none 0 0, .map none, .bool false, .bool false, .nilFunc, .bool false, .int .u8 0, .int .u8 0, .int .u8 0, .int .u8 0, .string ⟨#[]⟩, .string ⟨#[]⟩, .int .u64 0, .int .u64 0, .int .u64 0, .slice none 0 0, .slice none 0 0, .slice none 0 0, .slice none 0 0, .int .u64 0, .slice none 0 0, .slice none 0 0, .int .u64 0, .int .u64 0, .int .u64 0, .string ⟨#[]⟩, .bool false, .slice none 0 0, .slice none 0 0, .slice none 0 0, .slice none 0 0, .slice none 0 0, .slice none 0 0, .slice none 0 0, .pointer none, .pointer none, .pointer none, .slice none 0 0, .slice none 0 0, .slice none 0 0, .string ⟨#[]⟩, .int .u64 0, .pointer none, .slice none 0 0, .map none, .slice none 0 0, .map none, .map none, .map none, .map none, .bool false, .bool false, .int .u8 0, .int .u8 0, .int .u8 0, .int .u8 0, .string ⟨#[]⟩, .string ⟨#[]⟩, .int .u64 0, .int .u64 0, .int .u64 0, .slice none 0 0, .slice none 0 0, .slice none 0 0, .slice none 0 0, .int .u64 0, .slice none 0 0, .slice none 0 0, .int .u64 0, .int .u64 0, .int .u64 0, .string ⟨#[]⟩, .bool false, .slice none 0 0, .slice none 0 0, .slice none 0 0, .slice none 0 0, .slice none 0 0, .slice none 0 0, .slice none 0 0, .pointer none, .pointer none, .pointer none, .slice none 0 0, .slice none 0 0, .slice none 0 0, .string ⟨#[]⟩, .slice none 0 0, .int .u8 0, .int .u8 0, .int .u8 0, .int .u8 0, .string ⟨#[]⟩, .string ⟨#[]⟩, .int .u64 0, .int .u64 0, .int .u64 0, .slice none 0 0, .slice none 0 0, .slice none 0 0, .slice none 0 0, .int .u64 0, .slice none 0 0, .slice none 0 0, .int .u64 0, .int .u64 0, .int .u64 0, .string ⟨#[]⟩, .bool false, .slice none 0 0, .slice none 0 0, .slice none 0 0, .slice none 0 0, .slice none 0 0, .slice none 0 0, .slice none 0 0, .pointer none, .pointer none, .pointer none, .slice none 0 0, .slice none 0 0, .slice none 0 0, .string ⟨#[]⟩, .pointer none, .pointer none, .bool false, .map none, .pointer none]
/-- a copy set aside -/
def copyA (p f : ByteArray) (s : Int) : Array Value := #[.string p] ++ msgA f s 0 ++ #[.bool false]

/-! ### the cells of the block that a pointer leads to -/
def rowC (w : World) : Value → Array Value
  | .pointer (some a) => match w.heap[a.block]? with | some (.cells cur _ _) => cur | _ => #[]
  | _ => #[]
def IsMsgC (w : World) (x : Value) : Prop := ∃ M cur, x = .pointer (some ⟨M, 0, none⟩) ∧ w.heap[M]? = some (.cells cur 49 (0, 0)) ∧ cur.size = 35
theorem load49C (w : World) (x : Value) (h : IsMsgC w x) : (Instr.loadAt 49 x).run Yba.prog w = .ok (.agg (rowC w x)) w := by
  obtain ⟨M, cur, rfl, h, hs⟩ := h
  have h35 : (Yba.prog.info? 49).map (·.size) = some 35 := by kernel_rfl
  have := run_loadVar_row (P := Yba.prog) w M 49 49 cur (0, 0) _ h Yba.underlying49 rfl (by rw [hs]; exact h35)
  simp [Instr.loadAt, Instr.sureAddr, this, rowC, h]
theorem isMsgC_alloc {w : World} {x : Value} (h : IsMsgC w x) (o : Obj) : IsMsgC (w.alloc o) x := by
  obtain ⟨M, cur, rfl, h, hs⟩ := h
  exact ⟨M, cur, rfl, heap_alloc_some' h o, hs⟩
theorem rowC_alloc {w : World} {x : Value} (h : IsMsgC w x) (o : Obj) : rowC (w.alloc o) x = rowC w x := by
  obtain ⟨M, cur, rfl, h, hs⟩ := h
  simp [rowC, heap_alloc_some' h o, h]
theorem isMsgC_drew (w : World) (x : Value) : IsMsgC w.drew x = IsMsgC w x := rfl
theorem isMsgC_drewN (w : World) (q : Nat) (x : Value) : IsMsgC (w.drewN q) x = IsMsgC w x := rfl
theorem rowC_drew (w : World) (x : Value) : rowC w.drew x = rowC w x := by cases x <;> rfl
theorem rowC_drewN (w : World) (q : Nat) (x : Value) : rowC (w.drewN q) x = rowC w x := by cases x <;> rfl
theorem isMsgC_of {w : World} {M : Nat} {f : ByteArray} {s k : Int} (h : w.heap[M]? = some (.cells (msgA f s k) 49 (0, 0))) : IsMsgC w (.pointer (some ⟨M, 0, none⟩)) := ⟨M, _, rfl, h, rfl⟩
theorem rowC_of {w : World} {M : Nat} {f : ByteArray} {s k : Int} (h : w.heap[M]? = some (.cells (msgA f s k) 49 (0, 0))) : rowC w (.pointer (some ⟨M, 0, none⟩)) = msgA f s k := by simp [rowC, h]

/-! ### the operations -/
def loadMsg (x : Value) : Sem Next := do pure (.value (← Instr.loadAt 49 x))
def boxMsg (x : Value) : Sem Next := do pure (.value (← Instr.box 49 x))
def buildMsg (x y : Value) : Sem Next := do pure (.value (← Instr.build 49 #[(4, x), (6, y)]))
def buildMem : Sem Next := do pure (.value (← Instr.build 139 #[]))
def boxMem (x : Value) : Sem Next := do pure (.value (← Instr.box 139 x))
def buildPend (x : Value) : Sem Next := do pure (.value (← Instr.build 67 #[(1, x)]))
def boxPend (x : Value) : Sem Next := do pure (.value (← Instr.box 67 x))
def buildCopy (x y z : Value) : Sem Next := do pure (.value (← Instr.build 153 #[(0, x), (1, y), (2, z)]))
def sliceCopy (x : Value) : Sem Next := do pure (.value (← Instr.buildSlice 128 1 #[(0, x)]))
section
variable (ρ : Operand → Value) (dst : Option Tmp) (x y z : Operand) (ty : TypeId) (pos : String) (after : Array Edge) (guard : Option (Nat × Bool))
theorem ex_loadMsg : execOp ρ { dst, op := .load 49 x, type := ty, pos, after, guard } = loadMsg (ρ x) := rfl
theorem ex_boxMsg : execOp ρ { dst, op := .box 49 x, type := ty, pos, after, guard } = boxMsg (ρ x) := rfl
theorem ex_buildMsg : execOp ρ { dst, op := .build 49 #[(4, x), (6, y)], type := ty, pos, after, guard } = buildMsg (ρ x) (ρ y) := by simp [execOp, buildMsg]
theorem ex_buildMem : execOp ρ { dst, op := .build 139 #[], type := ty, pos, after, guard } = buildMem := by simp [execOp, buildMem]
theorem ex_boxMem : execOp ρ { dst, op := .box 139 x, type := ty, pos, after, guard } = boxMem (ρ x) := rfl
theorem ex_buildPend : execOp ρ { dst, op := .build 67 #[(1, x)], type := ty, pos, after, guard } = buildPend (ρ x) := by simp [execOp, buildPend]
theorem ex_boxPend : execOp ρ { dst, op := .box 67 x, type := ty, pos, after, guard } = boxPend (ρ x) := rfl
theorem ex_buildCopy : execOp ρ { dst, op := .build 153 #[(0, x), (1, y), (2, z)], type := ty, pos, after, guard } = buildCopy (ρ x) (ρ y) (ρ z) := by simp [execOp, buildCopy]
theorem ex_sliceCopy : execOp ρ { dst, op := .buildSlice 128 1 #[(0, x)], type := ty, pos, after, guard } = sliceCopy (ρ x) := by simp [execOp, sliceCopy]
end
section
variable (w : World) (p f : ByteArray) (s k : Int) (g : Nat)
theorem run_loadMsg (x : Value) (h : IsMsgC w x) : (loadMsg x).run Yba.prog w = .ok (.value (.agg (rowC w x))) w := by simp [loadMsg, load49C w x h]
theorem run_boxMsg : (boxMsg (.agg (msgA f s k))).run Yba.prog w = .ok (.value (.pointer (some ⟨w.heap.size, 0, none⟩))) (w.alloc (.cells (msgA f s k) 49)) := by kernel_rfl
theorem run_buildMsg : (buildMsg (.string f) (.int .u64 s)).run Yba.prog w = .ok (.value (.agg (msgA f s 0))) w := by kernel_rfl
theorem run_buildMem : buildMem.run Yba.prog w = .ok (.value (.agg memA)) w := by kernel_rfl
theorem run_boxMem : (boxMem (.agg memA)).run Yba.prog w = .ok (.value (.pointer (some ⟨w.heap.size, 0, none⟩))) (w.alloc (.cells memA 139)) := by kernel_rfl
theorem run_buildPend : (buildPend (.map (some g))).run Yba.prog w = .ok (.value (.agg (pendA g))) w := by kernel_rfl
theorem run_boxPend : (boxPend (.agg (pendA g))).run Yba.prog w = .ok (.value (.pointer (some ⟨w.heap.size, 0, none⟩))) (w.alloc (.cells (pendA g) 67)) := by kernel_rfl
theorem run_buildCopy : (buildCopy (.string p) (.agg (msgA f s 0)) (.bool false)).run Yba.prog w = .ok (.value (.agg (copyA p f s))) w := by kernel_rfl
theorem run_sliceCopy : (sliceCopy (.agg (copyA p f s))).run Yba.prog w = .ok (.value (.slice (some ⟨w.heap.size, 0, none⟩) 1 1)) (w.alloc (.cells (copyA p f s) 153)) := by kernel_rfl
end
end Go.Proofs.Ybulkctac
