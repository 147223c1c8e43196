/-
  Shared: a message, a key, the names; keyOf, the law's name, newQueue, newResender.
-/
import Derived.Test.YbulkctacRows
import Derived.WalkKit
import Derived.WalkSpells
import Derived.WalkLawsBesides
import Derived.Deep.QuietTactic
import Derived.BigQuiet
import Derived.RegionTactic
import Derived.LaidEqlPtr
import Derived.Laws.Rows
import Derived.Laws.EntriesVeiled
import Derived.Laws.Tables
import Derived.Maps.OwnOps
import Derived.Maps.OwnSet
import Derived.Maps.Views
import Derived.DeepKeys4
namespace Go.Proofs.Ybulkctac
open Go.RowKit
open Go.Maps (Keyed)
set_option linter.unusedVariables false

theorem hid {p : Prop} (h : p) : Hid p := h

/-- a message with a sender, a number and a kind -/
def msgA (f : ByteArray) (s k : Int) : Array Value := #[.int .u8 k, .int .u8 0, .int .u8 0, .int .u8 0, .string f, .string ⟨#[]⟩, .int .u64 s, .int .u64 0, .int .u64 0, .slice none 0 0, .slice none 0 0, .slice none 0 0, .slice none 0 0, .int .u64 0, .slice none 0 0, .slice none 0 0, .int .u64 0, .int .u64 0, .int .u64 0, .string ⟨#[]⟩, .bool false, .slice none 0 0, .slice none 0 0, .slice none 0 0, .slice none 0 0, .slice none 0 0, .slice none 0 0, .slice none 0 0, .pointer none, .pointer none, .pointer none, .slice none 0 0, .slice none 0 0, .slice none 0 0, .string ⟨#[]⟩]

def keyV (t f : ByteArray) (s k : Int) : Array Value := #[.string t, .string f, .int .u64 s, .int .u8 k]

theorem heap_cell {w : World} {g : Nat} {cur : Array Value} {e : TypeId} (h : w.heap[g]? = some (.cells cur e (0, 0))) (j : Nat) : w.cell? ⟨g, j, none⟩ = cur[j]? := cell_of_row w g j cur e (0, 0) h
theorem heap_frozen {w : World} {g : Nat} {cur : Array Value} {e : TypeId} (h : w.heap[g]? = some (.cells cur e (0, 0))) (j : Nat) : w.frozen? ⟨g, j, none⟩ = false := by
  simp [World.frozen?, h]
theorem heap_set_other (w : World) (a : Addr) (v : Value) (b : Nat) (h : b ≠ a.block) : (w.setCell a v).heap[b]? = w.heap[b]? := Below.heap_setCell w a v b h
theorem heap_set_same {w : World} {g : Nat} {cur : Array Value} {e : TypeId} (h : w.heap[g]? = some (.cells cur e (0, 0))) (j : Nat) (v : Value) : (w.setCell ⟨g, j, none⟩ v).heap[g]? = some (.cells (cur.setIfInBounds j v) e (0, 0)) := by
  simp [World.setCell, Array.getElem?_modify, h]
theorem heap_lt {w : World} {b : Nat} {o : Obj} (h : w.heap[b]? = some o) : b < w.heap.size := (Array.getElem?_eq_some_iff.1 h).1

set_option maxHeartbeats 1000000 in
set_option maxRecDepth 100000 in
theorem keyOf_any (t f : ByteArray) (s k : Int) (w : World) :
    Calls Yba.prog 13 #[.string t, .agg (msgA f s k)] w fun e w' => e = .returned (.agg (keyV t f s k)) ∧ w' = (w.alloc (.cells (msgA f s k) 49)).alloc (.cells (keyV t f s k) 59) := by
  unfold msgA keyV
  go_enter Yba.func13, Yba.ntmps13
  go_wp2
  (try simp only [Exit.inBlock, Exit.then])
  refine bodyPost_ret (results_cell_row rfl _ _ (w.heap.size + 1) 59 (keyV t f s k) (0, 0) _ rfl ?_ Yba.underlying59 rfl (by kernel_rfl)) rfl ⟨rfl, rfl⟩
  have := heap_alloc_new (w.alloc (.cells (msgA f s k) 49)) (.cells (keyV t f s k) 59)
  simpa [msgA, keyV] using this

/-- the law's names -/
def nm (x : Nat) : ByteArray := ⟨#[(97 + x).toUInt8]⟩

set_option maxHeartbeats 1000000 in
theorem name_any (x : Nat) (hx : x < 256) (w : World) :
    Calls Yba.prog 6 #[.int .u8 x] w fun e w' => e = .returned (.string (nm (x % 3))) ∧ w = w' := by
  have h3 : x % 3 = 0 ∨ x % 3 = 1 ∨ x % 3 = 2 := by omega
  rcases h3 with h | h | h
  all_goals
    rw [h]
    go_enter Yba.func6, Yba.ntmps6
    go_wp2
    go_ret
    exact ⟨rfl, rfl⟩

/-- a resender's cells -/
def resA (b : Nat) (v : Value) (m : Nat) : Array Value := #[.map (some b), .map (some (b + 1)), .pointer (some ⟨b + 2, 0, none⟩), .int .u64 m, .map (some (b + 3)), .int .i64 0, .nilFunc, .int .u64 0]

set_option maxHeartbeats 1000000 in
theorem resender_any (w : World) :
    Calls Yba.prog 5 #[] w fun e w' => ∃ v, e = .returned (.agg (resA (w.heap.size + 1) v 0)) ∧ w' = ((((w.alloc (.cells (resA (w.heap.size + 1) v 0) 31)).alloc (.map #[] 0)).alloc (.map #[] 0)).alloc (.cells #[.slice none 0 0, v] 57)).alloc (.map #[] 0) := by
  have hmm := @run_makeMap Yba.prog
  go_enter Yba.func5, Yba.ntmps5
  go_wp2
  (try simp only [Exit.inBlock, Exit.then])
  refine bodyPost_ret (results_cell_row rfl _ _ w.heap.size 31 (resA (w.heap.size + 1) (.func (.func 12) #[] #[]) 0) (0, 0) _ rfl ?_ Yba.underlying31 rfl (by kernel_rfl)) rfl ⟨.func (.func 12) #[] #[], rfl, rfl⟩
  rw [Below.heap_alloc _ _ _ (by simp; omega), Below.heap_alloc _ _ _ (by simp; omega), Below.heap_alloc _ _ _ (by simp; omega), Below.heap_alloc _ _ _ (by simp), heap_alloc_new]
  rfl

/-! ### keys -/
theorem laidOut : laidOutB Yba.prog = true := by kernel_rfl
theorem row59 : (59 : TypeId) < Yba.prog.types.size := of_decide_eq_true (by kernel_rfl)
theorem cells59 : Yba.prog.cellsOf 59 = 4 := by kernel_rfl
theorem cells9 : Yba.prog.cellsOf 9 = 1 := by kernel_rfl
theorem cells26 : Yba.prog.cellsOf 26 = 1 := by kernel_rfl
theorem cells38 : Yba.prog.cellsOf 38 = 1 := by kernel_rfl
theorem keyType59 : Yba.prog.keyType 59 = true := by kernel_rfl
theorem types_size : Yba.prog.types.size = 301 + 1 + 1 := by kernel_rfl
theorem wide59 : (match Yba.prog.underlying 59 with | some (.array _ _) | some (.struct _) => true | _ => false) = true := by kernel_rfl
set_option maxRecDepth 100000 in
theorem law59 : Keyed Yba.prog 59 := Keyed.of_law (deep_law_laid laidOut (m := 3) (by omega) row59 (by kernel_rfl) wide59)
theorem law9 : Keyed Yba.prog 9 := Maps.string_keyed Yba.underlying9

def klit (t f : ByteArray) (s k : Int) : Lit := .string (keyBytes [.string t.data.toList, .string f.data.toList, .int .u64 s, .int .u8 k])

theorem lits59 (d : Nat) (t f : ByteArray) (s k : Int) (ht : t.size ≤ maxLen) (hf : f.size ≤ maxLen) (hs : (Lit.int .u64 s).wf = true) (hk : (Lit.int .u8 k).wf = true) :
    Yba.prog.keyLits (d + 1 + 1) 59 [.string t, .string f, .int .u64 s, .int .u8 k] = some [.string t.data.toList, .string f.data.toList, .int .u64 s, .int .u8 k] := by
  simp [Program.keyLits, Yba.underlying59, Yba.underlying9, Yba.underlying26, Yba.underlying38, cells59, cells9, cells26, cells38, ht, hf, hs, hk]

theorem key59 (t f : ByteArray) (s k : Int) (ht : t.size ≤ maxLen) (hf : f.size ≤ maxLen) (hs : (Lit.int .u64 s).wf = true) (hk : (Lit.int .u8 k).wf = true) :
    keyOf Yba.prog 59 (.agg (keyV t f s k)) = some (klit t f s k) := by
  have hfo : (Value.agg (keyV t f s k)).formed Yba.prog 59 = true := by simp [Value.formed, Yba.underlying59, cells59, keyV]
  have hl : Yba.prog.keyLits (Yba.prog.types.size + 1) 59 (Value.agg (keyV t f s k)).cells.toList = some [.string t.data.toList, .string f.data.toList, .int .u64 s, .int .u8 k] := by
    rw [types_size]
    exact lits59 (301 + 1) t f s k ht hf hs hk
  unfold keyOf
  rw [Yba.underlying59]
  show (if (Yba.prog.keyType 59 && (Value.agg (keyV t f s k)).formed Yba.prog 59) = true then _ else _) = _
  rw [keyType59, hfo, hl]
  rfl

theorem klit_inj {t f t' f' : ByteArray} {s k s' k' : Int} (ht : t.size ≤ maxLen) (hf : f.size ≤ maxLen) (hs : (Lit.int .u64 s).wf = true) (hk : (Lit.int .u8 k).wf = true)
    (ht' : t'.size ≤ maxLen) (hf' : f'.size ≤ maxLen) (hs' : (Lit.int .u64 s').wf = true) (hk' : (Lit.int .u8 k').wf = true) (h : klit t f s k = klit t' f' s' k') : t = t' ∧ f = f' ∧ s = s' ∧ k = k' := by
  have := law59.inj (key59 t f s k ht hf hs hk) (h ▸ key59 t' f' s' k' ht' hf' hs' hk')
  simpa [keyV] using this

theorem key9 (t : ByteArray) (ht : t.size ≤ maxLen) : keyOf Yba.prog 9 (.string t) = some (.string t.data.toList) := WideMaps.keyOf_string_mk Yba.underlying9 ht
end Go.Proofs.Ybulkctac
