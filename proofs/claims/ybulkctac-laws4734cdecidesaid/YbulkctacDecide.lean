/-
  LawS4734CDecide: the walk.
-/
import Derived.Test.YbulkctacDefer
import Derived.Test.YbulkctacLatest
import Derived.Deep.WholeRow
namespace Go.Proofs.Ybulkctac
open Go.RowKit
open Go.Maps (Keyed)
set_option linter.unusedVariables false
set_option linter.unusedSimpArgs false

/-! ### a whole message laid into a variable -/
def allocMsg : Sem Next := do pure (.value (← Instr.alloc 49 true (.tuple #[])))
def storeMsg (x v : Value) : Sem Next := do Instr.storeAt 49 x v; pure .skip
theorem ex_allocMsg (ρ : Operand → Value) (dst : Option Tmp) (ty : TypeId) (pos : String) (after : Array Edge) (guard : Option (Nat × Bool)) : execOp ρ { dst, op := .alloc 49, type := ty, pos, after, guard } = allocMsg := rfl
theorem ex_storeMsg (ρ : Operand → Value) (dst : Option Tmp) (x v : Operand) (ty : TypeId) (pos : String) (after : Array Edge) (guard : Option (Nat × Bool)) : execOp ρ { dst, op := .store 49 x v, type := ty, pos, after, guard } = storeMsg (ρ x) (ρ v) := rfl
theorem run_allocMsg (w : World) : allocMsg.run Yba.prog w = .ok (.value (.pointer (some ⟨w.heap.size, 0, none⟩))) (w.alloc (.cells (msgA ⟨#[]⟩ 0 0) 49)) := by kernel_rfl
theorem run_storeMsg (w : World) (g : Nat) (f : ByteArray) (s : Int) (hg : w.heap.size = g) : (storeMsg (.pointer (some ⟨g, 0, none⟩)) (.agg (msgA f s 0))).run Yba.prog (w.alloc (.cells (msgA ⟨#[]⟩ 0 0) 49)) = .ok .skip (w.alloc (.cells (msgA f s 0) 49)) := by
  subst hg
  have := run_storeAt_new (P := Yba.prog) w 49 (msgA ⟨#[]⟩ 0 0) (msgA f s 0) (by kernel_rfl) rfl (by simp [msgA, Value.oneCell'])
  simp [storeMsg, this]

attribute [local go_sem ↓ high] ex_loadMsg ex_buildMsg ex_buildMem ex_boxMem ex_buildPend ex_boxPend ex_allocMsg ex_storeMsg
attribute [local go_sem high] run_loadMsg run_buildMsg run_buildMem run_boxMem run_buildPend run_boxPend run_allocMsg run_storeMsg

/-- a member's cells as the law lays them -/
def memC (bl : Bool) (pp : Value) (bm : Nat) : Array Value := ((memA.setIfInBounds 123 (.bool bl)).setIfInBounds 195 pp).setIfInBounds 116 (.map (some bm))

theorem mem116 : memA[116]? = some (.map none) := by kernel_rfl
theorem mem123 : memA[123]? = some (.bool false) := by kernel_rfl
theorem mem195 : memA[195]? = some (.pointer none) := by kernel_rfl

set_option maxRecDepth 100000 in
theorem memC_at {w : World} {Mb bm : Nat} {bl : Bool} {pp : Value} (h : w.heap[Mb]? = some (.cells (memC bl pp bm) 139 (0, 0))) (hb : w.heap[bm]? = some (.map #[] 0)) : MemAt w Mb bm (memC bl pp bm) bl pp :=
  ⟨h, rfl, rfl, rfl, rfl, rfl, hb⟩

set_option maxHeartbeats 2000000 in
set_option maxRecDepth 100000 in
theorem decide_long (bl hp : Bool) (ak av : Option Addr) (nk ck nv cv : Nat) (sel : Int) (f p : ByteArray) (s : Int) (w : World) (h : (1024 : Int) < (nk : Int) ∨ (1024 : Int) < (nv : Int)) :
    Calls Yba.prog 4 #[.bool bl, .bool hp, .slice ak nk ck, .slice av nv cv, .int .u8 sel, .string f, .int .u64 s, .string p] w fun e w' => e = .returned (.bool true) ∧ Below w.heap.size w w' := by
  by_cases h1 : (1024 : Int) < (nk : Int)
  · go_enter Yba.func4, Yba.ntmps4
    go_wp2_with fail
    go_ret
    exact ⟨rfl, Below.refl _ _⟩
  · have h2 : (1024 : Int) < (nv : Int) := h.resolve_left h1
    go_enter Yba.func4, Yba.ntmps4
    go_wp2_with fail
    go_ret
    exact ⟨rfl, Below.refl _ _⟩

/-- the world at the call of deferLocked -/
def tailW (W : World) (bl : Bool) (pp : Value) (f : ByteArray) (s : Int) : World := ((W.alloc (.cells (memC bl pp (W.heap.size + 1)) 139)).alloc (.map #[] 0)).alloc (.cells (msgA f s 0) 49)

theorem tail_facts (W : World) (bl : Bool) (pp : Value) (f : ByteArray) (s : Int) : (IsMsgC (tailW W bl pp f s) (.pointer (some ⟨W.heap.size + 1 + 1, 0, none⟩)) ∧ rowC (tailW W bl pp f s) (.pointer (some ⟨W.heap.size + 1 + 1, 0, none⟩)) = msgA f s 0) ∧ MemAt (tailW W bl pp f s) W.heap.size (W.heap.size + 1) (memC bl pp (W.heap.size + 1)) bl pp ∧ Gr W (tailW W bl pp f s) (fun _ => False) := by
  have n1 := heap_alloc_new W (.cells (memC bl pp (W.heap.size + 1)) 139)
  have g1 := gr_alloc W (.cells (memC bl pp (W.heap.size + 1)) 139)
  have s1 : (W.alloc (.cells (memC bl pp (W.heap.size + 1)) 139)).heap.size = W.heap.size + 1 := by simp
  unfold tailW
  generalize (W.alloc (.cells (memC bl pp (W.heap.size + 1)) 139)) = W1 at n1 g1 s1 ⊢
  have n2 := heap_alloc_new W1 (.map #[] 0)
  have g2 := gr_alloc W1 (.map #[] 0)
  have s2 : (W1.alloc (.map #[] 0)).heap.size = W.heap.size + 1 + 1 := by simp [s1]
  rw [s1] at n2
  generalize (W1.alloc (.map #[] 0)) = W2 at n2 g2 s2 ⊢
  have n3 := heap_alloc_new W2 (.cells (msgA f s 0) 49)
  have g3 := gr_alloc W2 (.cells (msgA f s 0) 49)
  rw [s2] at n3
  generalize (W2.alloc (.cells (msgA f s 0) 49)) = W3 at n3 g3 ⊢
  exact ⟨⟨isMsgC_of n3, rowC_of n3⟩, memC_at (grSame g3 (grSame g2 n1 (fun h => h)) (fun h => h)) (grSame g3 n2 (fun h => h)), ((g1.trans g2).trans g3).mono fun x _ h => by rcases h with (h | h) | h <;> exact h⟩

theorem keys_len {w : World} {b : Nat} (h : w.heap[b]? = some (.map #[] 0)) (ty : TypeId) : (Builtin.len_ #[129] ty #[.map (some b)]).run Yba.prog w = .ok (.int .i64 0) w := by
  have := (empty_owns h).len Yba.underlying129 ty
  exact this

set_option maxHeartbeats 4000000 in
set_option maxRecDepth 100000 in
theorem decide_free (ak av : Option Addr) (nk ck nv cv : Nat) (sel : Int) (f p : ByteArray) (s : Int) (w : World) (h1 : ¬ (1024 : Int) < (nk : Int)) (h2 : ¬ (1024 : Int) < (nv : Int)) :
    Calls Yba.prog 4 #[.bool false, .bool false, .slice ak nk ck, .slice av nv cv, .int .u8 sel, .string f, .int .u64 s, .string p] w fun e w' => e = .returned (.bool true) ∧ Below w.heap.size w w' := by
  have hmm := @run_makeMap Yba.prog
  have e1 := mem116
  have e2 := mem123
  have e3 := mem195
  obtain ⟨⟨i9, r9⟩, hm9, g9⟩ := tail_facts w false (.pointer none) f s
  unfold tailW memC at i9 r9
  have CD := hid (defer_free w.heap.size (w.heap.size + 1) _ none p f s _ hm9)
  have HM := hid hm9
  have HG := hid g9
  clear hm9 g9
  go_enter Yba.func4, Yba.ntmps4
  go_wp2_with fail
  refine CD.out.mono ?_
  rintro e w9 ⟨rfl, hd⟩
  have hd : Gr (tailW w false (.pointer none) f s) w9 (fun _ => False) := hd
  have hm := HM.out.gr hd
  have c1 := (cell_is hm.m hm.copies).1
  have c2 := (cell_is hm.m hm.keys).1
  have c3 := (cell_is hm.m hm.peers).1
  have c4 := (cell_is hm.m hm.blocked).1
  have c5 := (cell_is hm.m hm.pending).1
  have lk := keys_len hm.map
  have HB := hid (((HG.out.trans hd).mono (T := fun _ => False) fun x _ h => by rcases h with h | h <;> exact h).below (Below.refl _ w) (Nat.le_refl _) (fun _ h => h.elim))
  clear hm hd CD HM HG i9 r9 e1 e2 e3 hmm
  go_wp2_with fail
  go_ret
  exact ⟨rfl, HB.out⟩

/-- what add leaves of the member -/
theorem add_facts {w w' : World} {Mb bm : Nat} {cur : Array Value} {bl : Bool} {pp : Value} (hm : MemAt w Mb bm cur bl pp) (h : AddPost w w' Mb bm cur) : w'.cell? ⟨Mb, 123, none⟩ = some (.bool bl) ∧ w'.cell? ⟨Mb, 195, none⟩ = some pp := by
  obtain ⟨_, v0, v2, hh⟩ := h
  constructor
  · rw [heap_cell hh, Array.getElem?_setIfInBounds_ne (by omega), Array.getElem?_setIfInBounds_ne (by omega)]
    exact hm.blocked
  · rw [heap_cell hh, Array.getElem?_setIfInBounds_ne (by omega), Array.getElem?_setIfInBounds_ne (by omega)]
    exact hm.pending

set_option maxHeartbeats 4000000 in
set_option maxRecDepth 100000 in
theorem decide_nil (ak av : Option Addr) (nk ck nv cv : Nat) (sel : Int) (f p : ByteArray) (s : Int) (w : World) (kl : Lit) (hk : keyOf Yba.prog 59 (.agg (keyV p f s 0)) = some kl) (h1 : ¬ (1024 : Int) < (nk : Int)) (h2 : ¬ (1024 : Int) < (nv : Int)) :
    Calls Yba.prog 4 #[.bool true, .bool false, .slice ak nk ck, .slice av nv cv, .int .u8 sel, .string f, .int .u64 s, .string p] w fun e w' => e = .returned (.bool true) ∧ Below w.heap.size w w' := by
  have hmm := @run_makeMap Yba.prog
  have e1 := mem116
  have e2 := mem123
  have e3 := mem195
  obtain ⟨⟨i9, r9⟩, hm9, g9⟩ := tail_facts w true (.pointer none) f s
  unfold tailW memC at i9 r9
  have CD := hid (defer_nil w.heap.size (w.heap.size + 1) _ p f s _ kl hm9 hk)
  have HM := hid hm9
  have HG := hid g9
  clear hm9 g9
  go_enter Yba.func4, Yba.ntmps4
  go_wp2_with fail
  refine CD.out.mono ?_
  rintro e w9 ⟨rfl, hd⟩
  have hd : AddPost (tailW w true (.pointer none) f s) w9 _ _ _ := hd
  obtain ⟨c4, c5⟩ := add_facts HM.out hd
  have HB := hid ((HG.out.trans hd.1).below (Below.refl w.heap.size w) (Nat.le_refl _) (fun k h => by
    rcases h with h | h | h
    · exact h.elim
    · omega
    · omega))
  clear hd CD HM HG i9 r9 e1 e2 e3 hmm
  go_wp2_with fail
  go_ret
  exact ⟨rfl, HB.out⟩
end Go.Proofs.Ybulkctac
