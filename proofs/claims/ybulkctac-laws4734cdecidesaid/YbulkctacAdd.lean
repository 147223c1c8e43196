/-
  (*asideCopies).add on empty copies
-/
import Derived.Test.YbulkctacOpsC
import Derived.Test.YbulkctacSearch
import Derived.ArgAppend
import Derived.OwnWalk
import Derived.Deep.RegionHeld3
import Derived.Deep.RegionLaw
namespace Go.Proofs.Ybulkctac
open Go.RowKit
open Go.Maps (Keyed)
set_option linter.unusedVariables false
set_option linter.unusedSimpArgs false
attribute [local go_sem ↓ high] ex_loadMsg ex_boxMsg ex_buildCopy ex_sliceCopy
attribute [local go_sem high] run_loadMsg run_boxMsg run_buildCopy run_sliceCopy

/-! ### the map of the keys -/
def boolR : Value → Option (DataW Unit × List MemPlace)
  | .bool x => some (.lit (.bool x), [])
  | _ => none
theorem boolR_inv {v : Value} {x : Bool} {ps : List MemPlace} (h : boolR v = some (.lit (.bool x), ps)) : v = .bool x := by
  unfold boolR at h
  split at h
  · simp at h; rw [h.1]
  · cases h
theorem zero4 (w : World) : (zeroValue 4).run Yba.prog w = .ok (.bool false) w := by kernel_rfl
theorem empty_owns {w : World} {b : Nat} (h : w.heap[b]? = some (.map #[] 0)) : w.ownsMap Yba.prog 59 boolR b 0 (.map []) := ⟨#[], 0, h, ⟨by simp, MapKept.stamped_empty 0, by simp⟩, Nat.le_refl _, rfl⟩
theorem look_empty {w : World} {b : Nat} (h : w.heap[b]? = some (.map #[] 0)) {key : Value} {kl : Lit} (hk : keyOf Yba.prog 59 key = some kl) : (Instr.lookup 129 (.map (some b)) key false).run Yba.prog w = .ok (.bool false) w := by
  obtain ⟨v, ps, hrun, hR⟩ := (empty_owns h).lookup law59 Yba.underlying129 (zero4 w) (zd := .lit (.bool false)) (zp := []) rfl hk
  rw [hrun, boolR_inv hR]
theorem store_empty {w : World} {b : Nat} (h : w.heap[b]? = some (.map #[] 0)) {key : Value} {kl : Lit} (hk : keyOf Yba.prog 59 key = some kl) : ∃ w', (Instr.mapUpdate 129 (.map (some b)) key (.bool true)).run Yba.prog w = .ok () w' ∧ w.grownBy w' (some b) := by
  obtain ⟨w', hrun, _, hg⟩ := (empty_owns h).update law59 Yba.underlying129 (by unfold maxLen; omega) hk (val := .bool true) (d := .lit (.bool true)) (ps := []) rfl
  exact ⟨w', hrun, hg⟩

theorem grSame {w w' : World} {S : Nat → Prop} (h : Gr w w' S) {j : Nat} {o : Obj} (hj : w.heap[j]? = some o) (hn : ¬ S j) : w'.heap[j]? = some o := (h.block j (heap_lt hj) hn).trans hj

theorem gr_drew' (w : World) : Gr w w.drew (fun _ => False) := ⟨rfl, rfl, rfl, Nat.le_refl _, fun _ _ _ => rfl⟩

theorem eq_map (b : Nat) (w : World) : (binOp .eql 129 (.map (some b)) (.map none)).run Yba.prog w = .ok (.bool false) w := by kernel_rfl

section
variable (ρ : Operand → Value) (dst : Option Tmp) (x y z : Operand) (ty : TypeId) (pos : String) (after : Array Edge) (guard : Option (Nat × Bool))
theorem px_loadMsg : execOp ρ { dst, op := .load 49 x, type := ty, pos, after, guard } = loadMsg (ρ x) := ex_loadMsg ..
theorem px_buildCopy : execOp ρ { dst, op := .build 153 #[(0, x), (1, y), (2, z)], type := ty, pos, after, guard } = buildCopy (ρ x) (ρ y) (ρ z) := ex_buildCopy ..
theorem px_sliceCopy : execOp ρ { dst, op := .buildSlice 128 1 #[(0, x)], type := ty, pos, after, guard } = sliceCopy (ρ x) := ex_sliceCopy ..
end
attribute [local go_sem high] px_loadMsg px_buildCopy px_sliceCopy

/-- append(nil, one copy) -/
theorem app_copy (p f : ByteArray) (s : Int) (w : World) (g : Nat) (hg : w.heap[g]? = some (.cells (copyA p f s) 153 (0, 0))) (ty : TypeId) :
    ∃ cap w', (Builtin.append_ #[128, 128] ty #[.slice none 0 0, .slice (some ⟨g, 0, none⟩) 1 1]).run Yba.prog w = .ok (.slice (some ⟨w.heap.size, 0, none⟩) 1 cap) w' ∧ Gr w w' (fun _ => False) := by
  have hi0 : ((Yba.prog.info? 153).map (fun i => (i.size, i.bytes))).isSome = true := by kernel_rfl
  obtain ⟨i, hi⟩ : ∃ i, Yba.prog.info? 153 = some i := by
    cases h : Yba.prog.info? 153 with
    | none => rw [h] at hi0; cases hi0
    | some i => exact ⟨i, rfl⟩
  have hsz : i.size = 37 := by
    have h : (Yba.prog.info? 153).map (·.size) = some 37 := by kernel_rfl
    rw [hi] at h; simpa using h
  have hby : i.bytes ≤ 1000 := by
    have h : (Yba.prog.info? 153).map (fun i => decide (i.bytes ≤ 1000)) = some true := by kernel_rfl
    rw [hi] at h; simpa using h
  have hz0 : (Yba.prog.info? 153).map (fun i => i.zero.isSome) = some true := by kernel_rfl
  obtain ⟨z, hz⟩ : ∃ z, i.zero = some z := by
    rw [hi] at hz0
    cases h : i.zero with
    | none => simp [h] at hz0
    | some z => exact ⟨z, rfl⟩
  have hr := run_append_nil (P := Yba.prog) w 128 ty 153 i z Yba.underlying128 hi hz ⟨g, 0, none⟩ 1 1 (copyA p f s).toList (by rw [hsz]; simp [copyA, msgA]) (fun j v hj => by
    have : (⟨g, 0, none⟩ : Addr).add j = ⟨g, j, none⟩ := by unfold Addr.add; split <;> simp_all
    rw [this, heap_cell hg]
    simpa using hj) (by omega) (by omega) (by omega)
  exact ⟨_, _, hr, ⟨rfl, rfl, rfl, by simp, fun k hk _ => Below.heap_alloc w.drew _ k hk⟩⟩

/-- append(nil, one copy), a step of a region that draws -/
theorem step_app_copy {ops : Array Oper} {o : Oper} {a : Act} {w : World} {K : Act → World → Prop} {Q : Exit → Act → World → Prop} {E : Prop} (hg : o.guard = none) (s x : Operand) (hop : o.op = Op.call { callee := Callee.builtin Builtin.append, args := #[s, x], argTypes := #[128, 128] })
    (p f : ByteArray) (t : Int) (g : Nat) (hs : a.eval s = .slice none 0 0) (hx : a.eval x = .slice (some ⟨g, 0, none⟩) 1 1) (hrow : w.heap[g]? = some (.cells (copyA p f t) 153 (0, 0)))
    (hK : ∀ cap w', Gr w w' (fun _ => False) → K (a.put o.dst (.slice (some ⟨w.heap.size, 0, none⟩) 1 cap)) w') : if Region.wanted o (yielded ops a.tmps) = true then Oper.wp Yba.prog o a w K Q else E := by
  have hw : Region.wanted o (yielded ops a.tmps) = true := by simp [Region.wanted, hg]
  rw [if_pos hw]
  obtain ⟨cap, w', hrun, hgr⟩ := app_copy p f t w g hrow o.type
  unfold Oper.wp
  simp [execOp, hop, resolve, invoke, builtin, hs, hx, hrun, Result.andThen]
  exact hK cap w' hgr

def AddPost (w w' : World) (Mb bm : Nat) (cur : Array Value) : Prop := Gr w w' (fun x => x = Mb ∨ x = bm) ∧ ∃ v0 v2, w'.heap[Mb]? = some (.cells ((cur.setIfInBounds 115 v0).setIfInBounds 117 v2) 139 (0, 0))

theorem add_cell {w3 w4 : World} {o : Obj} {Mb : Nat} {cur : Array Value} (g4 : Gr (w3.alloc o).drew w4 (fun _ => False)) (hM : w3.heap[Mb]? = some (.cells cur 139 (0, 0))) : w4.heap[Mb]? = some (.cells cur 139 (0, 0)) :=
  grSame g4 (heap_alloc_some' hM o) (fun h => h)
theorem cell_is {w : World} {g : Nat} {cur : Array Value} {e : TypeId} (h : w.heap[g]? = some (.cells cur e (0, 0))) {j : Nat} {v : Value} (hv : cur[j]? = some v) : w.cell? ⟨g, j, none⟩ = some v ∧ w.frozen? ⟨g, j, none⟩ = false := ⟨by rw [heap_cell h]; exact hv, heap_frozen h j⟩

set_option maxHeartbeats 4000000 in
set_option maxRecDepth 100000 in
theorem add_any (Mb bm : Nat) (p f : ByteArray) (s : Int) (w : World) (kl : Lit) (cur : Array Value) (hM : w.heap[Mb]? = some (.cells cur 139 (0, 0))) (h0 : cur[115]? = some (.slice none 0 0)) (h1 : cur[116]? = some (.map (some bm))) (h2 : cur[117]? = some (.slice none 0 0))
    (hb : w.heap[bm]? = some (.map #[] 0)) (hk : keyOf Yba.prog 59 (.agg (keyV p f s 0)) = some kl) :
    Calls Yba.prog 15 #[.pointer (some ⟨Mb, 115, none⟩), .string p, .agg (msgA f s 0), .bool false] w fun e w' => e = .returned (.tuple #[]) ∧ AddPost w w' Mb bm cur := by
  have c0 : w.cell? ⟨Mb, 115, none⟩ = some (.slice none 0 0) := by rw [heap_cell hM]; exact h0
  have c1 : w.cell? ⟨Mb, 116, none⟩ = some (.map (some bm)) := by rw [heap_cell hM]; exact h1
  have c2 : w.cell? ⟨Mb, 117, none⟩ = some (.slice none 0 0) := by rw [heap_cell hM]; exact h2
  have f0 := heap_frozen hM 115
  have f1 := heap_frozen hM 116
  have f2 := heap_frozen hM 117
  -- the world at the look-up
  have m1 : (w.alloc (.cells (msgA f s 0) 49)).heap[w.heap.size]? = some (.cells (msgA f s 0) 49 (0, 0)) := heap_alloc_new w _
  have i1 := isMsgC_of m1
  have r1 := rowC_of m1
  have CK := hid (fun w => keyOf_any p f s 0 w)
  unfold keyV at CK hk
  have HM := hid hM
  have HB := hid hb
  have HM1 := hid m1
  clear hM hb m1
  go_enter Yba.func15, Yba.ntmps15
  go_wp2_with fail
  refine (CK.out _).mono ?_
  rintro e w2 ⟨rfl, rfl⟩
  go_wp2_with fail
  have gA := ((gr_alloc w (.cells (msgA f s 0) 49)).trans (gr_alloc _ (.cells (msgA f s 0) 49))).trans ((gr_alloc _ (.cells #[.string p, .string f, .int .u64 s, .int .u8 0] 59)).trans (gr_alloc _ (.cells #[.string p, .string f, .int .u64 s, .int .u8 0] 59)))
  have gA2 := ((gr_alloc (w.alloc (.cells (msgA f s 0) 49)) (.cells (msgA f s 0) 49))).trans ((gr_alloc _ (.cells #[.string p, .string f, .int .u64 s, .int .u8 0] 59)).trans (gr_alloc _ (.cells #[.string p, .string f, .int .u64 s, .int .u8 0] 59)))
  have kA := heap_alloc_new (((w.alloc (.cells (msgA f s 0) 49)).alloc (.cells (msgA f s 0) 49)).alloc (.cells #[.string p, .string f, .int .u64 s, .int .u8 0] 59)) (.cells #[.string p, .string f, .int .u64 s, .int .u8 0] 59)
  have eS : (((w.alloc (.cells (msgA f s 0) 49)).alloc (.cells (msgA f s 0) 49)).alloc (.cells #[.string p, .string f, .int .u64 s, .int .u8 0] 59)).heap.size = w.heap.size + 1 + 1 + 1 := by simp
  rw [eS] at kA
  clear eS
  generalize ((((w.alloc (.cells (msgA f s 0) 49)).alloc (.cells (msgA f s 0) 49)).alloc (.cells #[.string p, .string f, .int .u64 s, .int .u8 0] 59)).alloc (.cells #[.string p, .string f, .int .u64 s, .int .u8 0] 59)) = wA at gA gA2 kA ⊢
  have gWA : Gr w wA (fun _ => False) := gA.mono fun x _ h => by
    rcases h with (h | h) | (h | h) <;> exact h
  have hMA := grSame gWA HM.out (fun h => h)
  have hBA := grSame gWA HB.out (fun h => h)
  have hmA := grSame gA2 HM1.out (fun h => by rcases h with h | (h | h) <;> exact h)
  clear gA gA2 i1 r1 c0 c1 c2 f0 f1 f2
  have d1 : wA.cell? ⟨Mb, 116, none⟩ = some (.map (some bm)) := by rw [heap_cell hMA]; exact h1
  have k0 : wA.cell? ⟨w.heap.size + 1 + 1 + 1, 0, none⟩ = some (.string p) := heap_cell kA 0
  have k1 : wA.cell? ⟨w.heap.size + 1 + 1 + 1, 1, none⟩ = some (.string f) := heap_cell kA 1
  have k2 : wA.cell? ⟨w.heap.size + 1 + 1 + 1, 2, none⟩ = some (.int .u64 s) := heap_cell kA 2
  have k3 : wA.cell? ⟨w.heap.size + 1 + 1 + 1, 3, none⟩ = some (.int .u8 0) := heap_cell kA 3
  have lk : ∀ q, (Instr.lookup 129 (.map (some bm)) (.agg #[.string p, .string f, .int .u64 s, .int .u8 0]) false).run Yba.prog (wA.drewN q) = .ok (.bool false) (wA.drewN q) := fun q => look_empty (w := wA.drewN q) hBA hk
  have HMA := hid hMA
  have HBA := hid hBA
  have HmA := hid hmA
  have HKA := hid kA
  clear hMA hBA hmA kA HM1
  have em := eq_map bm
  go_quiet (fail)
  go_wp2_with fail
  obtain ⟨w3, hst, hg3⟩ := store_empty (w := (wA.drewN nq).drew) HBA.out hk
  have gB : Gr wA w3 (fun x => x = bm) := (((gr_drewN wA nq).trans (gr_drew' (wA.drewN nq))).trans (gr_grown hg3)).mono fun x _ h => by
    rcases h with (h | h) | h
    · exact h.elim
    · exact h.elim
    · simpa using h
  have e1 : (wA.drewN nq).cell? ⟨Mb, 116, none⟩ = some (.map (some bm)) := d1
  have e2 : (wA.drewN nq).cell? ⟨w.heap.size + 1 + 1 + 1, 0, none⟩ = some (.string p) := k0
  have e3 : (wA.drewN nq).cell? ⟨w.heap.size + 1 + 1 + 1, 1, none⟩ = some (.string f) := k1
  have e4 : (wA.drewN nq).cell? ⟨w.heap.size + 1 + 1 + 1, 2, none⟩ = some (.int .u64 s) := k2
  have e5 : (wA.drewN nq).cell? ⟨w.heap.size + 1 + 1 + 1, 3, none⟩ = some (.int .u8 0) := k3
  clear d1 k0 k1 k2 k3 lk em
  generalize wA.drewN nq = wB at *
  have nM : Mb ≠ bm := fun e => by have := HMA.out; rw [e, HBA.out] at this; cases this
  have nK : w.heap.size + 1 + 1 + 1 ≠ bm := fun e => by have := HKA.out; rw [e, HBA.out] at this; cases this
  have nm' : w.heap.size ≠ bm := fun e => by have := HmA.out; rw [e, HBA.out] at this; cases this
  have hM3 := grSame gB HMA.out nM
  have hK3 := grSame gB HKA.out nK
  have hm3 := grSame gB HmA.out nm'
  have l1 : w3.cell? ⟨Mb, 116, none⟩ = some (.map (some bm)) := by rw [heap_cell hM3]; exact h1
  have l2 : w3.cell? ⟨w.heap.size + 1 + 1 + 1, 0, none⟩ = some (.string p) := heap_cell hK3 0
  have l3 : w3.cell? ⟨w.heap.size + 1 + 1 + 1, 1, none⟩ = some (.string f) := heap_cell hK3 1
  have l4 : w3.cell? ⟨w.heap.size + 1 + 1 + 1, 2, none⟩ = some (.int .u64 s) := heap_cell hK3 2
  have l5 : w3.cell? ⟨w.heap.size + 1 + 1 + 1, 3, none⟩ = some (.int .u8 0) := heap_cell hK3 3
  have HG3 := hid hg3
  have HGB := hid gB
  have HM3 := hid hM3
  have Hm3 := hid hm3
  clear hg3 gB hM3 hK3 hm3
  go_region_held3 (fun w' => w'.cell? ⟨Mb, 116, none⟩ = some (.map (some bm)) ∧ w'.cell? ⟨w.heap.size + 1 + 1 + 1, 0, none⟩ = some (.string p) ∧ w'.cell? ⟨w.heap.size + 1 + 1 + 1, 1, none⟩ = some (.string f) ∧ w'.cell? ⟨w.heap.size + 1 + 1 + 1, 2, none⟩ = some (.int .u64 s) ∧ w'.cell? ⟨w.heap.size + 1 + 1 + 1, 3, none⟩ = some (.int .u8 0)) (go_keep) (fail)
  clear l1 l2 l3 l4 l5 e1 e2 e3 e4 e5 hst
  have c0 : w3.cell? ⟨Mb, 115, none⟩ = some (.slice none 0 0) := by rw [heap_cell HM3.out]; exact h0
  have c0a := (cell_is (heap_alloc_some' HM3.out (.cells (copyA p f s) 153)) h0).1
  have f0 := heap_frozen HM3.out 115
  have i3 := isMsgC_of Hm3.out
  have r3 := rowC_of Hm3.out
  have ia : ∀ (W : World) (x : Value) (o : Obj), IsMsgC W x → IsMsgC (W.alloc o) x := fun W x o h => isMsgC_alloc h o
  have ra : ∀ (W : World) (x : Value) (o : Obj), IsMsgC W x → rowC (W.alloc o) x = rowC W x := fun W x o h => rowC_alloc h o
  have id' := isMsgC_drew
  have rd' := rowC_drew
  have idn := isMsgC_drewN
  have rdn := rowC_drewN
  go_wp2_with fail
  go_region_law (refine step_app_copy rfl (.tmp 38) (.tmp 43) rfl p f s w3.heap.size rfl rfl (by first | exact heap_alloc_new w3 _ | exact heap_alloc_new w3.drew _) ?_; intro cap w4 g4; have hM4 := hid (add_cell g4 HM3.out); obtain ⟨c4, f4⟩ := cell_is hM4.out h0)
  all_goals
    have hM5 := heap_set_same hM4.out 115 (.slice (some ⟨w3.heap.size + 1, 0, none⟩) 1 cap)
    have G5 : Gr w (w4.setCell ⟨Mb, 115, none⟩ (.slice (some ⟨w3.heap.size + 1, 0, none⟩) 1 cap)) (fun x => x = Mb ∨ x = bm) := ((((gWA.trans HGB.out).trans ((gr_alloc w3 (.cells (copyA p f s) 153)).trans (gr_drew' _))).trans g4).trans (gr_set w4 ⟨Mb, 115, none⟩ _)).mono fun x _ h => by
      rcases h with (((h | h) | (h | h)) | h) | h
      · exact h.elim
      · exact .inr h
      · exact h.elim
      · exact h.elim
      · exact h.elim
      · exact .inl h
    generalize (w4.setCell ⟨Mb, 115, none⟩ (.slice (some ⟨w3.heap.size + 1, 0, none⟩) 1 cap)) = w5 at hM5 G5 ⊢
    have h25 : (cur.setIfInBounds 115 (.slice (some ⟨w3.heap.size + 1, 0, none⟩) 1 cap))[117]? = some (.slice none 0 0) := by
      rw [Array.getElem?_setIfInBounds_ne (by omega)]; exact h2
    obtain ⟨c5, f5⟩ := cell_is hM5 h25
    have HM5 := hid hM5
    have HG5 := hid G5
    have CS := hid (fun w => search_nil p w)
    clear hM5 G5 h25 c4 f4 g4 c0 c0a f0 i3 r3 ia ra id' rd' idn rdn CK
    go_wp2_with fail
    refine (CS.out _).mono ?_
    rintro e w6 ⟨rfl, rfl⟩
    have n5 := heap_alloc_new w5 (.cells #[.string p] 9)
    have CI := hid (insert_nil w5.heap.size 1 p (w5.alloc (.cells #[.string p] 9)) (heap_cell n5 0))
    clear n5
    go_wp2_with fail
    refine CI.out.mono ?_
    rintro e w7 ⟨x, cap7, rfl, g7⟩
    have hM7 := grSame g7 (heap_alloc_some' HM5.out (.cells #[.string p] 9)) (fun h => h)
    have hq := heap_set_same hM7 117 (.slice (some ⟨x, 0, none⟩) 1 cap7)
    have G7 := ((HG5.out.trans ((gr_alloc w5 (.cells #[.string p] 9)).trans g7)).trans (gr_set w7 ⟨Mb, 117, none⟩ (.slice (some ⟨x, 0, none⟩) 1 cap7))).mono (T := fun x => x = Mb ∨ x = bm) fun x _ h => by
      rcases h with (h | (h | h)) | h
      · exact h
      · exact h.elim
      · exact h.elim
      · exact .inl h
    have h27 : (cur.setIfInBounds 115 (.slice (some ⟨w3.heap.size + 1, 0, none⟩) 1 cap))[117]? = some (.slice none 0 0) := by
      rw [Array.getElem?_setIfInBounds_ne (by omega)]; exact h2
    obtain ⟨c7, f7⟩ := cell_is hM7 h27
    have HP : Hid (AddPost w (w7.setCell ⟨Mb, 117, none⟩ (.slice (some ⟨x, 0, none⟩) 1 cap7)) Mb bm cur) := ⟨G7, _, _, hq⟩
    clear g7 hM7 hq G7 h27 CI CS
    go_wp2_with fail
    go_end0
    exact ⟨rfl, HP.out⟩
end Go.Proofs.Ybulkctac
