/-
  (*unackedList).push
-/
import Derived.Test.YbulkctacMaps
import Derived.ArgAppend
import Derived.OwnWalk
import Derived.Deep.RegionHeld3
import Derived.Laws.CopyRow
namespace Go.Proofs.Ybulkctac
open Go.RowKit
open Go.Maps (Keyed)
set_option linter.unusedVariables false

theorem copy_nil (w : World) (ty : TypeId) : (Builtin.copy_ #[33, 33] ty #[.slice none 0 0, .slice none 0 0]).run Yba.prog w = .ok (.int .i64 0) w := by
  obtain ⟨i, hi, hz, hsz, hb⟩ := info_parts info50
  simp [Builtin.copy_, run_underlying Yba.underlying33, Builtin.lenOf, Builtin.firstCells, sizeOf, typeInfo, hi, goInt]
theorem clear_none (w : World) (ty : TypeId) (a : Option Addr) (c : Nat) : (Builtin.clear_ #[33] ty #[.slice a 0 c]).run Yba.prog w = .ok (.tuple #[]) w := by
  cases a <;> simp [Builtin.clear_, run_underlying Yba.underlying33]

/-- v is a row of pointers to the blocks xs; og: its block -/
def RowP (w : World) (v : Value) (og : Option Nat) (xs : List Nat) : Prop :=
  (og = none ∧ v = .slice none 0 0 ∧ xs = []) ∨
  ∃ g cap cur, og = some g ∧ v = .slice (some ⟨g, 0, none⟩) xs.length cap ∧ w.heap[g]? = some (.cells cur 50 (0, 0)) ∧ xs.length ≤ cap ∧ cur.size = cap ∧ ∀ (i x : Nat), xs[i]? = some x → cur[i]? = some (pv x)

theorem RowP.of_block {w w' : World} {v : Value} {og : Option Nat} {xs : List Nat} (h : RowP w v og xs) (hb : ∀ g, og = some g → w'.heap[g]? = w.heap[g]?) : RowP w' v og xs := by
  rcases h with h | ⟨g, cap, cur, h1, h2, h3, h4⟩
  · exact .inl h
  · exact .inr ⟨g, cap, cur, h1, h2, (hb g h1).trans h3, h4⟩

theorem getElem?_toArray_pv (xs : List Nat) (i x : Nat) (h : xs[i]? = some x) : (xs.map pv)[i]? = some (pv x) := by simp [h]

theorem run_appR {w : World} {v : Value} {og : Option Nat} {xs : List Nat} (h : RowP w v og xs) (hl : xs.length ≤ 100000) (ty : TypeId) (gx c u : Nat) (hu : w.cell? ⟨gx, 0, none⟩ = some (pv u)) :
    ∃ v' g' w', (Builtin.append_ #[33, 33] ty #[v, .slice (some ⟨gx, 0, none⟩) 1 c]).run Yba.prog w = .ok v' w' ∧ RowP w' v' (some g') (xs ++ [u]) ∧ (some g' = og ∨ g' = w.heap.size) ∧ w.grownBy w' og := by
  obtain ⟨i, hi, hz, hsz, hb⟩ := info_parts info50
  have hnews : ∀ j v, [pv u][j]? = some v → w.cell? ((⟨gx, 0, none⟩ : Addr).add j) = some v := fun j v hj => by
    match j, hj with
    | 0, hj => simp at hj; subst hj; simpa [Addr.add] using hu
  rcases h with ⟨rfl, rfl, rfl⟩ | ⟨g, cap, cur, rfl, rfl, hg, hnc, hcs, hcur⟩
  · have hr := run_append_nil (P := Yba.prog) w 33 ty 50 i (.pointer none) Yba.underlying33 hi hz ⟨gx, 0, none⟩ 1 c [pv u] (by rw [hsz]; rfl) hnews (by omega) (by omega) (by rw [hb]; omega)
    refine ⟨_, w.heap.size, _, hr, .inr ⟨w.heap.size, _, _, rfl, rfl, heap_alloc_new w.drew _, grownCap_ge w 1 0 50, ?_, fun j x hj => ?_⟩, .inr rfl, ⟨rfl, rfl, rfl, by simp, fun k hk _ => Below.heap_alloc w.drew _ k hk⟩⟩
    · have := grownCap_ge w 1 0 50
      simp [size_zeroCells, Value.cells]; omega
    · match j, hj with
      | 0, hj =>
        have : u = x := by simpa using hj
        subst this
        rw [Array.getElem?_append_left (by simp)]
        rfl
  · by_cases hroom : xs.length + 1 ≤ cap
    · have hrun := run_append_room_cells (P := Yba.prog) w 33 ty 50 i Yba.underlying33 hi g 0 xs.length cap ⟨gx, 0, none⟩ 1 c [pv u] (by rw [hsz]; rfl) hnews (by simp [pv, Value.oneCell']) hroom
        (fun j hj => by
          obtain rfl : j = 0 := by simpa using hj
          rw [heap_cell hg, hsz]
          simp
          omega) (fun j hj => heap_frozen hg _)
      rw [hsz, Nat.mul_one, Nat.zero_add] at hrun
      refine ⟨_, g, _, hrun, .inr ⟨g, cap, cur.setIfInBounds xs.length (pv u), rfl, by rw [List.length_append]; rfl, ?_, by simpa using hroom, by simpa using hcs, fun j x hj => ?_⟩, .inl rfl, ?_⟩
      · exact heap_set_same hg _ _
      · by_cases hj2 : j < xs.length
        · rw [List.getElem?_append_left hj2] at hj
          rw [Array.getElem?_setIfInBounds_ne (by omega)]
          exact hcur j x hj
        · have hj3 : j = xs.length := by
            have := (List.getElem?_eq_some_iff.1 hj).1
            simp at this; omega
          subst hj3
          obtain rfl : u = x := by simpa using hj
          rw [Array.getElem?_setIfInBounds_self_of_lt (by omega)]
      · exact ⟨rfl, rfl, rfl, by simp [World.setCells, World.setCell], fun k hk hne => heap_set_other w _ _ k (fun e => hne (by rw [e]))⟩
    · have holds : ∀ j v, (xs.map pv)[j]? = some v → w.cell? ((⟨g, 0, none⟩ : Addr).add j) = some v := fun j v hj => by
        rw [List.getElem?_map] at hj
        obtain ⟨x, hx, rfl⟩ := Option.map_eq_some_iff.1 hj
        have : (⟨g, 0, none⟩ : Addr).add j = ⟨g, j, none⟩ := by unfold Addr.add; split <;> simp_all
        rw [this, heap_cell hg]
        exact hcur j x hx
      have hr := run_append_grow (P := Yba.prog) w 33 ty 50 i (.pointer none) Yba.underlying33 hi hz ⟨g, 0, none⟩ xs.length cap (xs.map pv) (by rw [hsz]; simp) holds ⟨gx, 0, none⟩ 1 c [pv u] (by rw [hsz]; rfl) hnews (by omega) (by omega) (growslice_fits (by omega) (by rw [hb]; omega))
      have hge := grownCap_ge w (xs.length + 1) cap 50
      refine ⟨_, w.heap.size, _, hr, .inr ⟨w.heap.size, _, _, rfl, by rw [List.length_append]; rfl, heap_alloc_new w.drew _, by rw [List.length_append]; exact hge, ?_, fun j x hj => ?_⟩, .inr rfl, ⟨rfl, rfl, rfl, by simp, fun k hk _ => Below.heap_alloc w.drew _ k hk⟩⟩
      · simp [size_zeroCells, Value.cells]; omega
      · have hjl := (List.getElem?_eq_some_iff.1 hj).1
        have : (xs.map pv ++ [pv u])[j]? = some (pv x) := by
          have := getElem?_toArray_pv _ _ _ hj
          simpa using this
        rw [Array.getElem?_append_left (by simpa using hjl)]
        simpa using this

section
variable {w : World} {ops : Array Oper} {rest : List Oper} {o : Oper} {a : Act} {Q : Exit → Act → World → Prop}
theorem wp_appR (hgd : o.guard = none) (s x : Operand) (ho : o.op = .call { callee := .builtin .append, args := #[s, x], argTypes := #[33, 33] })
    {v : Value} {og : Option Nat} {xs : List Nat} (hs : a.eval s = v) (hrow : RowP w v og xs) (hl : xs.length ≤ 100000) (gx c u : Nat) (hx : a.eval x = .slice (some ⟨gx, 0, none⟩) 1 c) (hu : w.cell? ⟨gx, 0, none⟩ = some (pv u))
    (h : ∀ v' g' w', RowP w' v' (some g') (xs ++ [u]) → (some g' = og ∨ g' = w.heap.size) → w.grownBy w' og → wpList Yba.prog ops Q rest (a.put o.dst v') w') : wpList Yba.prog ops Q (o :: rest) a w := by
  obtain ⟨v', g', w', hrun, h1, h2, h3⟩ := run_appR hrow hl o.type gx c u hu
  refine wpList_plain hgd fun K hK => ?_
  unfold Oper.wp
  simp [execOp, ho, resolve, invoke, builtin, hs, hx, hrun, Result.andThen]
  exact hK _ _ (h v' g' w' h1 h2 h3)
end

structure Gr (w w' : World) (S : Nat → Prop) : Prop where
  os : w'.os = w.os
  tape : w'.tape = w.tape
  output : w'.output = w.output
  size : w.heap.size ≤ w'.heap.size
  block : ∀ k, k < w.heap.size → ¬ S k → w'.heap[k]? = w.heap[k]?

theorem Gr.trans {w w1 w2 : World} {S T : Nat → Prop} (h : Gr w w1 S) (h' : Gr w1 w2 T) : Gr w w2 (fun k => S k ∨ T k) :=
  ⟨h'.os.trans h.os, h'.tape.trans h.tape, h'.output.trans h.output, Nat.le_trans h.size h'.size, fun k hk hn => (h'.block k (Nat.lt_of_lt_of_le hk h.size) (fun e => hn (.inr e))).trans (h.block k hk (fun e => hn (.inl e)))⟩
theorem Gr.mono {w w1 : World} {S T : Nat → Prop} (h : Gr w w1 S) (hs : ∀ k, k < w.heap.size → S k → T k) : Gr w w1 T :=
  ⟨h.os, h.tape, h.output, h.size, fun k hk hn => h.block k hk (fun e => hn (hs k hk e))⟩
theorem Gr.below {w0 w w1 : World} {S : Nat → Prop} {B : Nat} (hb : Below B w0 w) (hB : B ≤ w.heap.size) (h : Gr w w1 S) (hs : ∀ k, S k → B ≤ k) : Below B w0 w1 :=
  hb.trans ⟨h.os, h.tape, h.output, h.size, fun k hk => h.block k (by omega) (fun e => by have := hs k e; omega)⟩
theorem gr_set (w : World) (a : Addr) (v : Value) : Gr w (w.setCell a v) (fun k => k = a.block) := ⟨rfl, rfl, rfl, by simp [World.setCell], fun k _ hk => heap_set_other w a v k hk⟩
theorem gr_alloc (w : World) (o : Obj) : Gr w (w.alloc o) (fun _ => False) := ⟨rfl, rfl, rfl, by simp, fun k hk _ => Below.heap_alloc w o k hk⟩
theorem gr_grown {w w' : World} {og : Option Nat} (h : w.grownBy w' og) : Gr w w' (fun k => some k = og) := ⟨h.os, h.tape, h.output, h.size, h.block⟩
theorem gr_drewN (w : World) (q : Nat) : Gr w (w.drewN q) (fun _ => False) := ⟨rfl, rfl, rfl, Nat.le_refl _, fun _ _ _ => rfl⟩

def PushPost (w w' : World) (L U : Nat) (t : ByteArray) (m i : Nat) (og : Option Nat) (xs : List Nat) : Prop :=
  ∃ v' g', w'.heap[L]? = some (.cells #[v', .int .i64 0, .int .u64 0] 61 (0, 0)) ∧ w'.heap[U]? = some (.cells (unA t m i (pv L) xs.length) 53 (0, 0)) ∧ RowP w' v' (some g') (xs ++ [U]) ∧ (some g' = og ∨ w.heap.size ≤ g') ∧
    Gr w w' (fun k => k = L ∨ k = U ∨ some k = og)

/-- the world behind region 6 and the one-element row -/
def before (w : World) (L U n q : Nat) : World := (((w.drewN q).setCell ⟨U, 8, none⟩ (pv L)).setCell ⟨U, 9, none⟩ (.int .u64 n)).alloc (.cells #[pv U] 50)

theorem before_other (w : World) (L U n q k : Nat) (hk : k < w.heap.size) (hU : k ≠ U) : (before w L U n q).heap[k]? = w.heap[k]? := by
  unfold before
  rw [Below.heap_alloc _ _ _ (by simpa [World.setCell] using hk), heap_set_other _ _ _ _ hU, heap_set_other _ _ _ _ hU]
  rfl
theorem before_U {w : World} {L U n q m i : Nat} {t : ByteArray} (hU : w.heap[U]? = some (.cells (unA t m i (.pointer none) 0) 53 (0, 0))) : (before w L U n q).heap[U]? = some (.cells (unA t m i (pv L) n) 53 (0, 0)) := by
  unfold before
  rw [Below.heap_alloc _ _ _ (by have := heap_lt hU; simpa [World.setCell] using this)]
  have h1 := heap_set_same (w := w.drewN q) hU 8 (pv L)
  have h2 := heap_set_same h1 9 (.int .u64 n)
  rw [h2]
  rfl
theorem before_gr {w : World} (L U n q : Nat) : Gr w (before w L U n q) (fun k => k = U) := by
  have := (((gr_drewN w q).trans (gr_set _ ⟨U, 8, none⟩ (pv L))).trans (gr_set _ ⟨U, 9, none⟩ (.int .u64 n))).trans (gr_alloc _ (.cells #[pv U] 50))
  exact this.mono fun k _ h => by
    rcases h with ((h | h) | h) | h
    · exact h.elim
    · exact h
    · exact h
    · exact h.elim

theorem before_new (w : World) (L U n q : Nat) : (before w L U n q).cell? ⟨w.heap.size, 0, none⟩ = some (pv U) := by
  have hs : (((w.drewN q).setCell ⟨U, 8, none⟩ (pv L)).setCell ⟨U, 9, none⟩ (.int .u64 n)).heap.size = w.heap.size := by simp [World.setCell]
  have h := heap_alloc_new (((w.drewN q).setCell ⟨U, 8, none⟩ (pv L)).setCell ⟨U, 9, none⟩ (.int .u64 n)) (.cells #[pv U] 50)
  rw [hs] at h
  exact heap_cell h 0

theorem RowP.shape {w : World} {v : Value} {g : Nat} {xs : List Nat} (h : RowP w v (some g) xs) : ∃ cap, v = .slice (some ⟨g, 0, none⟩) xs.length cap := by
  rcases h with ⟨h, _⟩ | ⟨g', cap, cur, h, h2, _⟩
  · cases h
  · cases h; exact ⟨cap, h2⟩

theorem push_cell {w w3 : World} {L U n q : Nat} {v : Value} {og : Option Nat} (hL : w.heap[L]? = some (.cells #[v, .int .i64 0, .int .u64 0] 61 (0, 0))) (hne : L ≠ U) (hoL : some L ≠ og) (h3 : (before w L U n q).grownBy w3 og) : w3.cell? ⟨L, 0, none⟩ = some v ∧ w3.frozen? ⟨L, 0, none⟩ = false := by
  have gL : w3.heap[L]? = some (.cells #[v, .int .i64 0, .int .u64 0] 61 (0, 0)) := by
    rw [h3.block L (Nat.lt_of_lt_of_le (heap_lt hL) (before_gr (w := w) L U n q).size) hoL, before_other w L U _ q L (heap_lt hL) hne]; exact hL
  exact ⟨heap_cell gL 0, heap_frozen gL 0⟩

theorem push_post {w w3 : World} {L U n q m i g' : Nat} {t : ByteArray} {v v' : Value} {og : Option Nat} {xs : List Nat} (hn : n = xs.length) (hL : w.heap[L]? = some (.cells #[v, .int .i64 0, .int .u64 0] 61 (0, 0))) (hU : w.heap[U]? = some (.cells (unA t m i (.pointer none) 0) 53 (0, 0)))
    (hne : L ≠ U) (hoL : some L ≠ og) (hoU : some U ≠ og) (h1 : RowP w3 v' (some g') (xs ++ [U])) (h2 : some g' = og ∨ g' = (before w L U n q).heap.size) (h3 : (before w L U n q).grownBy w3 og) : PushPost w (w3.setCell ⟨L, 0, none⟩ v') L U t m i og xs := by
  subst hn
  have gb := before_gr (w := w) L U xs.length q
  have gL : w3.heap[L]? = some (.cells #[v, .int .i64 0, .int .u64 0] 61 (0, 0)) := by
    rw [h3.block L (Nat.lt_of_lt_of_le (heap_lt hL) gb.size) hoL, before_other w L U _ q L (heap_lt hL) hne]; exact hL
  have gU : w3.heap[U]? = some (.cells (unA t m i (pv L) xs.length) 53 (0, 0)) := by
    rw [h3.block U (Nat.lt_of_lt_of_le (heap_lt hU) gb.size) hoU]; exact before_U hU
  have hg'L : g' ≠ L := by
    rcases h1 with ⟨h, _⟩ | ⟨g, cap, cur, h, _, hg, _⟩
    · cases h
    · cases h
      intro e
      subst e
      rw [gL] at hg
      simp at hg
  refine ⟨v', g', heap_set_same gL 0 v', (heap_set_other w3 _ v' U hne.symm).trans gU, h1.of_block fun g hg => by cases hg; exact heap_set_other w3 _ v' g' hg'L, ?_, ?_⟩
  · rcases h2 with h | h
    · exact .inl h
    · exact .inr (by rw [h]; exact gb.size)
  · exact ((gb.trans (gr_grown h3)).trans (gr_set w3 ⟨L, 0, none⟩ v')).mono fun k _ h => by
      rcases h with (h | h) | h
      · exact .inr (.inl h)
      · exact .inr (.inr h)
      · exact .inl h

set_option maxHeartbeats 2000000 in
set_option maxRecDepth 100000 in
theorem push_nil (L U : Nat) (t : ByteArray) (m i : Nat) (w : World) (hL : w.heap[L]? = some (.cells #[.slice none 0 0, .int .i64 0, .int .u64 0] 61 (0, 0))) (hU : w.heap[U]? = some (.cells (unA t m i (.pointer none) 0) 53 (0, 0))) :
    Calls Yba.prog 14 #[pv L, pv U] w fun e w' => e = .returned (.tuple #[]) ∧ PushPost w w' L U t m i none [] := by
  have hc := copy_nil
  have hcl := clear_none
  have cL0 : w.cell? ⟨L, 0, none⟩ = some (.slice none 0 0) := heap_cell hL 0
  have cL1 : w.cell? ⟨L, 1, none⟩ = some (.int .i64 0) := heap_cell hL 1
  have cL2 : w.cell? ⟨L, 2, none⟩ = some (.int .u64 0) := heap_cell hL 2
  have fL0 := heap_frozen hL 0
  have fL1 := heap_frozen hL 1
  have fL2 := heap_frozen hL 2
  have cU8 : w.cell? ⟨U, 8, none⟩ = some (.pointer none) := heap_cell hU 8
  have cU9 : w.cell? ⟨U, 9, none⟩ = some (.int .u64 0) := heap_cell hU 9
  have fU8 := heap_frozen hU 8
  have fU9 := heap_frozen hU 9
  have e0 : ∀ q, (w.drewN q).setCell ⟨L, 0, none⟩ (.slice none 0 0) = w.drewN q := fun q => setCell_self (w := w.drewN q) hL rfl
  have e1 : ∀ q, (w.drewN q).setCell ⟨L, 1, none⟩ (.int .i64 0) = w.drewN q := fun q => setCell_self (w := w.drewN q) hL rfl
  have e2 : ∀ q, (w.drewN q).setCell ⟨L, 2, none⟩ (.int .u64 0) = w.drewN q := fun q => setCell_self (w := w.drewN q) hL rfl
  have ew : IntKind.u64.wrap 0 = 0 := rfl
  have hne : L ≠ U := fun e => by rw [e, hU] at hL; simp at hL
  have hne' : U ≠ L := fun e => hne e.symm
  have HL := hid hL
  have HU := hid hU
  clear hL hU
  unfold pv
  go_enter Yba.func14, Yba.ntmps14
  go_wp2_with fail
  go_quiet (fail)
  go_wp2_with fail
  go_region_held3 (fun w' => w'.cell? ⟨L, 0, none⟩ = some (.slice none 0 0) ∧ w'.cell? ⟨L, 1, none⟩ = some (.int .i64 0)) (go_keep) (fail)
  go_wp2_with fail
  go_region_held3 (fun w' => w'.cell? ⟨L, 1, none⟩ = some (.int .i64 0) ∧ w'.cell? ⟨L, 2, none⟩ = some (.int .u64 0) ∧ w'.frozen? ⟨L, 2, none⟩ = false) (go_keep) (fail)
  go_wp2_with fail
  go_region_held3 (fun w' => w'.cell? ⟨L, 0, none⟩ = some (.slice none 0 0) ∧ w'.cell? ⟨L, 2, none⟩ = some (.int .u64 0)) (go_keep) (fail)
  all_goals
    go_wp2_with (at_builtin; refine wp_appR rfl (.tmp 95) (.tmp 97) rfl rfl (.inl ⟨rfl, rfl, rfl⟩) (by simp) w.heap.size 1 U rfl (before_new w L U 0 _) ?_)
    intro v' g' w3 h1 h2 h3
    obtain ⟨cap', rfl⟩ := h1.shape
    have H3 : Hid ((before w L U 0 (nq + 1 + 1 + 1)).grownBy w3 none) := h3
    have H1 := hid h1
    have H2 := hid h2
    obtain ⟨c3, f3⟩ := push_cell HL.out hne (by simp) H3.out
    clear h1 h2 h3
    go_wp2_with fail
    go_end0
    exact ⟨rfl, push_post (v := .slice none 0 0) (n := 0) rfl HL.out HU.out hne (by simp) (by simp) H1.out (.inr (by simpa [before, World.setCell] using H2.out)) H3.out⟩
end Go.Proofs.Ybulkctac
