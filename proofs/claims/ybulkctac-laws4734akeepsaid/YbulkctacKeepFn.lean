/-
  (*resender).keep
-/
import Derived.Test.YbulkctacPush2
namespace Go.Proofs.Ybulkctac
open Go.RowKit
open Go.Maps (Keyed)
set_option linter.unusedVariables false
set_option linter.unusedSimpArgs false

theorem heap_drew (w : World) : w.drew.heap = w.heap := rfl
theorem heap_drewN (w : World) (q : Nat) : (w.drewN q).heap = w.heap := rfl

theorem heap_alloc_some {w : World} {k : Nat} {o : Obj} (h : w.heap[k]? = some o) (o' : Obj) : (w.alloc o').heap[k]? = some o := by
  rw [Below.heap_alloc w o' k (heap_lt h)]; exact h

/-- the cells of the block that a pointer leads to -/
def rowOf (w : World) : Value → Array Value
  | .pointer (some a) => match w.heap[a.block]? with | some (.cells cur _ _) => cur | _ => #[]
  | _ => #[]
def IsMsg (w : World) (x : Value) : Prop := ∃ M cur, x = .pointer (some ⟨M, 0, none⟩) ∧ w.heap[M]? = some (.cells cur 49 (0, 0)) ∧ cur.size = 35
theorem load49 (w : World) (x : Value) (h : IsMsg w x) : (Instr.loadAt 49 x).run Yba.prog w = .ok (.agg (rowOf w x)) w := by
  obtain ⟨M, cur, rfl, h, hs⟩ := h
  have h35 : (Yba.prog.info? 49).map (·.size) = some 35 := by kernel_rfl
  have := run_loadVar_row (P := Yba.prog) w M 49 49 cur (0, 0) _ h Yba.underlying49 rfl (by rw [hs]; exact h35)
  simp [Instr.loadAt, Instr.sureAddr, this, rowOf, h]
theorem isMsg_alloc {w : World} {x : Value} (h : IsMsg w x) (o : Obj) : IsMsg (w.alloc o) x := by
  obtain ⟨M, cur, rfl, h, hs⟩ := h
  exact ⟨M, cur, rfl, heap_alloc_some h o, hs⟩
theorem rowOf_alloc {w : World} {x : Value} (h : IsMsg w x) (o : Obj) : rowOf (w.alloc o) x = rowOf w x := by
  obtain ⟨M, cur, rfl, h, hs⟩ := h
  simp [rowOf, heap_alloc_some h o, h]
theorem isMsg_drew (w : World) (x : Value) : IsMsg w.drew x = IsMsg w x := rfl
theorem isMsg_drewN (w : World) (q : Nat) (x : Value) : IsMsg (w.drewN q) x = IsMsg w x := rfl
theorem rowOf_drew (w : World) (x : Value) : rowOf w.drew x = rowOf w x := by cases x <;> rfl
theorem rowOf_drewN (w : World) (q : Nat) (x : Value) : rowOf (w.drewN q) x = rowOf w x := by cases x <;> rfl
theorem isMsg_of {w : World} {M : Nat} {f : ByteArray} {s k : Int} (h : w.heap[M]? = some (.cells (msgA f s k) 49 (0, 0))) : IsMsg w (.pointer (some ⟨M, 0, none⟩)) := ⟨M, _, rfl, h, rfl⟩
theorem rowOf_of {w : World} {M : Nat} {f : ByteArray} {s k : Int} (h : w.heap[M]? = some (.cells (msgA f s k) 49 (0, 0))) : rowOf w (.pointer (some ⟨M, 0, none⟩)) = msgA f s k := by simp [rowOf, h]

/-- the load of a whole message, as one operation -/
def load49op (x : Value) : Sem Next := do pure (.value (← Instr.loadAt 49 x))
theorem execOp_load49 (ρ : Operand → Value) (dst : Option Tmp) (x : Operand) (ty : TypeId) (pos : String) (after : Array Edge) (guard : Option (Nat × Bool)) : execOp ρ { dst, op := .load 49 x, type := ty, pos, after, guard } = load49op (ρ x) := rfl
theorem run_load49op (w : World) (x : Value) (h : IsMsg w x) : (load49op x).run Yba.prog w = .ok (.value (.agg (rowOf w x))) w := by
  simp [load49op, load49 w x h]
attribute [local go_sem ↓ high] execOp_load49
attribute [local go_sem high] run_load49op

/-- the world behind keyOf in keep -/
def keyed (w : World) (t f : ByteArray) (s k : Int) : World := ((w.alloc (.cells (msgA f s k) 49)).alloc (.cells (keyV t f s k) 59)).drew

theorem gr_drew (w : World) : Gr w w.drew (fun _ => False) := ⟨rfl, rfl, rfl, Nat.le_refl _, fun _ _ _ => rfl⟩
theorem keyed_gr (w : World) (t f : ByteArray) (s k : Int) : Gr w (keyed w t f s k) (fun _ => False) :=
  (((gr_alloc w _).trans (gr_alloc _ _)).trans (gr_drew _)).mono fun _ _ h => by
    rcases h with (h | h) | h <;> exact h

/-- what keep holds of its receiver and its argument -/
structure KeepAt (w : World) (R U M b : Nat) (v0 : Value) (m : Nat) (t f : ByteArray) (s k : Int) (o : Nat) : Prop where
  r : w.heap[R]? = some (.cells (resA b v0 m) 31 (0, 0))
  u : w.heap[U]? = some (.cells (unA t M o (.pointer none) 0) 53 (0, 0))
  msg : w.heap[M]? = some (.cells (msgA f s k) 49 (0, 0))

theorem Gr.same {w w' : World} {S : Nat → Prop} (h : Gr w w' S) {j : Nat} {o : Obj} (hj : w.heap[j]? = some o) (hn : ¬ S j) : w'.heap[j]? = some o := (h.block j (heap_lt hj) hn).trans hj
theorem ne_obj {w : World} {i j : Nat} {o o' : Obj} (hi : w.heap[i]? = some o) (hj : w.heap[j]? = some o') (ho : o ≠ o') : i ≠ j := by
  rintro rfl
  rw [hi] at hj
  exact ho (by simpa using hj)
theorem MapP.ne {w : World} {k : TypeId} {b n sz i : Nat} {f : Lit → Option Nat} {cs : Array Value} {e : TypeId} {fr : Nat × Nat} (h : MapP w k b n f sz) (hi : w.heap[i]? = some (.cells cs e fr)) : i ≠ b := by
  obtain ⟨es, c, hb⟩ := h.is
  exact ne_obj hi hb (by simp)
theorem MapP.gr {w w' : World} {k : TypeId} {b n sz : Nat} {f : Lit → Option Nat} {S : Nat → Prop} (h : MapP w k b n f sz) (hg : Gr w w' S) (hn : ¬ S b) : MapP w' k b n f sz := h.of_block (hg.block b h.lt hn)
theorem RowP.gr {w w' : World} {v : Value} {og : Option Nat} {xs : List Nat} {S : Nat → Prop} (h : RowP w v og xs) (hg : Gr w w' S) (hn : ∀ g, og = some g → ¬ S g) : RowP w' v og xs := by
  rcases h with h | ⟨g, cap, cur, h1, h2, h3, h4⟩
  · exact .inl h
  · exact .inr ⟨g, cap, cur, h1, h2, hg.same h3 (hn g h1), h4⟩
theorem RowP.block {w : World} {v : Value} {g : Nat} {xs : List Nat} (h : RowP w v (some g) xs) : ∃ cur, w.heap[g]? = some (.cells cur 50 (0, 0)) := by
  rcases h with ⟨h, _⟩ | ⟨g', cap, cur, h1, h2, h3, h4⟩
  · cases h
  · cases h1; exact ⟨cur, h3⟩

/-- the world behind keep's first two statements -/
def kept1 (w : World) (R U m : Nat) : World := (w.setCell ⟨U, 6, none⟩ (.int .u64 m)).setCell ⟨R, 3, none⟩ (.int .u64 ((m : Int) + 1))

theorem kept1_gr (w : World) (R U m : Nat) : Gr w (kept1 w R U m) (fun k => k = U ∨ k = R) := (gr_set w ⟨U, 6, none⟩ _).trans (gr_set _ ⟨R, 3, none⟩ _)

theorem kept1_at {w : World} {R U M b m : Nat} {v0 : Value} {t f : ByteArray} {s k : Int} (h : KeepAt w R U M b v0 m t f s k 0) : KeepAt (kept1 w R U m) R U M b v0 (m + 1) t f s k m := by
  have hRU : R ≠ U := ne_obj h.r h.u (by simp)
  have hMU : M ≠ U := ne_obj h.msg h.u (by simp)
  have hMR : M ≠ R := ne_obj h.msg h.r (by simp)
  refine ⟨?_, ?_, ?_⟩
  · have := heap_set_same (w := w.setCell ⟨U, 6, none⟩ (.int .u64 m)) ((heap_set_other w _ _ R hRU).trans h.r) 3 (.int .u64 ((m : Int) + 1))
    unfold kept1
    rw [this]; rfl
  · unfold kept1
    rw [heap_set_other _ _ _ U hRU.symm, heap_set_same h.u]; rfl
  · unfold kept1
    rw [heap_set_other _ _ _ M hMR, heap_set_other _ _ _ M hMU]; exact h.msg

theorem KeepAt.gr {w w' : World} {R U M b m o : Nat} {v0 : Value} {t f : ByteArray} {s k : Int} {S : Nat → Prop} (h : KeepAt w R U M b v0 m t f s k o) (hg : Gr w w' S) (h1 : ¬ S R) (h2 : ¬ S U) (h3 : ¬ S M) : KeepAt w' R U M b v0 m t f s k o :=
  ⟨hg.same h.r h1, hg.same h.u h2, hg.same h.msg h3⟩

/-- the world behind the store into the first map -/
theorem keep_map {w1 : World} {b n0 sz0 : Nat} {f0 : Lit → Option Nat} {t f : ByteArray} {s k : Int} {kl : Lit} (U : Nat) (hm0 : MapP w1 59 b n0 f0 sz0) (hn0 : n0 < maxLen) (hkl : keyOf Yba.prog 59 (.agg (keyV t f s k)) = some kl) :
    ∃ w', (Instr.mapUpdate 23 (.map (some b)) (.agg (keyV t f s k)) (.pointer (some ⟨U, 0, none⟩))).run Yba.prog (keyed w1 t f s k) = .ok () w' ∧ Gr w1 w' (fun x => x = b) ∧
      ∀ f' : Lit → Option Nat, f' kl = some U → (∀ x, x ≠ kl → f' x = f0 x) → MapP w' 59 b (n0 + 1) f' (if (f0 kl).isSome then sz0 else sz0 + 1) := by
  have g := keyed_gr w1 t f s k
  obtain ⟨w', hrun, hg, hm⟩ := (hm0.gr g (fun h => h)).update law59 Yba.underlying23 hn0 hkl U
  exact ⟨w', hrun, (g.trans (gr_grown hg)).mono fun x _ h => by
    rcases h with h | h
    · exact h.elim
    · simpa using h, hm⟩

/-- the keep's post: o: was the list there?; L: the list's block; og, xs: its row before -/
structure KeepPost (w w' : World) (R U M b : Nat) (v0 : Value) (m : Nat) (t f : ByteArray) (s k : Int) (n0 sz0 : Nat) (f0 : Lit → Option Nat) (kl : Lit) (L : Nat) (og : Option Nat) (xs : List Nat) : Prop where
  r : w'.heap[R]? = some (.cells (resA b v0 (m + 1)) 31 (0, 0))
  msg : w'.heap[M]? = some (.cells (msgA f s k) 49 (0, 0))
  u : w'.heap[U]? = some (.cells (unA t M m (pv L) xs.length) 53 (0, 0))
  map0 : ∀ f' : Lit → Option Nat, f' kl = some U → (∀ x, x ≠ kl → f' x = f0 x) → MapP w' 59 b (n0 + 1) f' (if (f0 kl).isSome then sz0 else sz0 + 1)
  list : ∃ v' g', w'.heap[L]? = some (.cells #[v', .int .i64 0, .int .u64 0] 61 (0, 0)) ∧ RowP w' v' (some g') (xs ++ [U]) ∧ (some g' = og ∨ w.heap.size ≤ g')
  gr : Gr w w' (fun x => x = R ∨ x = U ∨ x = b ∨ x = b + 1 ∨ x = L ∨ some x = og)

theorem keep_fin {w w1 w2 w' : World} {R U M b m n0 sz0 n1 sz1 L q : Nat} {v0 v : Value} {t f : ByteArray} {s k : Int} {f0 f1 : Lit → Option Nat} {kl : Lit} {og : Option Nat} {xs : List Nat}
    (g1 : Gr w w1 (fun k => k = U ∨ k = R)) (g2 : Gr w1 w2 (fun x => x = b)) (h2 : KeepAt w2 R U M b v0 (m + 1) t f s k m) (hL2 : w2.heap[L]? = some (.cells #[v, .int .i64 0, .int .u64 0] 61 (0, 0))) (hrow2 : RowP w2 v og xs)
    (hm02 : ∀ f' : Lit → Option Nat, f' kl = some U → (∀ x, x ≠ kl → f' x = f0 x) → MapP w2 59 b (n0 + 1) f' (if (f0 kl).isSome then sz0 else sz0 + 1)) (hm12 : MapP w2 9 (b + 1) n1 f1 sz1) (hp : PushPost (w2.drewN q) w' L U t M m og xs) :
    KeepPost w w' R U M b v0 m t f s k n0 sz0 f0 kl L og xs ∧ MapP w' 9 (b + 1) n1 f1 sz1 := by
  obtain ⟨v', g', p1, p2, p3, p4, p50⟩ := hp
  have p5 : Gr w2 w' (fun k => k = L ∨ k = U ∨ some k = og) := ((gr_drewN w2 q).trans p50).mono fun x _ h => by
    rcases h with h | h
    · exact h.elim
    · exact h
  have hog : ∀ {j : Nat} {o : Obj}, w2.heap[j]? = some o → (∀ cur, o ≠ .cells cur 50 (0, 0)) → some j ≠ og := fun {j o} hj ho e => by
    subst e
    obtain ⟨cur, hc⟩ := hrow2.block
    exact ho cur (by rw [hj] at hc; simpa using hc)
  refine ⟨⟨p5.same h2.r ?_, p5.same h2.msg ?_, p2, fun f' ha hb => ?_, ⟨v', g', p1, p3, ?_⟩, ?_⟩, ?_⟩
  · rintro (e | e | e)
    · exact ne_obj h2.r hL2 (by simp) e
    · exact ne_obj h2.r h2.u (by simp) e
    · exact hog h2.r (by simp) e
  · rintro (e | e | e)
    · exact ne_obj h2.msg hL2 (by simp) e
    · exact ne_obj h2.msg h2.u (by simp) e
    · exact hog h2.msg (by simp) e
  · have hm := hm02 f' ha hb
    refine hm.gr p5 ?_
    rintro (e | e | e)
    · exact hm.ne hL2 e.symm
    · exact hm.ne h2.u e.symm
    · obtain ⟨es, c, hx⟩ := hm.is
      exact hog hx (by simp) e
  · rcases p4 with h | h
    · exact .inl h
    · exact .inr (Nat.le_trans (Nat.le_trans g1.size g2.size) h)
  · refine ((g1.trans g2).trans p5).mono fun x _ h => ?_
    rcases h with ((h | h) | h) | (h | h | h)
    · exact .inr (.inl h)
    · exact .inl h
    · exact .inr (.inr (.inl h))
    · exact .inr (.inr (.inr (.inr (.inl h))))
    · exact .inr (.inl h)
    · exact .inr (.inr (.inr (.inr (.inr h))))
  · refine hm12.gr p5 ?_
    rintro (e | e | e)
    · exact hm12.ne hL2 e.symm
    · exact hm12.ne h2.u e.symm
    · obtain ⟨es, c, hx⟩ := hm12.is
      exact hog hx (by simp) e

set_option maxHeartbeats 4000000 in
set_option maxRecDepth 100000 in
theorem keep_old (w : World) (R U M b L m n0 sz0 n1 sz1 : Nat) (v0 v : Value) (t f : ByteArray) (s k : Int) (f0 f1 : Lit → Option Nat) (og : Option Nat) (xs : List Nat) (kl kt : Lit)
    (h : KeepAt w R U M b v0 m t f s k 0) (hm : m ≤ 100000) (hkl : keyOf Yba.prog 59 (.agg (keyV t f s k)) = some kl) (hkt : keyOf Yba.prog 9 (.string t) = some kt)
    (hm0 : MapP w 59 b n0 f0 sz0) (hm1 : MapP w 9 (b + 1) n1 f1 sz1) (hn0 : n0 < maxLen) (hf1 : f1 kt = some L)
    (hL : w.heap[L]? = some (.cells #[v, .int .i64 0, .int .u64 0] 61 (0, 0))) (hrow : RowP w v og xs) (hxs : xs ≠ []) (hlen : xs.length ≤ 1024) :
    Calls Yba.prog 7 #[pv R, pv U] w fun e w' => e = .returned (.tuple #[]) ∧ KeepPost w w' R U M b v0 m t f s k n0 sz0 f0 kl L og xs ∧ MapP w' 9 (b + 1) n1 f1 sz1 := by
  have hwr : IntKind.u64.wrap ((m : Int) + 1) = (m : Int) + 1 := IntWalk.u64_in _ (by omega)
  have hRU : R ≠ U := ne_obj h.r h.u (by simp)
  have hUR : U ≠ R := hRU.symm
  have cR3 : w.cell? ⟨R, 3, none⟩ = some (.int .u64 m) := heap_cell h.r 3
  have cU6 : w.cell? ⟨U, 6, none⟩ = some (.int .u64 0) := heap_cell h.u 6
  have fR3 := heap_frozen h.r 3
  have fU6 := heap_frozen h.u 6
  have g1 := kept1_gr w R U m
  have h1 := kept1_at h
  have hLU : L ≠ U := ne_obj hL h.u (by simp)
  have hLR : L ≠ R := ne_obj hL h.r (by simp)
  have hm01 := hm0.gr g1 (fun e => by rcases e with e | e; · exact hm0.ne h.u e.symm
                                      · exact hm0.ne h.r e.symm)
  have hm11 := hm1.gr g1 (fun e => by rcases e with e | e; · exact hm1.ne h.u e.symm
                                      · exact hm1.ne h.r e.symm)
  have hL1 := g1.same hL (fun e => by rcases e with e | e; · exact hLU e
                                      · exact hLR e)
  have hog : ∀ g, og = some g → g ≠ U ∧ g ≠ R ∧ g ≠ b := fun g hg => by
    subst hg
    obtain ⟨cur, hc⟩ := hrow.block
    exact ⟨ne_obj hc h.u (by simp), ne_obj hc h.r (by simp), hm0.ne hc⟩
  have hrow1 := hrow.gr g1 (fun g hg e => by rcases e with e | e; · exact (hog g hg).1 e
                                             · exact (hog g hg).2.1 e)
  obtain ⟨w1, hw1⟩ : ∃ x, x = kept1 w R U m := ⟨_, rfl⟩
  rw [← hw1] at g1 h1 hm01 hm11 hL1 hrow1
  obtain ⟨w2, hrun0, g2, hm02⟩ := keep_map (f := f) U hm01 hn0 hkl
  have hrun : (Instr.mapUpdate 23 (.map (some b)) (.agg (keyV t f s k)) (.pointer (some ⟨U, 0, none⟩))).run Yba.prog (((w1.alloc (.cells (msgA f s k) 49)).alloc (.cells (keyV t f s k) 59)).drew) = .ok () w2 := hrun0
  have h2 : KeepAt w2 R U M b v0 (m + 1) t f s k m := h1.gr g2 (hm01.ne h1.r) (hm01.ne h1.u) (hm01.ne h1.msg)
  have hm12 := hm11.gr g2 (fun e => by omega)
  have hL2 := g2.same hL1 (hm01.ne hL1)
  have hrow2 := hrow1.gr g2 (fun g hg e => (hog g hg).2.2 e)
  have c1R0 : w1.cell? ⟨R, 0, none⟩ = some (.map (some b)) := heap_cell h1.r 0
  have c1U0 : w1.cell? ⟨U, 0, none⟩ = some (.string t) := heap_cell h1.u 0
  have c1U1 : w1.cell? ⟨U, 1, none⟩ = some (.pointer (some ⟨M, 0, none⟩)) := heap_cell h1.u 1
  have c1M : IsMsg w1 (.pointer (some ⟨M, 0, none⟩)) := isMsg_of h1.msg
  have d1M : rowOf w1 (.pointer (some ⟨M, 0, none⟩)) = msgA f s k := rowOf_of h1.msg
  have c2R0 : w2.cell? ⟨R, 0, none⟩ = some (.map (some b)) := heap_cell h2.r 0
  have c2R1 : w2.cell? ⟨R, 1, none⟩ = some (.map (some (b + 1))) := heap_cell h2.r 1
  have c2U0 : w2.cell? ⟨U, 0, none⟩ = some (.string t) := heap_cell h2.u 0
  have c2U1 : w2.cell? ⟨U, 1, none⟩ = some (.pointer (some ⟨M, 0, none⟩)) := heap_cell h2.u 1
  have c2M : IsMsg w2 (.pointer (some ⟨M, 0, none⟩)) := isMsg_of h2.msg
  have d2M : rowOf w2 (.pointer (some ⟨M, 0, none⟩)) = msgA f s k := rowOf_of h2.msg
  have hlk : ∀ q, (Instr.lookup 24 (.map (some (b + 1))) (.string t) false).run Yba.prog (w2.drewN q) = .ok (.pointer (some ⟨L, 0, none⟩)) (w2.drewN q) := fun q => by
    have := (hm12.of_block (w' := w2.drewN q) rfl).lookup law9 Yba.underlying24 (zero51 _) hkt
    rw [hf1] at this
    exact this
  have CP : Hid (∀ q, Calls Yba.prog 14 #[.pointer (some ⟨L, 0, none⟩), .pointer (some ⟨U, 0, none⟩)] (w2.drewN q) fun e w' => e = .returned (.tuple #[]) ∧ PushPost (w2.drewN q) w' L U t M m og xs) := fun q => push_any (w := w2.drewN q) hL2 h2.u (hrow2.of_block (w' := w2.drewN q) fun _ _ => rfl) (.inr hxs) hlen
  have HW1 := hid hw1
  have HFIN : Hid (∀ q w', PushPost (w2.drewN q) w' L U t M m og xs → KeepPost w w' R U M b v0 m t f s k n0 sz0 f0 kl L og xs ∧ MapP w' 9 (b + 1) n1 f1 sz1) := fun q w' hp => by
    exact keep_fin g1 g2 h2 hL2 hrow2 hm02 hm12 hp
  clear h1 h2 hw1 hm0 hm1 hm01 g1 hrun0 hm02 hm11 hm12 hL1 hL2 hrow1 hrow2 g2 h hrow hL hog
  unfold pv
  go_enter Yba.func7, Yba.ntmps7
  go_wp2_with fail
  have e1 : (w.setCell ⟨U, 6, none⟩ (.int .u64 m)).setCell ⟨R, 3, none⟩ (.int .u64 ((m : Int) + 1)) = w1 := HW1.out.symm
  rw [e1]
  clear e1 cR3 cU6 fR3 fU6
  go_region_held3 (fun w' => w'.cell? ⟨R, 0, none⟩ = some (.map (some b)) ∧ w'.cell? ⟨U, 0, none⟩ = some (.string t) ∧ w'.cell? ⟨U, 1, none⟩ = some (.pointer (some ⟨M, 0, none⟩)) ∧ IsMsg w' (.pointer (some ⟨M, 0, none⟩)) ∧ rowOf w' (.pointer (some ⟨M, 0, none⟩)) = msgA f s k) (simp [*, isMsg_drew, isMsg_drewN, rowOf_drew, rowOf_drewN, World.cell?_alloc_some, isMsg_alloc, rowOf_alloc])
    (first | (go_at_call 13; refine (keyOf_any t f s k _).mono ?_; rintro e w' ⟨rfl, rfl⟩))
  go_wp2_with fail
  go_quiet (fail)
  go_wp2_with fail
  refine (CP.out _).mono ?_
  rintro e w' ⟨rfl, hp⟩
  have HP := HFIN.out _ _ hp
  go_wp2_with fail
  go_end0
  exact ⟨rfl, HP⟩
end Go.Proofs.Ybulkctac
