/-
  LawS4733AFifo: the laws that its walk wants.
-/
import Derived.Test.YbulkcszoCheck
import Derived.ArgAppend
import Derived.OwnWalk
namespace Go.Proofs.Ybulkcszo
open Go.RowKit
set_option linter.unusedVariables false

theorem info23 : (Yba.prog.info? 23).map (fun i => (i.zero, i.size, i.bytes)) = some (some (.pointer none), 1, 8) := by kernel_rfl
theorem info3 : (Yba.prog.info? 3).map (fun i => (i.zero, i.size, i.bytes)) = some (some (.int .i64 0), 1, 8) := by kernel_rfl

/-- what a store into block b leaves -/
structure Put (w w' : World) (b : Nat) (cur : Array Value) (e : TypeId) : Prop where
  os : w'.os = w.os
  tape : w'.tape = w.tape
  output : w'.output = w.output
  size : w'.heap.size = w.heap.size
  row : w'.heap[b]? = some (.cells cur e (0, 0))
  block : ∀ k, k ≠ b → w'.heap[k]? = w.heap[k]?

theorem put_set {w : World} {b : Nat} {cur : Array Value} {e : TypeId} (h : w.heap[b]? = some (.cells cur e (0, 0))) (j : Nat) (u : Value) : Put w (w.setCell ⟨b, j, none⟩ u) b (cur.setIfInBounds j u) e :=
  ⟨rfl, rfl, rfl, by simp [World.setCell], heap_set_same h j u, fun k hk => heap_set_other w _ u k hk⟩

section
variable {w : World} {ops : Array Oper} {rest : List Oper} {o : Oper} {a : Act} {Q : Exit → Act → World → Prop}

/-- append(v, u), there being room: slices of one-cell elements -/
theorem wp_app1 (hgd : o.guard = none) (s x : Operand) (t e : TypeId) (z : Value) (hinfo : (Yba.prog.info? e).map (fun i => (i.zero, i.size, i.bytes)) = some (some z, 1, 8)) (ht : Yba.prog.underlying t = some (.slice e))
    (ho : o.op = .call { callee := .builtin .append, args := #[s, x], argTypes := #[t, t] })
    (b off n cap : Nat) (hs : a.eval s = .slice (some ⟨b, off, none⟩) n cap) (g : Nat) (c : Nat) (hx : a.eval x = .slice (some ⟨g, 0, none⟩) 1 c) (u : Value) (hu : w.cell? ⟨g, 0, none⟩ = some u) (hone : u.oneCell' = true)
    (hroom : n + 1 ≤ cap) (cur : Array Value) (hrow : w.heap[b]? = some (.cells cur e (0, 0))) (hin : off + n < cur.size)
    (h : ∀ w', Put w w' b (cur.setIfInBounds (off + n) u) e → wpList Yba.prog ops Q rest (a.put o.dst (.slice (some ⟨b, off, none⟩) (n + 1) cap)) w') : wpList Yba.prog ops Q (o :: rest) a w := by
  obtain ⟨i, hi, hz, hsz, hb⟩ := info_parts hinfo
  have hrun := run_append_room_cells (P := Yba.prog) w t o.type e i ht hi b off n cap ⟨g, 0, none⟩ 1 c [u] (by rw [hsz]; rfl) (fun j v hj => by
      match j, hj with
      | 0, hj => simp at hj; subst hj; simpa [Addr.add] using hu) (by simpa using hone) hroom
    (fun j hj => by
      obtain rfl : j = 0 := by simpa using hj
      rw [heap_cell hrow, hsz]
      simp
      omega) (fun j hj => heap_frozen hrow _)
  refine wpList_plain hgd fun K hK => ?_
  unfold Oper.wp
  simp [execOp, ho, resolve, invoke, builtin, hs, hx, hrun, Result.andThen]
  refine hK _ _ (h _ ?_)
  rw [hsz, Nat.mul_one]
  exact put_set hrow _ u
end

theorem make26 (w : World) (c : Nat) (hc : c ≤ 100000) : (Instr.makeSlice 26 (.int .i64 0) (.int .i64 (c : Int))).run Yba.prog w = .ok (.slice (some ⟨w.heap.size, 0, none⟩) 0 c) (w.alloc (.cells (madeCells #[.pointer none] c) 23)) := by
  obtain ⟨i, hi, hz, hs, hb⟩ := info_parts info23
  have := run_make (P := Yba.prog) w 26 23 i (.pointer none) Yba.underlying26 hi hz .i64 .i64 0 c (by omega) (by omega) (by rw [hb]; omega) (by omega)
  rw [hs] at this
  simpa [Value.cells] using this
theorem make27 (w : World) (c : Nat) (hc : c ≤ 100000) : (Instr.makeSlice 27 (.int .i64 0) (.int .i64 (c : Int))).run Yba.prog w = .ok (.slice (some ⟨w.heap.size, 0, none⟩) 0 c) (w.alloc (.cells (madeCells #[.int .i64 0] c) 3)) := by
  obtain ⟨i, hi, hz, hs, hb⟩ := info_parts info3
  have := run_make (P := Yba.prog) w 27 3 i (.int .i64 0) Yba.underlying27 hi hz .i64 .i64 0 c (by omega) (by omega) (by rw [hb]; omega) (by omega)
  rw [hs] at this
  simpa [Value.cells] using this

/-- The state of the law behind k rounds: Q: the queue's block; Q + 1: the model's array; Q + 2: the values' array; off: how many waiters have been popped. -/
structure St (w wr : World) (Q n k off : Nat) (gs : List Nat) (vs : List Int) : Prop where
  linked : Linked wr Q gs vs
  below : Below Q w wr
  size : Q + 3 ≤ wr.heap.size
  live : ∀ g ∈ gs, g < wr.heap.size
  count : off + (off + gs.length) ≤ k
  model : ∃ am, wr.heap[Q + 1]? = some (.cells am 23 (0, 0)) ∧ am.size = n ∧ ∀ (i g : Nat), gs[i]? = some g → am[off + i]? = some (.pointer (some ⟨g, 0, none⟩))
  vals : ∃ av, wr.heap[Q + 2]? = some (.cells av 3 (0, 0)) ∧ av.size = n ∧ ∀ (i : Nat) (v : Int), vs[i]? = some v → av[off + i]? = some (.int .i64 v)

theorem Linked.of_blocks {w w' : World} {Q : Nat} {gs : List Nat} {vs : List Int} (h : Linked w Q gs vs) (hb : ∀ b, b = Q ∨ b ∈ gs → w'.heap[b]? = w.heap[b]?) : Linked w' Q gs vs :=
  ⟨(hb Q (.inl rfl)).trans h.queue, h.len, fun i g v hg hv => (hb g (.inr (List.mem_of_getElem? hg))).trans (h.node i g v hg hv), h.lo, h.rise⟩

theorem heap_lt {w : World} {b : Nat} {o : Obj} (h : w.heap[b]? = some o) : b < w.heap.size := (Array.getElem?_eq_some_iff.1 h).1

theorem Linked.alloc {w : World} {Q : Nat} {gs : List Nat} {vs : List Int} (h : Linked w Q gs vs) (hlive : ∀ g ∈ gs, g < w.heap.size) (o : Obj) : Linked (w.alloc o) Q gs vs :=
  h.of_blocks fun b hb => Below.heap_alloc w o b (by
    rcases hb with rfl | hb
    · exact heap_lt h.queue
    · exact hlive b hb)

theorem below_fr {Q : Nat} {w w1 w2 : World} (h : Below Q w w1) (hf : Fr Q w1 w2) : Below Q w w2 :=
  h.trans ⟨hf.os, hf.tape, hf.output, Nat.le_of_eq hf.size.symm, fun k hk => hf.block k (by omega) (by omega)⟩
theorem below_put {Q b : Nat} {w w1 w2 : World} {cur : Array Value} {e : TypeId} (h : Below Q w w1) (hp : Put w1 w2 b cur e) (hb : Q ≤ b) : Below Q w w2 :=
  h.trans ⟨hp.os, hp.tape, hp.output, Nat.le_of_eq hp.size.symm, fun k hk => hp.block k (by omega)⟩

theorem St.drewN {w wr : World} {Q n k off : Nat} {gs : List Nat} {vs : List Int} (h : St w wr Q n k off gs vs) (q : Nat) : St w (wr.drewN q) Q n k off gs vs :=
  ⟨h.linked.of_blocks (fun _ _ => rfl), below_drewN h.below q, h.size, h.live, h.count, h.model, h.vals⟩
theorem St.le {w wr : World} {Q n k k' off : Nat} {gs : List Nat} {vs : List Int} (h : St w wr Q n k off gs vs) (hk : k ≤ k') : St w wr Q n k' off gs vs :=
  ⟨h.linked, h.below, h.size, h.live, Nat.le_trans h.count hk, h.model, h.vals⟩

theorem St.mod {w wr : World} {Q n k off : Nat} {gs : List Nat} {vs : List Int} (h : St w wr Q n k off gs vs) : Mod wr (some ⟨Q + 1, off, none⟩) (Q + 1) off gs := by
  obtain ⟨am, h1, h2, h3⟩ := h.model
  exact ⟨fun _ => rfl, fun i g hg => by rw [heap_cell h1]; exact h3 i g hg⟩

/-- the start -/
theorem st_start (w : World) (n : Nat) : St w (((w.alloc (.cells #[.pointer none, .pointer none] 25)).alloc (.cells (madeCells #[.pointer none] n) 23)).alloc (.cells (madeCells #[.int .i64 0] n) 3)) w.heap.size n 0 0 [] [] := by
  refine ⟨⟨?_, rfl, fun i g v hg _ => by simp at hg, by simp, by simp⟩, ?_, by simp, by simp, by simp, ⟨madeCells #[.pointer none] n, ?_, size_madeCells _ _, fun i g hg => by simp at hg⟩, ⟨madeCells #[.int .i64 0] n, ?_, size_madeCells _ _, fun i v hv => by simp at hv⟩⟩
  · rw [Below.heap_alloc _ _ _ (by simp; omega), Below.heap_alloc _ _ _ (by simp), heap_alloc_new]; rfl
  · exact (((Below.refl _ _).alloc (Nat.le_refl _) _).alloc (by simp) _).alloc (by simp; omega) _
  · rw [Below.heap_alloc _ _ _ (by simp)]
    have := heap_alloc_new (w.alloc (.cells #[.pointer none, .pointer none] 25)) (.cells (madeCells #[.pointer none] n) 23)
    simpa using this
  · have := heap_alloc_new ((w.alloc (.cells #[.pointer none, .pointer none] 25)).alloc (.cells (madeCells #[.pointer none] n) 23)) (.cells (madeCells #[.int .i64 0] n) 3)
    simpa using this

/-- a push -/
theorem st_push {w wr w2 w3 w4 : World} {Q n k off : Nat} {gs : List Nat} {vs : List Int} {N X Y : Obj} {z : Int} {am av : Array Value} (h : St w wr Q n k off gs vs)
    (hm1 : wr.heap[Q + 1]? = some (.cells am 23 (0, 0))) (hm2 : am.size = n) (hm3 : ∀ (i g : Nat), gs[i]? = some g → am[off + i]? = some (.pointer (some ⟨g, 0, none⟩)))
    (hv1 : wr.heap[Q + 2]? = some (.cells av 3 (0, 0))) (hv2 : av.size = n) (hv3 : ∀ (i : Nat) (v : Int), vs[i]? = some v → av[off + i]? = some (.int .i64 v)) (hkn : k < n)
    (hl2 : Linked w2 Q (gs ++ [wr.heap.size]) (vs ++ [z])) (hf2 : Fr Q (wr.alloc N) w2)
    (hp3 : Put (w2.alloc X) w3 (Q + 1) (am.setIfInBounds (off + gs.length) (.pointer (some ⟨wr.heap.size, 0, none⟩))) 23)
    (hp4 : Put (w3.alloc Y) w4 (Q + 2) (av.setIfInBounds (off + gs.length) (.int .i64 z)) 3) : St w w4 Q n (k + 1) off (gs ++ [wr.heap.size]) (vs ++ [z]) := by
  have hcnt := h.count
  have hsz := h.size
  have s2 : w2.heap.size = wr.heap.size + 1 := by rw [hf2.size]; simp
  have s3 : w3.heap.size = wr.heap.size + 2 := by rw [hp3.size]; simp [s2]
  have s4 : w4.heap.size = wr.heap.size + 3 := by rw [hp4.size]; simp [s3]
  have hlv : ∀ g ∈ gs ++ [wr.heap.size], g < wr.heap.size + 1 := fun g hg => by
    rcases List.mem_append.1 hg with h1 | h1
    · have := h.live g h1; omega
    · have : g = wr.heap.size := by simpa using h1
      omega
  have hlo := hl2.lo
  have l3 : Linked w3 Q (gs ++ [wr.heap.size]) (vs ++ [z]) := hl2.of_blocks fun b hb => by
    have hb2 : b = Q ∨ Q + 3 ≤ b := by
      rcases hb with h1 | h1
      · exact .inl h1
      · exact .inr (hlo b h1)
    have hb3 : b < w2.heap.size := by
      rcases hb with h1 | h1
      · omega
      · have := hlv b h1; omega
    rw [hp3.block b (by omega), Below.heap_alloc _ _ _ hb3]
  have l4 : Linked w4 Q (gs ++ [wr.heap.size]) (vs ++ [z]) := l3.of_blocks fun b hb => by
    have hb2 : b = Q ∨ Q + 3 ≤ b := by
      rcases hb with h1 | h1
      · exact .inl h1
      · exact .inr (hlo b h1)
    have hb3 : b < w3.heap.size := by
      rcases hb with h1 | h1
      · omega
      · have := hlv b h1; omega
    rw [hp4.block b (by omega), Below.heap_alloc _ _ _ hb3]
  have hvl : vs.length = gs.length := h.linked.len
  refine ⟨l4, ?_, by omega, fun g hg => by have := hlv g hg; omega, by simp; omega, ⟨am.setIfInBounds (off + gs.length) (.pointer (some ⟨wr.heap.size, 0, none⟩)), ?_, by simpa using hm2, fun i g hg => ?_⟩, ⟨_, hp4.row, by simpa using hv2, fun i v hv => ?_⟩⟩
  · have b2 : Below Q w w2 := below_fr (h.below.alloc (by omega) _) hf2
    have b3 : Below Q w w3 := below_put (b2.alloc (by omega) _) hp3 (by omega)
    exact below_put (b3.alloc (by omega) _) hp4 (by omega)
  · rw [hp4.block _ (by omega), Below.heap_alloc _ _ _ (by omega)]
    exact hp3.row
  · by_cases hi : i < gs.length
    · rw [List.getElem?_append_left hi] at hg
      rw [Array.getElem?_setIfInBounds_ne (by omega)]
      exact hm3 i g hg
    · have hi2 : i = gs.length := by
        have := (List.getElem?_eq_some_iff.1 hg).1
        simp at this; omega
      subst hi2
      obtain rfl : wr.heap.size = g := by simpa using hg
      rw [Array.getElem?_setIfInBounds_self_of_lt (by omega)]
  · by_cases hi : i < vs.length
    · rw [List.getElem?_append_left hi] at hv
      rw [Array.getElem?_setIfInBounds_ne (by omega)]
      exact hv3 i v hv
    · have hi2 : i = vs.length := by
        have := (List.getElem?_eq_some_iff.1 hv).1
        simp at this; omega
      subst hi2
      obtain rfl : z = v := by simpa using hv
      rw [hvl, Array.getElem?_setIfInBounds_self_of_lt (by omega)]

/-- a pop -/
theorem st_pop {w wr w2 : World} {Q n k k' off g : Nat} {gs : List Nat} {v : Int} {vs : List Int} (h : St w wr Q n k off (g :: gs) (v :: vs)) (hk : k + 1 ≤ k') (hl2 : Linked w2 Q gs vs) (hf2 : Fr Q wr w2) : St w w2 Q n k' (off + 1) gs vs := by
  have hcnt := h.count
  simp at hcnt
  obtain ⟨am, hm1, hm2, hm3⟩ := h.model
  obtain ⟨av, hv1, hv2, hv3⟩ := h.vals
  refine ⟨hl2, below_fr h.below hf2, by rw [hf2.size]; exact h.size, fun x hx => by rw [hf2.size]; exact h.live x (by simp [hx]), by omega, ⟨am, ?_, hm2, fun i x hx => ?_⟩, ⟨av, ?_, hv2, fun i x hx => ?_⟩⟩
  · rw [hf2.block _ (by omega) (by omega)]; exact hm1
  · rw [show off + 1 + i = off + (i + 1) by omega]
    exact hm3 (i + 1) x hx
  · rw [hf2.block _ (by omega) (by omega)]; exact hv1
  · rw [show off + 1 + i = off + (i + 1) by omega]
    exact hv3 (i + 1) x hx

theorem eq_nil_left (w : World) (a : Addr) : (binOp .eql 23 (.pointer none) (.pointer (some a))).run Yba.prog w = .ok (.bool false) w := by
  have h : ∀ d : Nat, (Op.equalIn (d + 1) 23 (.pointer none) (.pointer (some a))).run Yba.prog w = .ok false w := fun d => by
    simp [Op.equalIn, run_underlying Yba.underlying23]
  simp only [binOp]
  simp [Op.equal, Op.maxDepth, h 9999]

/-- the queue's head is not the waiter that was popped -/
theorem head_ne {w : World} {Q g : Nat} {gs : List Nat} {vs : List Int} {v : Int} (h : Linked w Q gs vs) (hg : w.heap[g]? = some (.cells (nodeC v none none) 32 (0, 0))) (hng : g ∉ gs) :
    ∃ p, w.cell? ⟨Q, 0, none⟩ = some (.pointer p) ∧ (binOp .eql 23 (.pointer p) (.pointer (some ⟨g, 0, none⟩))).run Yba.prog w = .ok (.bool false) w := by
  cases gs with
  | nil => exact ⟨none, heap_cell h.queue 0, eq_nil_left w _⟩
  | cons n rest =>
    obtain ⟨u, hu⟩ : ∃ u, vs[0]? = some u := ⟨vs[0]'(by have := h.len; simp at this; omega), List.getElem?_eq_getElem _⟩
    have hn := h.node 0 n u rfl hu
    obtain ⟨j, hj, hjs⟩ := Option.map_eq_some_iff.1 info32
    refine ⟨some ⟨n, 0, none⟩, heap_cell h.queue 0, run_eql_ptr_other w Yba.underlying23 hj (by rw [hjs]; decide) ?_ hn hg⟩
    intro e
    have : n = g := by simpa using e
    exact hng (by simp [this])

theorem size23 (w : World) : (Go.sizeOf 23).run Yba.prog w = .ok 1 w := by kernel_rfl
theorem size3 (w : World) : (Go.sizeOf 3).run Yba.prog w = .ok 1 w := by kernel_rfl
theorem und26 : Yba.prog.underlying 26 = some (.slice (Yba.prog.elem 26)) := by simp [Program.elem, Yba.underlying26]
theorem und27 : Yba.prog.underlying 27 = some (.slice (Yba.prog.elem 27)) := by simp [Program.elem, Yba.underlying27]
theorem elem26 : Yba.prog.elem 26 = 23 := by simp [Program.elem, Yba.underlying26]
theorem elem27 : Yba.prog.elem 27 = 3 := by simp [Program.elem, Yba.underlying27]

/-- model[1:] -/
theorem slice26 (b off m cap : Nat) (hc : m + 1 ≤ cap) : ∃ x : Addr, (m ≠ 0 ∨ cap ≠ 1 → x = ⟨b, off + 1, none⟩) ∧ ∀ w : World, (Instr.slice 26 (.slice (some ⟨b, off, none⟩) (m + 1) cap) (some (.int .i64 1)) none none).run Yba.prog w = .ok (.slice (some x) m (cap - 1)) w := by
  by_cases h1 : cap = 1
  · refine ⟨⟨b, off, none⟩, fun h => by omega, fun w => ?_⟩
    rw [run_slice_l w 26 _ _ _ und26 .i64 _ (by omega) (by omega), elem26, size23]
    simp [Result.andThen, sliced, h1]
  · refine ⟨⟨b, off + 1, none⟩, fun _ => rfl, fun w => ?_⟩
    rw [run_slice_l w 26 _ _ _ und26 .i64 _ (by omega) (by omega), elem26, size23]
    simp [Result.andThen, sliced, h1, Addr.add]
theorem slice27 (b off m cap : Nat) (hc : m + 1 ≤ cap) : ∃ x : Addr, (m ≠ 0 ∨ cap ≠ 1 → x = ⟨b, off + 1, none⟩) ∧ ∀ w : World, (Instr.slice 27 (.slice (some ⟨b, off, none⟩) (m + 1) cap) (some (.int .i64 1)) none none).run Yba.prog w = .ok (.slice (some x) m (cap - 1)) w := by
  by_cases h1 : cap = 1
  · refine ⟨⟨b, off, none⟩, fun h => by omega, fun w => ?_⟩
    rw [run_slice_l w 27 _ _ _ und27 .i64 _ (by omega) (by omega), elem27, size3]
    simp [Result.andThen, sliced, h1]
  · refine ⟨⟨b, off + 1, none⟩, fun _ => rfl, fun w => ?_⟩
    rw [run_slice_l w 27 _ _ _ und27 .i64 _ (by omega) (by omega), elem27, size3]
    simp [Result.andThen, sliced, h1, Addr.add]
end Go.Proofs.Ybulkcszo
