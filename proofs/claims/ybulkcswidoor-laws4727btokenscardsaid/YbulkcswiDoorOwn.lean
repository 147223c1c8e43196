/-
  A []byte of the call's own: make, append (a byte, a string, a slice).
-/
import Derived.Test.YbulkcswiDoorBase
import Derived.Lib.AppendStr
import Derived.Laws.CopyOwn
import Derived.OwnWalk
namespace Go.Proofs.YbulkcswiDoor
open Go.RowKit Go.Lib

def byteVals (l : List UInt8) : List Value := l.map fun x => .int .u8 (x.toNat : Int)
theorem byteVals_length (l : List UInt8) : (byteVals l).length = l.length := by simp [byteVals]
theorem byteVals_append (l m : List UInt8) : byteVals l ++ byteVals m = byteVals (l ++ m) := by simp [byteVals]
theorem byteVals_get {l : List UInt8} {j : Nat} {u : Value} (h : (byteVals l)[j]? = some u) : ∃ hj : j < l.length, u = .int .u8 (l[j].toNat : Int) := by
  obtain ⟨h1, h2⟩ := List.getElem?_eq_some_iff.1 h
  have hj : j < l.length := by rwa [byteVals_length] at h1
  exact ⟨hj, by rw [← h2]; simp [byteVals]⟩
theorem byteVals_one (l : List UInt8) : ∀ u ∈ byteVals l, u.oneCell' = true := by
  intro u hu
  simp only [byteVals, List.mem_map] at hu
  obtain ⟨x, _, rfl⟩ := hu
  rfl

/-- v is a slice of the bytes l that the call owns, at a block from B on (or nil) -/
def Own (w : World) (B : Nat) (v : Value) (l : List UInt8) : Prop := w.ownsRow B 5 1 v l.length (byteVals l)

theorem info5 : (Ybad.prog.info? 5).map (fun i => (i.zero, i.size, i.bytes)) = some (some (.int .u8 0), 1, 1) := by kernel_rfl

theorem Own.alloc {w : World} {B : Nat} {v : Value} {l : List UInt8} (h : Own w B v l) (o : Obj) : Own (w.alloc o) B v l := World.ownsRow.alloc h o
theorem Own.nil (w : World) (B : Nat) : Own w B (.slice none 0 0) [] := World.ownsRow_nil w B 5 1
theorem Own.below {w w' : World} {B C : Nat} {v : Value} {l : List UInt8} (h : Own w B v l) (hb : Below C w w') (hC : C = w.heap.size) : Own w' B v l := by
  subst hC
  refine ⟨h.1, ?_⟩
  rcases h.2 with hn | ⟨g, cap, cur, rfl, hbg, hgg, rest⟩
  · exact .inl hn
  · refine .inr ⟨g, cap, cur, rfl, hbg, ?_, rest⟩
    rw [hb.block g (Array.getElem?_eq_some_iff.1 hgg).1]
    exact hgg
/-- its shape -/
theorem Own.shape {w : World} {B : Nat} {v : Value} {l : List UInt8} (h : Own w B v l) : ∃ a c, v = .slice a l.length c ∧ l.length ≤ c ∧ c ≤ maxLen ∧ (v ≠ .slice none 0 0 → ∃ x, a = some x) := by
  rcases h.2 with ⟨rfl, h0⟩ | ⟨g, cap, cur, rfl, _, _, hn, hc, _⟩
  · exact ⟨none, 0, by rw [h0], by omega, Nat.zero_le _, fun h => absurd rfl h⟩
  · exact ⟨_, cap, rfl, hn, hc, fun _ => ⟨_, rfl⟩⟩
theorem Own.seg {w : World} {B : Nat} {a : Option Addr} {n c : Nat} {l : List UInt8} (h : Own w B (.slice a n c) l) : Seg w a ⟨l.toArray⟩ := fun h0 => by
  have hsz : (ByteArray.mk l.toArray).size = l.length := by simp [ByteArray.size]
  rcases h.2 with ⟨_, h1⟩ | ⟨g, cap, cur, hv, _, _⟩
  · omega
  · simp only [Value.slice.injEq] at hv
    obtain ⟨rfl, rfl, rfl⟩ := hv
    refine ⟨g, 0, rfl, fun i hi => ?_⟩
    have := World.ownsRow.cells h (g := g) rfl i (.int .u8 ((ByteArray.mk l.toArray)[i].toNat : Int)) (by
      have hi' : i < l.length := by omega
      rw [List.getElem?_eq_getElem (by rw [byteVals_length]; exact hi')]
      simp only [byteVals, List.getElem_map]
      congr 4)
    have hadd : (⟨g, 0, none⟩ : Addr).add i = ⟨g, 0 + i, none⟩ := by unfold Addr.add; split <;> simp_all
    rwa [hadd] at this

theorem Own.made (w : World) (B c : Nat) (hB : B ≤ w.heap.size) (hc : c ≤ maxLen) : Own (w.alloc (.cells (madeCells #[.int .u8 0] c) 5)) B (.slice (some ⟨w.heap.size, 0, none⟩) 0 c) [] :=
  World.ownsRow_made w _ c hB hc (by rw [size_madeCells]; omega)

theorem make_zero (w : World) (c : Nat) (hc : c ≤ 1000000) : (Instr.makeSlice 22 (.int .i64 0) (.int .i64 (c : Int))).run Ybad.prog w = .ok (.slice (some ⟨w.heap.size, 0, none⟩) 0 c) (w.alloc (.cells (madeCells #[.int .u8 0] c) 5)) := by
  obtain ⟨i, hi, hz, hs, hb⟩ := info_parts info5
  have := run_make (P := Ybad.prog) w 22 5 i (.int .u8 0) Ybad.underlying22 hi hz .i64 .i64 0 c (by omega) (by omega) (by rw [hb]; omega) (by omega)
  rw [hs] at this
  simpa [Value.cells] using this

theorem make_full (w : World) (c : Nat) (hc : c ≤ 1000000) : (Instr.makeSlice 22 (.int .i64 (c : Int)) (.int .i64 (c : Int))).run Ybad.prog w = .ok (.slice (some ⟨w.heap.size, 0, none⟩) c c) (w.alloc (.cells (madeCells #[.int .u8 0] c) 5)) := by
  obtain ⟨i, hi, hz, hs, hb⟩ := info_parts info5
  have := run_make (P := Ybad.prog) w 22 5 i (.int .u8 0) Ybad.underlying22 hi hz .i64 .i64 c c (by omega) (by omega) (by rw [hb]; omega) (by omega)
  rw [hs] at this
  simpa [Value.cells] using this

theorem made_row (w : World) (c : Nat) : (w.alloc (.cells (madeCells #[.int .u8 0] c) 5)).heap[w.heap.size]? = some (.cells (List.replicate c (Value.int .u8 0)).toArray 5 (0, 0)) := by
  rw [heap_alloc_new, ← toList_madeCells_one]

/-- the cells of an owned slice that is not nil -/
theorem Own.cells_at {w : World} {B : Nat} {x : Addr} {n c : Nat} {l : List UInt8} (h : Own w B (.slice (some x) n c) l) : ∀ j (hj : j < l.length), w.cell? (x.add j) = some (.int .u8 (l[j].toNat : Int)) := by
  intro j hj
  rcases h.2 with ⟨hv, _⟩ | ⟨g, cap, cur, hv, _, _⟩
  · cases hv
  · simp only [Value.slice.injEq, Option.some.injEq] at hv
    obtain ⟨rfl, rfl, rfl⟩ := hv
    exact World.ownsRow.cells h (g := g) rfl j _ (by
      rw [List.getElem?_eq_getElem (by rw [byteVals_length]; exact hj)]
      simp [byteVals])

theorem splice_all (l : List UInt8) : splice (List.replicate l.length (Value.int .u8 0)) 0 (byteVals l) = byteVals l := by
  simp [splice, byteVals_length]

/-- behind copy(keep, line): keep holds the bytes -/
theorem own_of_row {w : World} {g : Nat} {l : List UInt8} (hl : l.length ≤ maxLen) (h : w.heap[g]? = some (.cells (splice (List.replicate l.length (Value.int .u8 0)) 0 (byteVals l)).toArray 5 (0, 0))) : Own w g (.slice (some ⟨g, 0, none⟩) l.length l.length) l := by
  rw [splice_all] at h
  refine ⟨by rw [byteVals_length]; omega, .inr ⟨g, l.length, _, rfl, Nat.le_refl _, h, Nat.le_refl _, hl, by simp [byteVals_length], ?_⟩⟩
  simp only [Nat.mul_one]
  exact List.take_of_length_le (by rw [byteVals_length]; exact Nat.le_refl _)

/-- copy(keep, line), keep just made, as long as line: the run -/
theorem copy_all (w : World) (x : Addr) (cap : Nat) (l : List UInt8) (ty : TypeId) (hlm : l.length ≤ maxLen) (hx : ∀ j (hj : j < l.length), w.cell? (x.add j) = some (.int .u8 (l[j].toNat : Int))) :
    ∃ w', (Builtin.copy_ #[22, 22] ty #[.slice (some ⟨w.heap.size, 0, none⟩) l.length l.length, .slice (some x) l.length cap]).run Ybad.prog (w.alloc (.cells (madeCells #[.int .u8 0] l.length) 5)) = .ok (goInt l.length) w' ∧
      Own w' w.heap.size (.slice (some ⟨w.heap.size, 0, none⟩) l.length l.length) l ∧ Below w.heap.size w w' := by
  have hrow := made_row w l.length
  have hB8 : Below w.heap.size w (w.alloc (.cells (madeCells #[.int .u8 0] l.length) 5)) := (Below.refl _ _).alloc (Nat.le_refl _) _
  have := run_copy_row (P := Ybad.prog) (w.alloc (.cells (madeCells #[.int .u8 0] l.length) 5)) 22 22 ty 5 w.heap.size 0 l.length l.length x l.length cap (List.replicate l.length (Value.int .u8 0)).toArray 5 (byteVals l) Ybad.underlying22 (by kernel_rfl) hrow (by rw [byteVals_length]; simp)
    (fun j v hj => by
      obtain ⟨hj', rfl⟩ := byteVals_get hj
      exact cell_later hB8 (hx j hj')) (by simp [byteVals_length]) (byteVals_one l)
  rw [byteVals_length] at this
  refine ⟨_, this, own_of_row hlm ?_, below_setRow hB8 (Nat.le_refl _) _⟩
  rw [setRow_heap _ _ _ _ 5 _ hrow]
  simp [splice, byteVals_length]

section
variable {w : World} {ops : Array Oper} {rest : List Oper} {o : Oper} {a : Act} {Q : Exit → Act → World → Prop}

/-- the one byte that 'append(v, y)' lays in a block of its own -/
theorem new_byte (w : World) (y : UInt8) : ∀ j (h : j < [y].length), (w.alloc (.cells #[.int .u8 (y.toNat : Int)] 5)).cell? ((⟨w.heap.size, 0, none⟩ : Addr).add j) = some (.int .u8 ([y][j].toNat : Int)) := by
  intro j h
  obtain rfl : j = 0 := by simp at h; omega
  simp [Addr.add]

/-- append(v, src...) from a slice at an address -/
theorem wp_append (hgd : o.guard = none) (s x : Operand) (ho : o.op = .call { callee := .builtin .append, args := #[s, x], argTypes := #[22, 22] })
    (B : Nat) (v : Value) (l m : List UInt8) (hs : a.eval s = v) (hown : Own w B v l) (ad : Addr) (k c : Nat) (hx : a.eval x = .slice (some ad) k c) (hk : k = m.length)
    (hm : ∀ j (h : j < m.length), w.cell? (ad.add j) = some (.int .u8 (m[j].toNat : Int))) (hl : l.length + m.length ≤ 1000000) (hB : B ≤ w.heap.size)
    (h : ∀ v' w', Own w' B v' (l ++ m) → Below B w w' → (v' = .slice none 0 0 → v = .slice none 0 0) → wpList Ybad.prog ops Q rest (a.put o.dst v') w') : wpList Ybad.prog ops Q (o :: rest) a w := by
  obtain ⟨i, hi, hz, hsz, hb⟩ := info_parts info5
  subst hk
  refine wpList_append_own w hgd s x 22 ho B 5 i (.int .u8 0) 1 1 Ybad.underlying22 hi hz hsz hb rfl (by decide) v l.length (byteVals l) hs hown ad m.length c (byteVals m) hx (by rw [byteVals_length]; omega) (fun j u hj => ?_) (byteVals_one m)
    (by unfold maxLen; omega) (by omega) hB (fun v' w' h1 h2 h3 => ?_)
  · obtain ⟨hj', rfl⟩ := byteVals_get hj
    exact hm j hj'
  · refine h v' w' ?_ ((Below.refl B w).grown h2 hB (fun k hk => (World.ownsRow.lt hown k hk).1)) (fun e => (h3.1 e).1)
    unfold Own
    rw [List.length_append, ← byteVals_append]
    exact h1

/-- append(v, str...) -/
theorem wp_append_str (hgd : o.guard = none) (s x : Operand) (ho : o.op = .call { callee := .builtin .append, args := #[s, x], argTypes := #[22, 9] })
    (B : Nat) (v : Value) (l : List UInt8) (hs : a.eval s = v) (hown : Own w B v l) (t : ByteArray) (hx : a.eval x = .string t) (hl : l.length + t.size ≤ 1000000) (hB : B ≤ w.heap.size)
    (h : ∀ v' w', Own w' B v' (l ++ t.data.toList) → Below B w w' → (v' = .slice none 0 0 → v = .slice none 0 0) → wpList Ybad.prog ops Q rest (a.put o.dst v') w') : wpList Ybad.prog ops Q (o :: rest) a w := by
  obtain ⟨i, hi, hz, hsz, hb⟩ := info_parts info5
  refine wpList_append_own_string w hgd s x 22 9 ho B 5 i Ybad.underlying22 Ybad.underlying9 hi hz hsz hb v l.length (byteVals l) hs hown t hx (by unfold maxLen; omega) (by omega) hB (fun v' w' h1 h2 h3 => ?_)
  refine h v' w' ?_ ((Below.refl B w).grown h2 hB (fun k hk => (World.ownsRow.lt hown k hk).1)) (fun e => (h3.1 e).1)
  unfold Own
  rw [List.length_append, ← byteVals_append]
  have e : strCells t = byteVals t.data.toList := by simp [strCells, byteVals]
  rw [← e, show t.data.toList.length = t.size by simp]
  exact h1
end
end Go.Proofs.YbulkcswiDoor
