/-
  LawS4734AKeep: the walk.
-/
import Derived.Test.YbulkctacState
namespace Go.Proofs.Ybulkctac
open Go.RowKit
open Go.Maps (Keyed)
set_option linter.unusedVariables false
set_option linter.unusedSimpArgs false

theorem make33 (w : World) (c : Nat) (hc : c ≤ 100000) : (Instr.makeSlice 33 (.int .i64 0) (.int .i64 (c : Int))).run Yba.prog w = .ok (.slice (some ⟨w.heap.size, 0, none⟩) 0 c) (w.alloc (.cells (madeCells #[.pointer none] c) 50)) := by
  obtain ⟨i, hi, hz, hs, hb⟩ := info_parts info50
  have := run_make (P := Yba.prog) w 33 50 i (.pointer none) Yba.underlying33 hi hz .i64 .i64 0 c (by omega) (by omega) (by rw [hb]; omega) (by omega)
  rw [hs] at this
  simpa [Value.cells] using this

/-! ### a whole message built and boxed, as one operation each -/
theorem run_build49 (f : ByteArray) (s k : Int) (w : World) : (Instr.build 49 #[(4, .string f), (6, .int .u64 s), (0, .int .u8 k)]).run Yba.prog w = .ok (.agg (msgA f s k)) w := by kernel_rfl
theorem run_box49 (f : ByteArray) (s k : Int) (w : World) : (Instr.box 49 (.agg (msgA f s k))).run Yba.prog w = .ok (.pointer (some ⟨w.heap.size, 0, none⟩)) (w.alloc (.cells (msgA f s k) 49)) := by kernel_rfl
def build49op (x y z : Value) : Sem Next := do pure (.value (← Instr.build 49 #[(4, x), (6, y), (0, z)]))
def box49op (x : Value) : Sem Next := do pure (.value (← Instr.box 49 x))
theorem execOp_build49 (ρ : Operand → Value) (dst : Option Tmp) (x y z : Operand) (ty : TypeId) (pos : String) (after : Array Edge) (guard : Option (Nat × Bool)) : execOp ρ { dst, op := .build 49 #[(4, x), (6, y), (0, z)], type := ty, pos, after, guard } = build49op (ρ x) (ρ y) (ρ z) := by simp [execOp, build49op]
theorem execOp_box49 (ρ : Operand → Value) (dst : Option Tmp) (x : Operand) (ty : TypeId) (pos : String) (after : Array Edge) (guard : Option (Nat × Bool)) : execOp ρ { dst, op := .box 49 x, type := ty, pos, after, guard } = box49op (ρ x) := rfl
theorem run_build49op (f : ByteArray) (s k : Int) (w : World) : (build49op (.string f) (.int .u64 s) (.int .u8 k)).run Yba.prog w = .ok (.value (.agg (msgA f s k))) w := by
  simp [build49op, run_build49]
theorem run_box49op (f : ByteArray) (s k : Int) (w : World) : (box49op (.agg (msgA f s k))).run Yba.prog w = .ok (.value (.pointer (some ⟨w.heap.size, 0, none⟩))) (w.alloc (.cells (msgA f s k) 49)) := by
  simp [box49op, run_box49]
attribute [local go_sem ↓ high] execOp_build49 execOp_box49
attribute [local go_sem high] run_build49op run_box49op

/-- the world at the first loop -/
def start (w : World) (v : Value) (n : Nat) : World := ((((((w.alloc (.cells (resA (w.heap.size + 1) v 0) 31)).alloc (.map #[] 0)).alloc (.map #[] 0)).alloc (.cells #[.slice none 0 0, v] 57)).alloc (.map #[] 0)).alloc (.cells (resA (w.heap.size + 1) v 0) 31)).alloc (.cells (madeCells #[.pointer none] n) 50)

theorem st_start (w : World) (v : Value) (n : Nat) : KSt w (start w v n) w.heap.size (w.heap.size + 1 + 1 + 1 + 1 + 1) (w.heap.size + 1) v (.slice (some ⟨w.heap.size + 1 + 1 + 1 + 1 + 1 + 1, 0, none⟩) 0 n) [] (fun _ => w.heap.size) (fun _ => w.heap.size) (w.heap.size + 1 + 1 + 1 + 1 + 1 + 1) [] := by
  obtain ⟨w1, hw1⟩ : ∃ x, x = w.alloc (.cells (resA (w.heap.size + 1) v 0) 31) := ⟨_, rfl⟩
  obtain ⟨w2, hw2⟩ : ∃ x, x = w1.alloc (.map #[] 0) := ⟨_, rfl⟩
  obtain ⟨w3, hw3⟩ : ∃ x, x = w2.alloc (.map #[] 0) := ⟨_, rfl⟩
  obtain ⟨w4, hw4⟩ : ∃ x, x = w3.alloc (.cells #[.slice none 0 0, v] 57) := ⟨_, rfl⟩
  obtain ⟨w5, hw5⟩ : ∃ x, x = w4.alloc (.map #[] 0) := ⟨_, rfl⟩
  obtain ⟨w6, hw6⟩ : ∃ x, x = w5.alloc (.cells (resA (w.heap.size + 1) v 0) 31) := ⟨_, rfl⟩
  obtain ⟨w7, hw7⟩ : ∃ x, x = w6.alloc (.cells (madeCells #[.pointer none] n) 50) := ⟨_, rfl⟩
  have e : start w v n = w7 := by rw [hw7, hw6, hw5, hw4, hw3, hw2, hw1]; rfl
  rw [e]
  have s1 : w1.heap.size = w.heap.size + 1 := by rw [hw1]; simp
  have s2 : w2.heap.size = w.heap.size + 1 + 1 := by rw [hw2]; simp [s1]
  have s3 : w3.heap.size = w.heap.size + 1 + 1 + 1 := by rw [hw3]; simp [s2]
  have s4 : w4.heap.size = w.heap.size + 1 + 1 + 1 + 1 := by rw [hw4]; simp [s3]
  have s5 : w5.heap.size = w.heap.size + 1 + 1 + 1 + 1 + 1 := by rw [hw5]; simp [s4]
  have s6 : w6.heap.size = w.heap.size + 1 + 1 + 1 + 1 + 1 + 1 := by rw [hw6]; simp [s5]
  have s7 : w7.heap.size = w.heap.size + 1 + 1 + 1 + 1 + 1 + 1 + 1 := by rw [hw7]; simp [s6]
  have g1 : Gr w w1 (fun _ => False) := hw1 ▸ gr_alloc w _
  have g2 : Gr w1 w2 (fun _ => False) := hw2 ▸ gr_alloc w1 _
  have g3 : Gr w2 w3 (fun _ => False) := hw3 ▸ gr_alloc w2 _
  have g4 : Gr w3 w4 (fun _ => False) := hw4 ▸ gr_alloc w3 _
  have g5 : Gr w4 w5 (fun _ => False) := hw5 ▸ gr_alloc w4 _
  have g6 : Gr w5 w6 (fun _ => False) := hw6 ▸ gr_alloc w5 _
  have g7 : Gr w6 w7 (fun _ => False) := hw7 ▸ gr_alloc w6 _
  have n2 : w2.heap[w.heap.size + 1]? = some (.map #[] 0) := by rw [hw2, ← s1]; exact heap_alloc_new w1 _
  have n3 : w3.heap[w.heap.size + 1 + 1]? = some (.map #[] 0) := by rw [hw3, ← s2]; exact heap_alloc_new w2 _
  have n4 : w4.heap[w.heap.size + 1 + 1 + 1]? = some (.cells #[.slice none 0 0, v] 57 (0, 0)) := by rw [hw4, ← s3]; exact heap_alloc_new w3 _
  have n5 : w5.heap[w.heap.size + 1 + 1 + 1 + 1]? = some (.map #[] 0) := by rw [hw5, ← s4]; exact heap_alloc_new w4 _
  have n6 : w6.heap[w.heap.size + 1 + 1 + 1 + 1 + 1]? = some (.cells (resA (w.heap.size + 1) v 0) 31 (0, 0)) := by rw [hw6, ← s5]; exact heap_alloc_new w5 _
  have n7 : w7.heap[w.heap.size + 1 + 1 + 1 + 1 + 1 + 1]? = some (.cells (madeCells #[.pointer none] n) 50 (0, 0)) := by rw [hw7, ← s6]; exact heap_alloc_new w6 _
  have gall : Gr w w7 (fun _ => False) := ((((((g1.trans g2).trans g3).trans g4).trans g5).trans g6).trans g7).mono fun x _ h => by
    rcases h with (((((h | h) | h) | h) | h) | h) | h <;> exact h
  have M2 : MapP w2 59 (w.heap.size + 1) 0 (fun _ => none) 0 := by
    have := MapP.made w1 59
    rw [s1] at this
    rw [hw2]; exact this
  have M3 : MapP w3 9 (w.heap.size + 1 + 1) 0 (fun _ => none) 0 := by
    have := MapP.made w2 9
    rw [s2] at this
    rw [hw3]; exact this
  refine ⟨gall.below (Below.refl _ _) (Nat.le_refl _) (fun _ h => h.elim), gall.size, by omega, by omega, fun _ => Nat.le_refl _, fun _ => Nat.le_refl _, by omega, fun x hx => by simp at hx, g7.same n6 (fun h => h), ?_, ?_, fun i x hx => by simp at hx, ⟨fun _ => none, ?_, fun x hx => rfl⟩, ⟨fun _ => none, ?_, fun t ht => by simp [tosE]⟩, fun t ht => by simp [tosE] at ht, fun t t' ht => by simp [tosE] at ht, fun t ht => by simp [tosE] at ht, ?_⟩
  · exact g7.same (g6.same (g5.same n4 (fun h => h)) (fun h => h)) (fun h => h)
  · exact g7.same (g6.same n5 (fun h => h)) (fun h => h)
  · exact ((((M2.gr g3 (fun h => h)).gr g4 (fun h => h)).gr g5 (fun h => h)).gr g6 (fun h => h)).gr g7 (fun h => h)
  · exact (((M3.gr g4 (fun h => h)).gr g5 (fun h => h)).gr g6 (fun h => h)).gr g7 (fun h => h)
  · exact .inr ⟨_, n, _, rfl, rfl, n7, by simp, by simpa using size_madeCells #[.pointer none] n, fun i x hx => by simp at hx⟩

/-- a round's keep -/
theorem keep_round {w0 wp : World} {B R b : Nat} {v0 v4 : Value} {z : List Ent} {L A : Nat → Nat} {Au : Nat} {zu : List Nat} (h : KSt w0 wp B R b v0 v4 z L A Au zu) (hz : z.length ≤ 1024) {P : Nat} (sP : wp.heap.size = P + 1) {t f s k : Nat} (ht : t < 3) (hf : f < 3) (hs : s < 3) (hk : k < 4) :
    Calls Yba.prog 7 #[.pointer (some ⟨R, 0, none⟩), .pointer (some ⟨P + 1 + 1, 0, none⟩)] (((wp.alloc (.cells (msgA (nm f) s k) 49)).alloc (.cells #[.string (nm t), .pointer (some ⟨P + 1, 0, none⟩), .int .i64 0, .int .i64 0, .int .u64 0, .int .i64 0, .int .u64 0, .bool false, .pointer none, .int .u64 0] 53)).drew)
      fun x w' => x = .returned (.tuple #[]) ∧ ∃ L' A', KSt w0 w' B R b v0 v4 (z ++ [⟨t, f, s, k, P + 1 + 1, P + 1⟩]) L' A' Au zu := by
  have g1 := gr_alloc wp (.cells (msgA (nm f) s k) 49)
  have n1 := heap_alloc_new wp (.cells (msgA (nm f) s k) 49)
  have s1 : (wp.alloc (.cells (msgA (nm f) s k) 49)).heap.size = P + 1 + 1 := by simp [sP]
  rw [sP] at n1
  generalize (wp.alloc (.cells (msgA (nm f) s k) 49)) = w1 at g1 n1 s1 ⊢
  have g2 := gr_alloc w1 (.cells (unA (nm t) (P + 1) 0 (.pointer none) 0) 53)
  have n2 := heap_alloc_new w1 (.cells (unA (nm t) (P + 1) 0 (.pointer none) 0) 53)
  rw [s1] at n2
  have e2 : w1.alloc (.cells #[.string (nm t), .pointer (some ⟨P + 1, 0, none⟩), .int .i64 0, .int .i64 0, .int .u64 0, .int .i64 0, .int .u64 0, .bool false, .pointer none, .int .u64 0] 53) = w1.alloc (.cells (unA (nm t) (P + 1) 0 (.pointer none) 0) 53) := rfl
  rw [e2]
  generalize (w1.alloc (.cells (unA (nm t) (P + 1) 0 (.pointer none) 0) 53)) = w2 at g2 n2 ⊢
  have g3 := gr_drew w2
  have hst := ((h.gr g1).gr g2).gr g3
  exact keep_st (e := ⟨t, f, s, k, P + 1 + 1, P + 1⟩) hst hz ⟨ht, hf, hs, hk⟩ n2 (g2.same n1 (fun h => h)) (fun e' he' ee => by
    obtain ⟨i, hi⟩ := List.getElem?_of_mem he'
    have := heap_lt (h.un i e' hi).1
    have ee : e'.g = P + 1 + 1 := ee
    omega) (by have := h.size; show B ≤ P + 1 + 1; omega)

theorem rtt_len {w : World} {b : Nat} (h : w.heap[b]? = some (.map #[] 0)) (ty : TypeId) : (Builtin.len_ #[27] ty #[.map (some b)]).run Yba.prog w = .ok (.int .i64 0) w := by
  have ho : w.ownsMap Yba.prog 9 ptrR b 0 (.map []) := ⟨#[], 0, h, ⟨by simp, MapKept.stamped_empty 0, by simp⟩, Nat.le_refl _, rfl⟩
  exact ho.len Yba.underlying27 ty

theorem ne_nilFunc (w : World) : (binOp .neq 29 .nilFunc .nilFunc).run Yba.prog w = .ok (.bool false) w := by kernel_rfl

theorem row_cell {w : World} {g n cap : Nat} {xs : List Nat} (h : RowP w (.slice (some ⟨g, 0, none⟩) n cap) (some g) xs) {i x : Nat} (hx : xs[i]? = some x) : w.cell? ⟨g, i, none⟩ = some (.pointer (some ⟨x, 0, none⟩)) := by
  rcases h with ⟨h, _⟩ | ⟨g', cap, cur, h1, _, h3, _, _, h4⟩
  · cases h
  · cases h1
    rw [heap_cell h3]
    exact h4 i x hx

theorem take_drop_succ {z : List Ent} {i d : Nat} {x : Ent} (h : z[i + 1 + d]? = some x) : (z.drop (i + 1)).take (d + 1) = (z.drop (i + 1)).take d ++ [x] := by
  rw [List.take_add_one, List.getElem?_drop, h]
  rfl
theorem nm_toList (x y : Nat) (hx : x < 3) (hy : y < 3) : ((nm x).toList == (nm y).toList) = decide (x = y) := by
  rw [ByteArray.toList_eq, ByteArray.toList_eq]
  have hx3 : x = 0 ∨ x = 1 ∨ x = 2 := by omega
  have hy3 : y = 0 ∨ y = 1 ∨ y = 2 := by omega
  rcases hx3 with rfl | rfl | rfl <;> rcases hy3 with rfl | rfl | rfl <;> decide
theorem key_bool {e e' : Ent} (h : e.ok) (h' : e'.ok) : decide (e.key = e'.key) = (((((nm e.to).toList == (nm e'.to).toList) && ((nm e.fr).toList == (nm e'.fr).toList)) && ((e.sq : Int) == (e'.sq : Int))) && ((e.kd : Int) == (e'.kd : Int))) := by
  rw [nm_toList e.to e'.to h.1 h'.1, nm_toList e.fr e'.fr h.2.1 h'.2.1]
  have e3 : ((e.sq : Int) == (e'.sq : Int)) = decide (e.sq = e'.sq) := by
    rw [Bool.eq_iff_iff, beq_iff_eq, decide_eq_true_eq]; exact Int.ofNat_inj
  have e4 : ((e.kd : Int) == (e'.kd : Int)) = decide (e.kd = e'.kd) := by
    rw [Bool.eq_iff_iff, beq_iff_eq, decide_eq_true_eq]; exact Int.ofNat_inj
  rw [e3, e4, Bool.eq_iff_iff]
  simp [Ent.key, and_assoc]

theorem take_succ_at {z : List Ent} {k : Nat} {x : Ent} (h : z[k]? = some x) : z.take (k + 1) = z.take k ++ [x] := by
  rw [List.take_add_one, h]
  rfl

/-- the key's entry -/
theorem look_key {w0 w : World} {B R b : Nat} {v0 v4 : Value} {z : List Ent} {L A : Nat → Nat} {Au : Nat} {zu : List Nat} (h : KSt w0 w B R b v0 v4 z L A Au zu) {i : Nat} {e : Ent} (he : z[i]? = some e) (hl : e.key ∉ keysE (z.drop (i + 1))) (q : Nat) :
    (Instr.lookup 23 (.map (some b)) (.agg #[.string (nm e.to), .string (nm e.fr), .int .u64 e.sq, .int .u8 e.kd]) false).run Yba.prog (w.drewN q) = .ok (.pointer (some ⟨e.g, 0, none⟩)) (w.drewN q) := by
  obtain ⟨f0, M0, hf0⟩ := h.m0
  have hok := h.ok e (List.mem_of_getElem? he)
  have hkey : keyOf Yba.prog 59 (.agg #[.string (nm e.to), .string (nm e.fr), .int .u64 e.sq, .int .u8 e.kd]) = some (klS e.key) := by
    have h := keyS (x := e.key) hok
    simp only [Ent.key] at h ⊢
    exact h
  have := (M0.of_block (w' := w.drewN q) rfl).lookup law59 Yba.underlying23 (zero50 _) hkey
  rw [hf0 _ hok] at this
  have e1 : lastE z e.key = some e.g := by
    have := lastE_at (a := z.take i) hl
    rw [← split_at he] at this
    exact this
  rw [e1] at this
  exact this

/-- the member's entry -/
theorem look_to {w0 w : World} {B R b : Nat} {v0 v4 : Value} {z : List Ent} {L A : Nat → Nat} {Au : Nat} {zu : List Nat} (h : KSt w0 w B R b v0 v4 z L A Au zu) {e : Ent} (he : e ∈ z) (q : Nat) :
    (Instr.lookup 24 (.map (some (b + 1))) (.string (nm e.to)) false).run Yba.prog (w.drewN q) = .ok (.pointer (some ⟨L e.to, 0, none⟩)) (w.drewN q) := by
  obtain ⟨f1, M1, hf1⟩ := h.m1
  have hok := h.ok e he
  have := (M1.of_block (w' := w.drewN q) rfl).lookup law9 Yba.underlying24 (zero51 _) (key9 (nm e.to) (nm_size _))
  have e1 : f1 (.string (nm e.to).data.toList) = some (L e.to) := by
    have := hf1 e.to hok.1
    rw [if_pos (show e.to ∈ tosE z from List.mem_map.2 ⟨e, he, rfl⟩)] at this
    exact this
  rw [e1] at this
  exact this

/-- the member's list at the unacked's place -/
theorem list_at {w0 w : World} {B R b : Nat} {v0 v4 : Value} {z : List Ent} {L A : Nat → Nat} {Au : Nat} {zu : List Nat} (h : KSt w0 w B R b v0 v4 z L A Au zu) {i : Nat} {e : Ent} (he : z[i]? = some e) :
    ∃ n cap, w.cell? ⟨L e.to, 0, none⟩ = some (.slice (some ⟨A e.to, 0, none⟩) n cap) ∧ w.cell? ⟨L e.to, 1, none⟩ = some (.int .i64 0) ∧ w.cell? ⟨L e.to, 2, none⟩ = some (.int .u64 0) ∧
      w.cell? ⟨A e.to, (tosE (z.take i)).count e.to, none⟩ = some (.pointer (some ⟨e.g, 0, none⟩)) ∧ (tosE (z.take i)).count e.to < n ∧ (e.to ∉ tosE (z.drop (i + 1)) → n = (tosE (z.take i)).count e.to + 1) := by
  have hmem : e.to ∈ tosE z := List.mem_map.2 ⟨e, List.mem_of_getElem? he, rfl⟩
  obtain ⟨v, l1, l2⟩ := h.lst e.to hmem
  obtain ⟨cap, rfl⟩ := l2.shape
  have hr := rowsE_at (z.take i) (z.drop (i + 1)) e
  have hn := rowsE_len (z.take i) (z.drop (i + 1)) e
  rw [← split_at he] at hr hn
  refine ⟨_, cap, heap_cell l1 0, heap_cell l1 1, heap_cell l1 2, row_cell l2 hr, by omega, fun hno => ?_⟩
  rw [rowsE_none hno] at hn
  simpa using hn

theorem len_keys {w0 w : World} {B R b : Nat} {v0 v4 : Value} {z : List Ent} {L A : Nat → Nat} {Au : Nat} {zu : List Nat} (h : KSt w0 w B R b v0 v4 z L A Au zu) (q : Nat) (ty : TypeId) : (Builtin.len_ #[23] ty #[.map (some b)]).run Yba.prog (w.drewN q) = .ok (.int .i64 (cntL (keysE z))) (w.drewN q) := by
  obtain ⟨f0, M0, _⟩ := h.m0
  exact (M0.of_block (w' := w.drewN q) rfl).len Yba.underlying23 ty
theorem len_tos {w0 w : World} {B R b : Nat} {v0 v4 : Value} {z : List Ent} {L A : Nat → Nat} {Au : Nat} {zu : List Nat} (h : KSt w0 w B R b v0 v4 z L A Au zu) (q : Nat) (ty : TypeId) : (Builtin.len_ #[24] ty #[.map (some (b + 1))]).run Yba.prog (w.drewN q) = .ok (.int .i64 (cntL (tosE z))) (w.drewN q) := by
  obtain ⟨f1, M1, _⟩ := h.m1
  exact (M1.of_block (w' := w.drewN q) rfl).len Yba.underlying24 ty

set_option maxHeartbeats 4000000 in
set_option maxRecDepth 100000 in
theorem keep_walk (a : Option Addr) (b o c n : Nat) (T F S K : Nat → Nat) (w : World) (ha : 0 < n → a = some ⟨b, o, none⟩) (hn : ¬ (1024 : Int) < (n : Int))
    (h0 : ∀ i, i < n → w.cell? ⟨b, o + i * 4, none⟩ = some (.int .u8 (T i))) (h1 : ∀ i, i < n → w.cell? ⟨b, o + i * 4 + 1, none⟩ = some (.int .u8 (F i))) (h2 : ∀ i, i < n → w.cell? ⟨b, o + i * 4 + 2, none⟩ = some (.int .u8 (S i))) (h3 : ∀ i, i < n → w.cell? ⟨b, o + i * 4 + 3, none⟩ = some (.int .u8 (K i)))
    (hb : ∀ i, i < n → T i < 256 ∧ F i < 256 ∧ S i < 256 ∧ K i < 256) :
    Calls Yba.prog 3 #[.slice a n c] w fun e w' => e = .returned (.bool true) ∧ Below w.heap.size w w' := by
  have m33 := fun w => make33 w n (by omega)
  have CR := hid (resender_any w)
  go_enter Yba.func3, Yba.ntmps3
  go_wp2_with fail
  refine CR.out.mono ?_
  rintro e w1 ⟨v, rfl, rfl⟩
  unfold resA
  go_wp2_with fail
  have hst0 := st_start w v n
  clear m33 CR
  obtain ⟨R, hR⟩ : ∃ R, R = w.heap.size + 1 + 1 + 1 + 1 + 1 := ⟨_, rfl⟩
  rw [← hR] at hst0
  simp only [← hR]
  clear hR
  go_loopw [4, 29] (fun v4 v29 wr => ∃ (z : List Ent) (L A : Nat → Nat) (Au : Nat), z.length ≤ n ∧ v29 = .int .i64 (z.length : Nat) ∧ KSt w wr w.heap.size R (w.heap.size + 1) v v4 z L A Au (z.map Ent.g)) (fun _ v29 _ => n - (RowKit.intOf v29).toNat)
  case atStart => exact ⟨[], _, _, _, Nat.zero_le _, rfl, hst0⟩
  case round =>
    clear hst0
    obtain ⟨z, L, A, Au, hk, rfl, hst⟩ := hrel
    by_cases hlt : (z.length : Int) < (n : Int)
    · obtain rfl := ha (by omega)
      have c0 : wr.cell? ⟨b, o + z.length * 4, none⟩ = some (.int .u8 (T z.length)) := cell_later hst.below (h0 z.length (by omega))
      have c1 : wr.cell? ⟨b, o + z.length * 4 + 1, none⟩ = some (.int .u8 (F z.length)) := cell_later hst.below (h1 z.length (by omega))
      have c2 : wr.cell? ⟨b, o + z.length * 4 + 2, none⟩ = some (.int .u8 (S z.length)) := cell_later hst.below (h2 z.length (by omega))
      have c3 : wr.cell? ⟨b, o + z.length * 4 + 3, none⟩ = some (.int .u8 (K z.length)) := cell_later hst.below (h3 z.length (by omega))
      obtain ⟨bT, bF, bS, bK⟩ := hb z.length (by omega)
      generalize T z.length = t at c0 bT
      generalize F z.length = f at c1 bF
      generalize S z.length = s at c2 bS
      generalize K z.length = k at c3 bK
      obtain ⟨s', hs', bs'⟩ : ∃ s' : Nat, (s : Int).tmod 3 = (s' : Int) ∧ s' < 3 := ⟨s % 3, by rw [Int.tmod_eq_emod_of_nonneg (by omega)]; omega, by omega⟩
      obtain ⟨k', hk', bk'⟩ : ∃ k' : Nat, (k : Int).tmod 4 = (k' : Int) ∧ k' < 4 := ⟨k % 4, by rw [Int.tmod_eq_emod_of_nonneg (by omega)]; omega, by omega⟩
      have ws' : IntKind.u64.wrap (s' : Int) = (s' : Int) := IntWalk.u64_in _ (by omega)
      have CN := hid (fun w => name_any f bF w)
      have CT := hid (fun w => name_any t bT w)
      obtain ⟨cap4, rfl⟩ := hst.us.shape
      have HST := hid hst
      clear hst
      as_aux_lemma =>
        go_wp2_with fail
        have hP := heap_alloc_new wr (.cells #[.int .u8 t, .int .u8 f, .int .u8 s, .int .u8 k] 35)
        have gP := gr_alloc wr (.cells #[.int .u8 t, .int .u8 f, .int .u8 s, .int .u8 k] 35)
        have sP : (wr.alloc (.cells #[.int .u8 t, .int .u8 f, .int .u8 s, .int .u8 k] 35)).heap.size = wr.heap.size + 1 := by simp
        have HSP := hid (HST.out.gr gP)
        generalize (wr.alloc (.cells #[.int .u8 t, .int .u8 f, .int .u8 s, .int .u8 k] 35)) = wp at hP gP sP HSP ⊢
        have p0 : wp.cell? ⟨wr.heap.size, 0, none⟩ = some (.int .u8 t) := heap_cell hP 0
        have p1 : wp.cell? ⟨wr.heap.size, 1, none⟩ = some (.int .u8 f) := heap_cell hP 1
        have p2 : wp.cell? ⟨wr.heap.size, 2, none⟩ = some (.int .u8 s) := heap_cell hP 2
        have p3 : wp.cell? ⟨wr.heap.size, 3, none⟩ = some (.int .u8 k) := heap_cell hP 3
        have HGP := hid gP
        clear hP gP c0 c1 c2 c3
        go_region_held3 (fun w' => w'.cell? ⟨wr.heap.size, 1, none⟩ = some (.int .u8 f) ∧ w'.cell? ⟨wr.heap.size, 2, none⟩ = some (.int .u8 s) ∧ w'.cell? ⟨wr.heap.size, 3, none⟩ = some (.int .u8 k)) (go_keep)
          (first | (go_at_call 6; refine (CN.out _).mono ?_; rintro e w' ⟨rfl, rfl⟩))
        go_wp2_with fail
        refine (CT.out _).mono ?_
        rintro e w' ⟨rfl, rfl⟩
        have CK := hid (keep_round HSP.out (by omega) sP (Nat.mod_lt t (by decide : 3 > 0)) (Nat.mod_lt f (by decide : 3 > 0)) bs' bk')
        go_wp2_with fail
        refine CK.out.mono ?_
        rintro e w3 ⟨rfl, L2, A2, hst3⟩
        have HS3 := hid hst3
        clear hst3 CK
        have HROW : Hid (RowP (w3.alloc (.cells #[.pointer (some ⟨wr.heap.size + 1 + 1, 0, none⟩)] 50)) (.slice (some ⟨Au, 0, none⟩) z.length cap4) (some Au) (z.map Ent.g)) := by
          have := HS3.out.us.gr (gr_alloc w3 (.cells #[.pointer (some ⟨wr.heap.size + 1 + 1, 0, none⟩)] 50)) (fun _ _ h => h)
          rw [List.length_map] at this
          exact this
        have HLEN : Hid ((z.map Ent.g).length ≤ 100000) := hid (by rw [List.length_map]; omega)
        have HCELL : Hid ((w3.alloc (.cells #[.pointer (some ⟨wr.heap.size + 1 + 1, 0, none⟩)] 50)).cell? ⟨w3.heap.size, 0, none⟩ = some (pv (wr.heap.size + 1 + 1))) := hid (heap_cell (heap_alloc_new w3 (.cells #[pv (wr.heap.size + 1 + 1)] 50)) 0)
        go_wp2_with (at_builtin; refine wp_appR rfl (.tmp 53) (.tmp 55) rfl rfl HROW.out HLEN.out w3.heap.size 1 (wr.heap.size + 1 + 1) rfl HCELL.out ?_)
        intro v' g' w4 r1 r2 r3
        have hst4 := (HS3.out.gr (gr_alloc w3 (.cells #[.pointer (some ⟨wr.heap.size + 1 + 1, 0, none⟩)] 50))).app r1 (by simpa using r2) r3
        clear r1 r2 r3
        go_wp2_with fail
        go_roundw
        case rel => exact ⟨z ++ [⟨t % 3, f % 3, s', k', wr.heap.size + 1 + 1, wr.heap.size + 1⟩], L2, A2, g', by simp; omega, by simp, by simpa using hst4⟩
        case measure => simp [RowKit.intOf]; omega
    · have hzn : n = z.length := by omega
      subst hzn
      obtain ⟨cap4, rfl⟩ := hst.us.shape
      rw [List.length_map] at hst ⊢
      have hz : z.length ≤ 1024 := by omega
      have cR0 : wr.cell? ⟨R, 0, none⟩ = some (.map (some (w.heap.size + 1))) := heap_cell hst.r 0
      have cR1 : wr.cell? ⟨R, 1, none⟩ = some (.map (some (w.heap.size + 1 + 1))) := heap_cell hst.r 1
      have cR2 : wr.cell? ⟨R, 2, none⟩ = some (.pointer (some ⟨w.heap.size + 1 + 2, 0, none⟩)) := heap_cell hst.r 2
      have cR3 : wr.cell? ⟨R, 3, none⟩ = some (.int .u64 z.length) := heap_cell hst.r 3
      have cR4 : wr.cell? ⟨R, 4, none⟩ = some (.map (some (w.heap.size + 1 + 3))) := heap_cell hst.r 4
      have cR5 : wr.cell? ⟨R, 5, none⟩ = some (.int .i64 0) := heap_cell hst.r 5
      have cR6 : wr.cell? ⟨R, 6, none⟩ = some .nilFunc := heap_cell hst.r 6
      have cR7 : wr.cell? ⟨R, 7, none⟩ = some (.int .u64 0) := heap_cell hst.r 7
      have cQ : wr.cell? ⟨w.heap.size + 1 + 2, 0, none⟩ = some (.slice none 0 0) := heap_cell hst.queue 0
      have lR := rtt_len hst.rtt
      have wz : IntKind.u64.wrap (z.length : Int) = (z.length : Int) := IntWalk.u64_in _ (by omega)
      have nf := ne_nilFunc
      have HST := hid hst
      clear hst ha h0 h1 h2 h3 hb hk hlt
      go_wp2_with fail
      clear lR cR2 cR3 cR4 cR5 cR6 cR7 cQ nf
      rename World => wa
      go_loopw [10, 11, 12] (fun v10 v11 v12 wr => ∃ (i lk mb q : Nat), i ≤ z.length ∧ v12 = .int .i64 i ∧ v10 = .int .i64 lk ∧ v11 = .int .i64 mb ∧ lk + cntL (keysE (z.drop i)) = cntL (keysE z) ∧ mb + cntL (tosE (z.drop i)) = cntL (tosE z) ∧ lk ≤ i ∧ mb ≤ i ∧ wr = wa.drewN q) (fun _ _ v12 _ => z.length - (RowKit.intOf v12).toNat)
      case atStart => exact ⟨0, 0, 0, 0, Nat.zero_le _, rfl, rfl, rfl, by simp, by simp, Nat.le_refl _, Nat.le_refl _, rfl⟩
      case round =>
        obtain ⟨i, lk, mb, q, hi, rfl, rfl, rfl, hlk, hmb, hlki, hmbi, rfl⟩ := hrel
        by_cases hlt : (i : Int) < (z.length : Int)
        · obtain ⟨e, he⟩ : ∃ e, z[i]? = some e := ⟨z[i]'(by omega), List.getElem?_eq_getElem _⟩
          have hem : e ∈ z := List.mem_of_getElem? he
          obtain ⟨u1, u2⟩ := HST.out.un i e he
          have HSPL := hid (split_at he)
          have HLK := hid hlk
          have HMB := hid hmb
          have HE := hid he
          clear hlk hmb
          have cA : wa.cell? ⟨Au, i, none⟩ = some (.pointer (some ⟨e.g, 0, none⟩)) := row_cell HST.out.us (by rw [List.getElem?_map, he]; rfl)
          have ce0 : wa.cell? ⟨e.g, 0, none⟩ = some (.string (nm e.to)) := heap_cell u1 0
          have ce1 : wa.cell? ⟨e.g, 1, none⟩ = some (.pointer (some ⟨e.m, 0, none⟩)) := heap_cell u1 1
          have ce5 : wa.cell? ⟨e.g, 5, none⟩ = some (.int .i64 0) := heap_cell u1 5
          have ce6 : wa.cell? ⟨e.g, 6, none⟩ = some (.int .u64 i) := heap_cell u1 6
          have ce7 : wa.cell? ⟨e.g, 7, none⟩ = some (.bool false) := heap_cell u1 7
          have ce8 : wa.cell? ⟨e.g, 8, none⟩ = some (.pointer (some ⟨L e.to, 0, none⟩)) := heap_cell u1 8
          have ce9 : wa.cell? ⟨e.g, 9, none⟩ = some (.int .u64 ((tosE (z.take i)).count e.to : Nat)) := heap_cell u1 9
          have cm0 : wa.cell? ⟨e.m, 0, none⟩ = some (.int .u8 e.kd) := heap_cell u2 0
          have cm4 : wa.cell? ⟨e.m, 4, none⟩ = some (.string (nm e.fr)) := heap_cell u2 4
          have cm6 : wa.cell? ⟨e.m, 6, none⟩ = some (.int .u64 e.sq) := heap_cell u2 6
          have wi : IntKind.u64.wrap (i : Int) = (i : Int) := IntWalk.u64_in _ (by omega)
          clear u1 u2 he
          go_wp2_with fail
          go_loopw [14, 15, 16] (fun v14 v15 v16 wr => ∃ (d q' : Nat), i + 1 + d ≤ z.length ∧ v16 = .int .i64 ((i + 1 + d : Nat) : Int) ∧ v14 = .bool (decide (e.key ∈ keysE ((z.drop (i + 1)).take d))) ∧ v15 = .bool (decide (e.to ∈ tosE ((z.drop (i + 1)).take d))) ∧ wr = wa.drewN q') (fun _ _ v16 _ => z.length - (RowKit.intOf v16).toNat)
          case atStart => exact ⟨0, q, by omega, by simp, by simp [keysE], by simp [tosE], rfl⟩
          case round =>
            obtain ⟨d, q', hd, rfl, rfl, rfl, rfl⟩ := hrel
            by_cases hlt3 : ((i + 1 + d : Nat) : Int) < (z.length : Int)
            · obtain ⟨x, hx⟩ : ∃ x, z[i + 1 + d]? = some x := ⟨z[i + 1 + d]'(by omega), List.getElem?_eq_getElem _⟩
              have hxm : x ∈ z := List.mem_of_getElem? hx
              obtain ⟨x1, x2⟩ := HST.out.un _ x hx
              obtain ⟨u1, u2⟩ := HST.out.un i e HE.out
              have hok := HST.out.ok e hem
              have hokx := HST.out.ok x hxm
              have cX : wa.cell? ⟨Au, i + 1 + d, none⟩ = some (.pointer (some ⟨x.g, 0, none⟩)) := row_cell HST.out.us (by rw [List.getElem?_map, hx]; rfl)
              have cx0 : wa.cell? ⟨x.g, 0, none⟩ = some (.string (nm x.to)) := heap_cell x1 0
              have CS := hid (same_any (wa.drewN q') e.g x.g e.m x.m _ _ _ _ _ _ _ _ _ _ _ _ _ _ u1 x1 u2 x2 _ (key_bool hok hokx))
              have hto := nm_toList x.to e.to hokx.1 hok.1
              have HX := hid (take_drop_succ hx)
              clear x1 x2 u1 u2 hok hokx hx
              go_wp2_with fail
              refine CS.out.mono ?_
              rintro e1 w5 ⟨rfl, q5, rfl⟩
              by_cases hkk : e.key = x.key
              · have hkd : decide (e.key = x.key) = true := decide_eq_true hkk
                have htt : x.to = e.to := by
                  have := hkk
                  simp only [Ent.key, Prod.mk.injEq] at this
                  exact this.1.symm
                have htd : ((nm x.to).toList == (nm e.to).toList) = true := by rw [hto]; exact decide_eq_true htt
                rw [hkd]
                clear hto
                have HKK := hid hkk
                have HTT := hid htt
                clear hkk htt hkd
                as_aux_lemma =>
                  go_wp2_with fail
                  go_quiet (fail)
                  go_wp2_with fail
                  go_roundw
                  case rel => exact ⟨d + 1, _, by omega, by go_num, by rw [HX.out]; simp [keysE, HKK.out], by rw [HX.out]; simp [tosE, HTT.out], rfl⟩
                  case measure => simp [RowKit.intOf]; omega
              · have hkd : decide (e.key = x.key) = false := decide_eq_false hkk
                by_cases htt : x.to = e.to
                · have htd : ((nm x.to).toList == (nm e.to).toList) = true := by rw [hto]; exact decide_eq_true htt
                  rw [hkd]
                  clear hto
                  have HKK := hid hkk
                  have HTT := hid htt
                  clear hkk htt hkd
                  as_aux_lemma =>
                    go_wp2_with fail
                    go_quiet (fail)
                    go_wp2_with fail
                    go_roundw
                    case rel => exact ⟨d + 1, _, by omega, by go_num, by rw [HX.out]; simp [keysE, HKK.out], by rw [HX.out]; simp [tosE, HTT.out], rfl⟩
                    case measure => simp [RowKit.intOf]; omega
                · have htd : ((nm x.to).toList == (nm e.to).toList) = false := by rw [hto]; exact decide_eq_false htt
                  rw [hkd]
                  clear hto
                  have HKK := hid hkk
                  have HTT : Hid (¬ e.to = x.to) := fun h => htt h.symm
                  clear hkk htt hkd
                  as_aux_lemma =>
                    go_wp2_with fail
                    go_quiet (fail)
                    go_wp2_with fail
                    go_roundw
                    case rel => exact ⟨d + 1, _, by omega, by go_num, by rw [HX.out]; simp [keysE, HKK.out], by rw [HX.out]; simp [tosE, HTT.out], rfl⟩
                    case measure => simp [RowKit.intOf]; omega
            · have HD : (z.drop (i + 1)).take d = z.drop (i + 1) := List.take_of_length_le (by simp; omega)
              rw [HD]
              clear HD
              have hcd : keysE (z.drop i) = e.key :: keysE (z.drop (i + 1)) := by
                have := List.drop_eq_getElem_cons (l := z) (i := i) (by omega)
                have he := (List.getElem?_eq_some_iff.1 HE.out).2
                rw [this, he]; rfl
              have htd : tosE (z.drop i) = e.to :: tosE (z.drop (i + 1)) := by
                have := List.drop_eq_getElem_cons (l := z) (i := i) (by omega)
                have he := (List.getElem?_eq_some_iff.1 HE.out).2
                rw [this, he]; rfl
              have HCD := hid hcd
              have HTD := hid htd
              clear hcd htd
              obtain ⟨ln, lcap, l0, l1, l2, l3, l4, l5⟩ := list_at HST.out HE.out
              have lto := look_to HST.out hem
              by_cases hkl : e.key ∈ keysE (z.drop (i + 1))
              · have hb1 : decide (e.key ∈ keysE (z.drop (i + 1))) = true := decide_eq_true hkl
                rw [hb1]
                have HKL := hid hkl
                clear hb1 hkl
                as_aux_lemma =>
                  go_wp2_with fail
                  go_loopw [17, 18] (fun v17 v18 wr => ∃ (k q' : Nat), k ≤ i ∧ v18 = .int .i64 k ∧ v17 = .int .i64 ((tosE (z.take k)).count e.to : Nat) ∧ wr = wa.drewN q') (fun _ v18 _ => i - (RowKit.intOf v18).toNat)
                  case atStart => exact ⟨0, _, Nat.zero_le _, rfl, by simp [tosE], rfl⟩
                  case round =>
                    obtain ⟨k, q6, hki, rfl, rfl, rfl⟩ := hrel
                    obtain ⟨J, hJ⟩ : ∃ J, J = (tosE (z.take k)).count e.to := ⟨_, rfl⟩
                    have bJ : J ≤ 1024 := by
                      have h1 : (tosE (z.take k)).count e.to ≤ (tosE (z.take k)).length := List.count_le_length
                      have h2 : (tosE (z.take k)).length = min k z.length := by simp [tosE]
                      omega
                    rw [← hJ]
                    by_cases hlt4 : (k : Int) < (i : Int)
                    · obtain ⟨x, hx⟩ : ∃ x, z[k]? = some x := ⟨z[k]'(by omega), List.getElem?_eq_getElem _⟩
                      have hxm : x ∈ z := List.mem_of_getElem? hx
                      have cX : wa.cell? ⟨Au, k, none⟩ = some (.pointer (some ⟨x.g, 0, none⟩)) := row_cell HST.out.us (by rw [List.getElem?_map, hx]; rfl)
                      have cx0 : wa.cell? ⟨x.g, 0, none⟩ = some (.string (nm x.to)) := heap_cell (HST.out.un _ x hx).1 0
                      have hto := nm_toList x.to e.to (HST.out.ok x hxm).1 (HST.out.ok e hem).1
                      have HX := hid (take_succ_at hx)
                      have HJ := hid hJ
                      clear hx hJ
                      by_cases htt : x.to = e.to
                      · have htd : ((nm x.to).toList == (nm e.to).toList) = true := by rw [hto]; exact decide_eq_true htt
                        have HTT := hid htt
                        clear hto htt
                        as_aux_lemma =>
                          go_wp2_with fail
                          go_quiet (fail)
                          go_wp2_with fail
                          go_roundw
                          case rel => exact ⟨k + 1, _, by omega, by go_num, by rw [HX.out]; simp [tosE, List.count_append, HTT.out, HJ.out], rfl⟩
                          case measure => simp [RowKit.intOf]; omega
                      · have htd : ((nm x.to).toList == (nm e.to).toList) = false := by rw [hto]; exact decide_eq_false htt
                        have HTT := hid htt
                        clear hto htt
                        as_aux_lemma =>
                          go_wp2_with fail
                          go_quiet (fail)
                          go_wp2_with fail
                          go_roundw
                          case rel => exact ⟨k + 1, _, by omega, by go_num, by rw [HX.out]; simp [tosE, List.count_append, HTT.out, HJ.out], rfl⟩
                          case measure => simp [RowKit.intOf]; omega
                    · obtain rfl : k = i := by omega
                      rw [← hJ] at ce9 l3 l4 l5
                      clear hJ
                      have wJ : IntKind.u64.wrap (J : Int) = (J : Int) := IntWalk.u64_in _ (by omega)
                      have n51 := eq51_same
                      have n50 := eq50_same
                      have hge : ¬ ((ln : Int) ≤ (J : Int)) := by omega
                      have hJl : (J : Int) < (ln : Int) := by omega
                      by_cases htl : e.to ∈ tosE (z.drop (k + 1))
                      · have hb2 : decide (e.to ∈ tosE (z.drop (k + 1))) = true := decide_eq_true htl
                        rw [hb2]
                        have HTL := hid htl
                        clear hb2 htl l5
                        as_aux_lemma =>
                          go_wp2_with fail
                          go_quiet (fail)
                          go_wp2_with fail
                          go_roundw
                          case rel => exact ⟨k + 1, lk, mb, _, by omega, by go_num, rfl, rfl, by have := HLK.out; rw [HCD.out] at this; simp only [cntL, HKL.out, if_true] at this; omega, by have := HMB.out; rw [HTD.out] at this; simp only [cntL, HTL.out, if_true] at this; omega, by omega, by omega, rfl⟩
                          case measure => simp [RowKit.intOf]; omega
                      · have hb2 : decide (e.to ∈ tosE (z.drop (k + 1))) = false := decide_eq_false htl
                        obtain rfl := l5 htl
                        rw [hb2]
                        have HTL := hid htl
                        clear hb2 htl l5
                        as_aux_lemma =>
                          go_wp2_with fail
                          go_quiet (fail)
                          go_wp2_with fail
                          go_roundw
                          case rel => exact ⟨k + 1, lk, mb + 1, _, by omega, by go_num, rfl, by go_num, by have := HLK.out; rw [HCD.out] at this; simp only [cntL, HKL.out, if_true] at this; omega, by have := HMB.out; rw [HTD.out] at this; simp only [cntL, HTL.out, if_false] at this; omega, by omega, by omega, rfl⟩
                          case measure => simp [RowKit.intOf]; omega
              · have hb1 : decide (e.key ∈ keysE (z.drop (i + 1))) = false := decide_eq_false hkl
                have lkk := look_key HST.out HE.out hkl
                have n50 := eq50_same
                rw [hb1]
                have HKL := hid hkl
                clear hb1 hkl
                as_aux_lemma =>
                  go_wp2_with fail
                  go_quiet (fail)
                  go_wp2_with fail
                  go_loopw [17, 18] (fun v17 v18 wr => ∃ (k q' : Nat), k ≤ i ∧ v18 = .int .i64 k ∧ v17 = .int .i64 ((tosE (z.take k)).count e.to : Nat) ∧ wr = wa.drewN q') (fun _ v18 _ => i - (RowKit.intOf v18).toNat)
                  case atStart => exact ⟨0, q' + nq, Nat.zero_le _, rfl, by simp [tosE], by simp⟩
                  case round =>
                    obtain ⟨k, q6, hki, rfl, rfl, rfl⟩ := hrel
                    obtain ⟨J, hJ⟩ : ∃ J, J = (tosE (z.take k)).count e.to := ⟨_, rfl⟩
                    have bJ : J ≤ 1024 := by
                      have h1 : (tosE (z.take k)).count e.to ≤ (tosE (z.take k)).length := List.count_le_length
                      have h2 : (tosE (z.take k)).length = min k z.length := by simp [tosE]
                      omega
                    rw [← hJ]
                    by_cases hlt4 : (k : Int) < (i : Int)
                    · obtain ⟨x, hx⟩ : ∃ x, z[k]? = some x := ⟨z[k]'(by omega), List.getElem?_eq_getElem _⟩
                      have hxm : x ∈ z := List.mem_of_getElem? hx
                      have cX : wa.cell? ⟨Au, k, none⟩ = some (.pointer (some ⟨x.g, 0, none⟩)) := row_cell HST.out.us (by rw [List.getElem?_map, hx]; rfl)
                      have cx0 : wa.cell? ⟨x.g, 0, none⟩ = some (.string (nm x.to)) := heap_cell (HST.out.un _ x hx).1 0
                      have hto := nm_toList x.to e.to (HST.out.ok x hxm).1 (HST.out.ok e hem).1
                      have HX := hid (take_succ_at hx)
                      have HJ := hid hJ
                      clear hx hJ
                      by_cases htt : x.to = e.to
                      · have htd : ((nm x.to).toList == (nm e.to).toList) = true := by rw [hto]; exact decide_eq_true htt
                        have HTT := hid htt
                        clear hto htt
                        as_aux_lemma =>
                          go_wp2_with fail
                          go_quiet (fail)
                          go_wp2_with fail
                          go_roundw
                          case rel => exact ⟨k + 1, _, by omega, by go_num, by rw [HX.out]; simp [tosE, List.count_append, HTT.out, HJ.out], rfl⟩
                          case measure => simp [RowKit.intOf]; omega
                      · have htd : ((nm x.to).toList == (nm e.to).toList) = false := by rw [hto]; exact decide_eq_false htt
                        have HTT := hid htt
                        clear hto htt
                        as_aux_lemma =>
                          go_wp2_with fail
                          go_quiet (fail)
                          go_wp2_with fail
                          go_roundw
                          case rel => exact ⟨k + 1, _, by omega, by go_num, by rw [HX.out]; simp [tosE, List.count_append, HTT.out, HJ.out], rfl⟩
                          case measure => simp [RowKit.intOf]; omega
                    · obtain rfl : k = i := by omega
                      rw [← hJ] at ce9 l3 l4 l5
                      clear hJ
                      have wJ : IntKind.u64.wrap (J : Int) = (J : Int) := IntWalk.u64_in _ (by omega)
                      have n51 := eq51_same
                      have n50 := eq50_same
                      have hge : ¬ ((ln : Int) ≤ (J : Int)) := by omega
                      have hJl : (J : Int) < (ln : Int) := by omega
                      by_cases htl : e.to ∈ tosE (z.drop (k + 1))
                      · have hb2 : decide (e.to ∈ tosE (z.drop (k + 1))) = true := decide_eq_true htl
                        rw [hb2]
                        have HTL := hid htl
                        clear hb2 htl l5
                        as_aux_lemma =>
                          go_wp2_with fail
                          go_quiet (fail)
                          go_wp2_with fail
                          go_roundw
                          case rel => exact ⟨k + 1, lk + 1, mb, _, by omega, by go_num, by go_num, rfl, by have := HLK.out; rw [HCD.out] at this; simp only [cntL, HKL.out, if_false] at this; omega, by have := HMB.out; rw [HTD.out] at this; simp only [cntL, HTL.out, if_true] at this; omega, by omega, by omega, rfl⟩
                          case measure => simp [RowKit.intOf]; omega
                      · have hb2 : decide (e.to ∈ tosE (z.drop (k + 1))) = false := decide_eq_false htl
                        obtain rfl := l5 htl
                        rw [hb2]
                        have HTL := hid htl
                        clear hb2 htl l5
                        as_aux_lemma =>
                          go_wp2_with fail
                          go_quiet (fail)
                          go_wp2_with fail
                          go_roundw
                          case rel => exact ⟨k + 1, lk + 1, mb + 1, _, by omega, by go_num, by go_num, by go_num, by have := HLK.out; rw [HCD.out] at this; simp only [cntL, HKL.out, if_false] at this; omega, by have := HMB.out; rw [HTD.out] at this; simp only [cntL, HTL.out, if_false] at this; omega, by omega, by omega, rfl⟩
                          case measure => simp [RowKit.intOf]; omega
        · obtain rfl : i = z.length := by omega
          have e1 : lk = cntL (keysE z) := by
            have := hlk
            rw [List.drop_length] at this
            exact this
          have e2 : mb = cntL (tosE z) := by
            have := hmb
            rw [List.drop_length] at this
            exact this
          have lk1 := len_keys HST.out
          have lt1 := len_tos HST.out
          have HB := hid ((gr_drewN wa q).below HST.out.below HST.out.size (fun _ h => h.elim))
          clear hlk hmb
          subst e1 e2
          go_wp2_with fail
          go_ret
          exact ⟨by simp, HB.out⟩
end Go.Proofs.Ybulkctac
