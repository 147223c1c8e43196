/-
  Maps whose elements are pointers to whole blocks; rows of pointers.
-/
import Derived.Test.YbulkctacBase
namespace Go.Proofs.Ybulkctac
open Go.RowKit
open Go.Maps (Keyed)
set_option linter.unusedVariables false

/-- a pointer to block g, or nil -/
def ptrO : Option Nat → Value
  | none => .pointer none
  | some g => .pointer (some ⟨g, 0, none⟩)
def ptrD : Option Nat → DataW Unit
  | none => .lit (.int .i64 (-1))
  | some g => .lit (.int .i64 g)
def ptrR : Value → Option (DataW Unit × List MemPlace)
  | .pointer none => some (ptrD none, [])
  | .pointer (some ⟨g, 0, none⟩) => some (ptrD (some g), [])
  | _ => none
theorem ptrR_mk (o : Option Nat) : ptrR (ptrO o) = some (ptrD o, []) := by cases o <;> rfl
theorem ptrD_inj : ∀ {o o' : Option Nat}, ptrD o = ptrD o' → o = o'
  | none, none, _ => rfl
  | none, some g, h => by simp [ptrD] at h
  | some g, none, h => by simp [ptrD] at h
  | some g, some g', h => by
    have : (g : Int) = (g' : Int) := by simpa [ptrD] using h
    rw [Int.ofNat_inj.1 this]
theorem ptrR_inv {v : Value} {o : Option Nat} {ps : List MemPlace} (h : ptrR v = some (ptrD o, ps)) : v = ptrO o := by
  unfold ptrR at h
  split at h
  · simp at h; rw [← ptrD_inj h.1]; rfl
  · simp at h; rw [← ptrD_inj h.1]; rfl
  · cases h

/-- block b is a map of at most n entries: f what stands at a key; sz how many -/
def MapP (w : World) (k : TypeId) (b n : Nat) (f : Lit → Option Nat) (sz : Nat) : Prop :=
  ∃ D : DataW Unit, w.ownsMap Yba.prog k ptrR b n D ∧ (∀ kl, D.atKey kl (ptrD none) = ptrD (f kl)) ∧ (∀ kl, Maps.has D kl = (f kl).isSome) ∧ Maps.size D = sz

theorem MapP.made (w : World) (k : TypeId) : MapP (w.alloc (.map #[] 0)) k w.heap.size 0 (fun _ => none) 0 :=
  ⟨.map [], World.ownsMap_made w Yba.prog k ptrR, fun _ => rfl, fun _ => rfl, rfl⟩

theorem MapP.lt {w : World} {k : TypeId} {b n sz : Nat} {f : Lit → Option Nat} (h : MapP w k b n f sz) : b < w.heap.size := by
  obtain ⟨D, h1, _⟩ := h
  exact h1.lt

theorem MapP.is {w : World} {k : TypeId} {b n sz : Nat} {f : Lit → Option Nat} (h : MapP w k b n f sz) : ∃ es clock, w.heap[b]? = some (.map es clock) := by
  obtain ⟨D, ⟨es, clock, hb, _⟩, _⟩ := h
  exact ⟨es, clock, hb⟩

theorem MapP.of_block {w w' : World} {k : TypeId} {b n sz : Nat} {f : Lit → Option Nat} (h : MapP w k b n f sz) (hb : w'.heap[b]? = w.heap[b]?) : MapP w' k b n f sz := by
  obtain ⟨D, ⟨es, clock, hb0, F, hs, hD⟩, h2, h3, h4⟩ := h
  exact ⟨D, ⟨es, clock, hb.trans hb0, F, hs, hD⟩, h2, h3, h4⟩

theorem MapP.lookup {w : World} {k : TypeId} {b n sz : Nat} {f : Lit → Option Nat} (h : MapP w k b n f sz) (K : Keyed Yba.prog k) {t e : TypeId} (ht : Yba.prog.underlying t = some (.map k e)) (hz : (zeroValue e).run Yba.prog w = .ok (.pointer none) w)
    {key : Value} {kl : Lit} (hkey : keyOf Yba.prog k key = some kl) : (Instr.lookup t (.map (some b)) key false).run Yba.prog w = .ok (ptrO (f kl)) w := by
  obtain ⟨D, h1, h2, h3, h4⟩ := h
  obtain ⟨v, ps, hrun, hR⟩ := h1.lookup K ht hz (zd := ptrD none) (zp := []) rfl hkey
  rw [h2 kl] at hR
  rw [hrun, ptrR_inv hR]

theorem MapP.update {w : World} {k : TypeId} {b n sz : Nat} {f : Lit → Option Nat} (h : MapP w k b n f sz) (K : Keyed Yba.prog k) {t e : TypeId} (ht : Yba.prog.underlying t = some (.map k e)) (hn : n < maxLen)
    {key : Value} {kl : Lit} (hkey : keyOf Yba.prog k key = some kl) (g : Nat) :
    ∃ w', (Instr.mapUpdate t (.map (some b)) key (.pointer (some ⟨g, 0, none⟩))).run Yba.prog w = .ok () w' ∧ w.grownBy w' (some b) ∧
      ∀ f' : Lit → Option Nat, f' kl = some g → (∀ x, x ≠ kl → f' x = f x) → MapP w' k b (n + 1) f' (if (f kl).isSome then sz else sz + 1) := by
  obtain ⟨D, h1, h2, h3, h4⟩ := h
  obtain ⟨w', hrun, hown, hg⟩ := h1.update K ht hn hkey (val := .pointer (some ⟨g, 0, none⟩)) (d := ptrD (some g)) (ps := []) rfl
  refine ⟨w', hrun, hg, fun f' hs ho => ⟨_, hown, fun x => ?_, fun x => ?_, ?_⟩⟩
  · by_cases hx : x = kl
    · subst hx
      rw [Maps.atKey_put_same h1.isMap (K.key hkey), hs]
    · rw [Maps.atKey_put_other hx, h2, ho x hx]
  · by_cases hx : x = kl
    · subst hx
      rw [Maps.has_put_same h1.isMap (K.key hkey), hs]
      rfl
    · rw [Maps.has_put_other hx, h3, ho x hx]
  · rw [Maps.size_put (h1.tidy K), h3, h4]

theorem MapP.len {w : World} {k : TypeId} {b n sz : Nat} {f : Lit → Option Nat} (h : MapP w k b n f sz) {t e : TypeId} (ht : Yba.prog.underlying t = some (.map k e)) (ty : TypeId) :
    (Builtin.len_ #[t] ty #[.map (some b)]).run Yba.prog w = .ok (.int .i64 sz) w := by
  obtain ⟨D, h1, h2, h3, h4⟩ := h
  rw [h1.len ht ty, h4]

theorem zero50 (w : World) : (zeroValue 50).run Yba.prog w = .ok (.pointer none) w := by kernel_rfl
theorem zero51 (w : World) : (zeroValue 51).run Yba.prog w = .ok (.pointer none) w := by kernel_rfl
theorem info50 : (Yba.prog.info? 50).map (fun i => (i.zero, i.size, i.bytes)) = some (some (.pointer none), 1, 8) := by kernel_rfl
theorem info53 : (Yba.prog.info? 53).map (·.size) = some 10 := by kernel_rfl
theorem info61 : (Yba.prog.info? 61).map (·.size) = some 3 := by kernel_rfl

/-! ### pointers compared -/
theorem eq50_same (w : World) (a : Addr) : (binOp .neq 50 (.pointer (some a)) (.pointer (some a))).run Yba.prog w = .ok (.bool false) w := by
  obtain ⟨j, hte, _⟩ := Option.map_eq_some_iff.1 info53
  have h : ∀ d : Nat, (Op.equalIn (d + 1) 50 (.pointer (some a)) (.pointer (some a))).run Yba.prog w = .ok true w := fun d => by
    simp [Op.equalIn, run_underlying Yba.underlying50, sizeOf, typeInfo, hte, run_sameAddr_same]
  simp only [binOp]
  simp [Op.equal, Op.maxDepth, h 9999]
theorem eq51_same (w : World) (a : Addr) : (binOp .neq 51 (.pointer (some a)) (.pointer (some a))).run Yba.prog w = .ok (.bool false) w := by
  obtain ⟨j, hte, _⟩ := Option.map_eq_some_iff.1 info61
  have h : ∀ d : Nat, (Op.equalIn (d + 1) 51 (.pointer (some a)) (.pointer (some a))).run Yba.prog w = .ok true w := fun d => by
    simp [Op.equalIn, run_underlying Yba.underlying51, sizeOf, typeInfo, hte, run_sameAddr_same]
  simp only [binOp]
  simp [Op.equal, Op.maxDepth, h 9999]

/-! ### the unacked sends -/
/-- an unacked's cells -/
def unA (t : ByteArray) (m : Nat) (i : Nat) (l : Value) (p : Int) : Array Value := #[.string t, .pointer (some ⟨m, 0, none⟩), .int .i64 0, .int .i64 0, .int .u64 0, .int .i64 0, .int .u64 i, .bool false, l, .int .u64 p]

def pv (g : Nat) : Value := .pointer (some ⟨g, 0, none⟩)

theorem setCell_self {w : World} {g : Nat} {cur : Array Value} {e : TypeId} {j : Nat} {v : Value} (h : w.heap[g]? = some (.cells cur e (0, 0))) (hv : cur[j]? = some v) : w.setCell ⟨g, j, none⟩ v = w := by
  have hset : cur.setIfInBounds j v = cur := by
    apply Array.ext_getElem?
    intro i
    by_cases hi : j = i
    · subst hi
      rw [Array.getElem?_setIfInBounds_self]
      obtain ⟨hlt, hx⟩ := Array.getElem?_eq_some_iff.1 hv
      simp [hlt, hx]
    · rw [Array.getElem?_setIfInBounds_ne hi]
  have : (w.setCell ⟨g, j, none⟩ v).heap = w.heap := by
    apply Array.ext_getElem?
    intro i
    by_cases hi : i = g
    · subst hi
      rw [heap_set_same h, hset, h]
    · exact heap_set_other w _ v i hi
  cases w
  simp only [World.setCell] at this ⊢
  rw [this]
end Go.Proofs.Ybulkctac
