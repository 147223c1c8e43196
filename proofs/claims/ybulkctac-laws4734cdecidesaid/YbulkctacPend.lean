/-
  LawS4734CDecide: the map of the latest.
-/
import Derived.Test.YbulkctacDecide
namespace Go.Proofs.Ybulkctac
open Go.RowKit
open Go.Maps (Keyed)
set_option linter.unusedVariables false
set_option linter.unusedSimpArgs false

theorem zero26 (w : World) : (zeroValue 26).run Yba.prog w = .ok (.int .u64 0) w := by kernel_rfl

/-- block gm is a map of names that holds, for every name, the latest of the first i -/
def LatP (w : World) (gm i : Nat) (ks : Nat → ByteArray) (vs : Nat → Int) : Prop :=
  ∃ D : DataW Unit, w.ownsMap Yba.prog 9 (plainElem Yba.prog 26) gm i D ∧ ∀ f : ByteArray, D.atKey (.string f.data.toList) (.lit (.int .u64 0)) = .lit (.int .u64 (latestF ks vs f i))

theorem LatP.made (w : World) (ks : Nat → ByteArray) (vs : Nat → Int) : LatP (w.alloc (.map #[] 0)) w.heap.size 0 ks vs := ⟨.map [], World.ownsMap_made w Yba.prog 9 _, fun _ => rfl⟩

theorem LatP.of_block {w w' : World} {gm i : Nat} {ks : Nat → ByteArray} {vs : Nat → Int} (h : LatP w gm i ks vs) (hb : w'.heap[gm]? = w.heap[gm]?) : LatP w' gm i ks vs := by
  obtain ⟨D, ⟨es, clock, hb0, F, hs, hD⟩, h2⟩ := h
  exact ⟨D, ⟨es, clock, hb.trans hb0, F, hs, hD⟩, h2⟩

theorem LatP.lt {w : World} {gm i : Nat} {ks : Nat → ByteArray} {vs : Nat → Int} (h : LatP w gm i ks vs) : gm < w.heap.size := by
  obtain ⟨D, h1, _⟩ := h
  exact h1.lt

theorem LatP.store {w : World} {gm i : Nat} {ks : Nat → ByteArray} {vs : Nat → Int} (h : LatP w gm i ks vs) (hi : i ≤ 1024) (hk : (ks i).size ≤ maxLen) (hv : (Lit.int .u64 (vs i)).wf = true) :
    ∃ w', (Instr.mapUpdate 65 (.map (some gm)) (.string (ks i)) (.int .u64 (vs i))).run Yba.prog w = .ok () w' ∧ LatP w' gm (i + 1) ks vs ∧ w.grownBy w' (some gm) := by
  obtain ⟨D, h1, h2⟩ := h
  obtain ⟨w', hrun, hown, hg⟩ := h1.update law9 Yba.underlying65 (by unfold maxLen; omega) (key9 (ks i) hk) (plainElem_int Yba.underlying26 hv)
  refine ⟨w', hrun, ⟨_, hown, fun f => ?_⟩, hg⟩
  by_cases he : f.data.toList = (ks i).data.toList
  · have e1 : ((ks i).toList == f.toList) = true := by rw [ByteArray.toList_eq, ByteArray.toList_eq, he]; simp
    rw [he, Maps.atKey_put_same h1.isMap (law9.key (key9 (ks i) hk))]
    simp only [latestF, e1, if_true]
  · have e1 : ((ks i).toList == f.toList) = false := by
      rw [ByteArray.toList_eq, ByteArray.toList_eq]
      exact beq_eq_false_iff_ne.2 (fun e => he e.symm)
    rw [Maps.atKey_put_other (fun e => he (by simpa using e)), h2 f]
    simp [latestF, e1]

theorem LatP.look {w : World} {gm i : Nat} {ks : Nat → ByteArray} {vs : Nat → Int} (h : LatP w gm i ks vs) {f : ByteArray} (hf : f.size ≤ maxLen) : (Instr.lookup 65 (.map (some gm)) (.string f) false).run Yba.prog w = .ok (.int .u64 (latestF ks vs f i)) w := by
  obtain ⟨D, h1, h2⟩ := h
  obtain ⟨c, hrun, hat, _⟩ := h1.lookup_int law9 Yba.underlying65 Yba.underlying26 (zero26 w) (key9 f hf)
  rw [h2 f] at hat
  have : latestF ks vs f i = c := by simpa using hat
  rw [hrun, this]

theorem LatP.pend {w : World} {gm i Pb : Nat} {ks : Nat → ByteArray} {vs : Nat → Int} (h : LatP w gm i ks vs) (hp : w.heap[Pb]? = some (.cells (pendA gm) 67 (0, 0))) {f : ByteArray} (hf : f.size ≤ maxLen) : PendAt w Pb gm f (latestF ks vs f i) :=
  ⟨hp, h.lt, fun W hW => (h.of_block hW).look hf⟩
end Go.Proofs.Ybulkctac
