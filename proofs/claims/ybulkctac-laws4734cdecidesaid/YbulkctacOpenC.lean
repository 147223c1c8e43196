/-
  LawS4734CDecide: slices of names and of numbers that came in.
-/
import Derived.Test.YbulkctacRows
import Derived.WalkKit
import Derived.ProofKit
import Derived.OpenShut
import Derived.SliceStrings
namespace Go.Proofs.Ybulkctac
open Go.ChangeShapes Go.WideShapes Go.ChangeAt Go.RowKit
set_option linter.unusedVariables false

theorem cellsOf9 : Yba.prog.cellsOf 9 = 1 := by kernel_rfl
theorem cellsOf26 : Yba.prog.cellsOf 26 = 1 := by kernel_rfl

/-- what the walk is told of a slice of strings -/
def IsStrings (w : World) (a : Option Addr) (n : Nat) : Prop :=
  ∃ (b o : Nat) (ks : Nat → ByteArray), (0 < n → a = some ⟨b, o, none⟩) ∧ (∀ i, i < n → w.cell? ⟨b, o + i, none⟩ = some (.string (ks i))) ∧ ∀ i, i < n → (ks i).size ≤ maxLen

/-- what the walk is told of a slice of numbers -/
def IsU64s (w : World) (a : Option Addr) (n : Nat) : Prop :=
  ∃ (b o : Nat) (vs : Nat → Int), (0 < n → a = some ⟨b, o, none⟩) ∧ (∀ i, i < n → w.cell? ⟨b, o + i, none⟩ = some (.int .u64 (vs i))) ∧ ∀ i, i < n → (Lit.int .u64 (vs i)).wf = true

theorem open_names {H : Type} {enc : TypeId × Value → H} {w : World} {sp : Nat → Bool} {held : Bool} {fuel : Nat} {a : Option Addr} {n c : Nat} {x : DataW H × List MemPlace} (h : DataW.trod enc Yba.prog w 0 sp held fuel 40 [.slice a n c] = some x) : IsStrings w a n := by
  rcases open_strings Yba.underlying40 Yba.underlying9 cellsOf9 h with ⟨hcs, _⟩ | ⟨x0, len, cap, ss, hcs, _, hl, hm, hmm, _, hel, hsz⟩
  · simp at hcs
    obtain ⟨rfl, rfl, rfl⟩ := hcs
    exact ⟨0, 0, fun _ => ⟨#[]⟩, fun h => absurd h (Nat.lt_irrefl 0), fun i hi => absurd hi (Nat.not_lt_zero i), fun i hi => absurd hi (Nat.not_lt_zero i)⟩
  · simp at hcs
    obtain ⟨rfl, rfl, rfl⟩ := hcs
    have hnm : n ≤ ss.length := by rw [hmm]; split <;> omega
    by_cases hn : 0 < n
    · obtain ⟨b, off, spot⟩ := x0
      have hspot : spot = none := by
        have := World.cell?_spot (hel 0 (by omega))
        simpa [Addr.add] using this
      subst hspot
      refine ⟨b, off, fun i => ss.getD i ByteArray.empty, fun _ => rfl, fun i hi => ?_, fun i hi => ?_⟩
      · have := hel i (by omega); rwa [add_plain] at this
      · have hi' : i < ss.length := by omega
        have : ss.getD i ByteArray.empty = ss[i] := by simp [List.getD, List.getElem?_eq_getElem hi']
        show (ss.getD i ByteArray.empty).size ≤ maxLen
        rw [this]
        exact hsz _ (List.getElem_mem hi')
    · exact ⟨0, 0, fun _ => ⟨#[]⟩, fun h => absurd h hn, fun i hi => absurd hi (by omega), fun i hi => absurd hi (by omega)⟩

theorem open_numbers {H : Type} {enc : TypeId × Value → H} {w : World} {sp : Nat → Bool} {held : Bool} {fuel : Nat} {a : Option Addr} {n c : Nat} {x : DataW H × List MemPlace} (h : DataW.trod enc Yba.prog w 0 sp held fuel 63 [.slice a n c] = some x) : IsU64s w a n := by
  rcases open_ints Yba.underlying63 Yba.underlying26 cellsOf26 h with ⟨hcs, _⟩ | ⟨x0, len, cap, zs, hcs, _, hl, hm, hmm, _, hel, hsz⟩
  · simp at hcs
    obtain ⟨rfl, rfl, rfl⟩ := hcs
    exact ⟨0, 0, fun _ => 0, fun h => absurd h (Nat.lt_irrefl 0), fun i hi => absurd hi (Nat.not_lt_zero i), fun i hi => absurd hi (Nat.not_lt_zero i)⟩
  · simp at hcs
    obtain ⟨rfl, rfl, rfl⟩ := hcs
    have hnm : n ≤ zs.length := by rw [hmm]; split <;> omega
    by_cases hn : 0 < n
    · obtain ⟨b, off, spot⟩ := x0
      have hspot : spot = none := by
        have := World.cell?_spot (hel 0 (by omega))
        simpa [Addr.add] using this
      subst hspot
      refine ⟨b, off, fun i => zs.getD i 0, fun _ => rfl, fun i hi => ?_, fun i hi => ?_⟩
      · have := hel i (by omega); rwa [add_plain] at this
      · have hi' : i < zs.length := by omega
        have : zs.getD i 0 = zs[i] := by simp [List.getD, List.getElem?_eq_getElem hi']
        show (Lit.int .u64 (zs.getD i 0)).wf = true
        rw [this]
        exact hsz _ (List.getElem_mem hi')
    · exact ⟨0, 0, fun _ => 0, fun h => absurd h hn, fun i hi => absurd hi (by omega), fun i hi => absurd hi (by omega)⟩
end Go.Proofs.Ybulkctac
