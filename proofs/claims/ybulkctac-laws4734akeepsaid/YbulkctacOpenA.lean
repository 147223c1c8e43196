/-
  LawS4734AKeep: a slice of steps that came in.
-/
import Derived.Test.YbulkctacRows
import Derived.WalkKit
import Derived.ProofKit
import Derived.OpenShut
import Derived.Deep.Slices
namespace Go.Proofs.Ybulkctac
open Go.ChangeShapes Go.WideShapes Go.ChangeAt Go.RowKit Go.Deep
set_option linter.unusedVariables false

theorem cells35 : Yba.prog.cellsOf 35 = 4 := by kernel_rfl
theorem cells5 : Yba.prog.cellsOf 5 = 1 := by kernel_rfl

theorem u8_of {H : Type} {enc : TypeId × Value → H} {w : World} {base : Nat} {sp : Nat → Bool} {held : Bool} {n : Nat} {cs : List Value} {x : DataW H × List MemPlace} {c : Value} (hc : cs = [c]) (h : DataW.trod enc Yba.prog w base sp held n 5 cs = some x) : ∃ m : Nat, c = .int .u8 (m : Int) ∧ m < 256 := by
  obtain ⟨a, h1, _, hw⟩ := DataW.trod_int Yba.underlying5 h
  rw [hc] at h1
  have : c = .int .u8 a := by simpa using h1
  have hb := bounds_u8 hw
  exact ⟨a.toNat, by rw [this, Int.toNat_of_nonneg hb.1], by omega⟩

set_option maxRecDepth 100000 in
/-- a step's four cells -/
theorem step_of {H : Type} {enc : TypeId × Value → H} {w : World} {base : Nat} {sp : Nat → Bool} {held : Bool} {n : Nat} {cs : List Value} {x : DataW H × List MemPlace} {a : Addr} (hc : w.cells? base a 4 = some cs) (h : DataW.trod enc Yba.prog w base sp held n 35 cs = some x) :
    ∃ t f s k : Nat, (w.cell? (a.add 0) = some (.int .u8 (t : Int)) ∧ w.cell? (a.add 1) = some (.int .u8 (f : Int)) ∧ w.cell? (a.add 2) = some (.int .u8 (s : Int)) ∧ w.cell? (a.add 3) = some (.int .u8 (k : Int))) ∧ t < 256 ∧ f < 256 ∧ s < 256 ∧ k < 256 := by
  obtain ⟨xs, m, _, _, hl, hxl, hx⟩ := DataW.trod_struct Yba.underlying35 h
  rw [cells35] at hl
  match cs, hl with
  | [c0, c1, c2, c3], _ =>
    have hm : (List.range 4).mapM (fun i => w.cell? (a.add i)) = some [c0, c1, c2, c3] := by
      unfold World.cells? at hc
      split at hc
      · exact hc
      · cases hc
    have g := fun i v hi => mapM_some_get hm i v hi
    have g0 := g 0 0 rfl
    have g1 := g 1 1 rfl
    have g2 := g 2 2 rfl
    have g3 := g 3 3 rfl
    have y := fun i (hi : i < 4) => (show ∃ z, xs[i]? = some z from ⟨xs[i]'(by rw [hxl]; exact hi), List.getElem?_eq_getElem _⟩)
    obtain ⟨z0, hz0⟩ := y 0 (by omega)
    obtain ⟨z1, hz1⟩ := y 1 (by omega)
    obtain ⟨z2, hz2⟩ := y 2 (by omega)
    obtain ⟨z3, hz3⟩ := y 3 (by omega)
    obtain ⟨t, ht, bt⟩ := u8_of (c := c0) (by show List.take (Yba.prog.cellsOf 5) (List.drop 0 [c0, c1, c2, c3]) = [c0]; rw [cells5]; rfl) ((hx 0 _ rfl).trans hz0)
    obtain ⟨f, hf, bf⟩ := u8_of (c := c1) (by show List.take (Yba.prog.cellsOf 5) (List.drop 1 [c0, c1, c2, c3]) = [c1]; rw [cells5]; rfl) ((hx 1 _ rfl).trans hz1)
    obtain ⟨s, hs, bs⟩ := u8_of (c := c2) (by show List.take (Yba.prog.cellsOf 5) (List.drop 2 [c0, c1, c2, c3]) = [c2]; rw [cells5]; rfl) ((hx 2 _ rfl).trans hz2)
    obtain ⟨k, hk, bk⟩ := u8_of (c := c3) (by show List.take (Yba.prog.cellsOf 5) (List.drop 3 [c0, c1, c2, c3]) = [c3]; rw [cells5]; rfl) ((hx 3 _ rfl).trans hz3)
    subst ht hf hs hk
    exact ⟨t, f, s, k, ⟨g0, g1, g2, g3⟩, bt, bf, bs, bk⟩

/-- what the walk is told of a slice of steps -/
def IsSteps (w : World) (a : Option Addr) (n : Nat) : Prop :=
  ∃ (b o : Nat) (T F S K : Nat → Nat), (0 < n → a = some ⟨b, o, none⟩) ∧ (∀ i, i < n → w.cell? ⟨b, o + i * 4, none⟩ = some (.int .u8 (T i))) ∧ (∀ i, i < n → w.cell? ⟨b, o + i * 4 + 1, none⟩ = some (.int .u8 (F i))) ∧ (∀ i, i < n → w.cell? ⟨b, o + i * 4 + 2, none⟩ = some (.int .u8 (S i))) ∧ (∀ i, i < n → w.cell? ⟨b, o + i * 4 + 3, none⟩ = some (.int .u8 (K i))) ∧ ∀ i, i < n → T i < 256 ∧ F i < 256 ∧ S i < 256 ∧ K i < 256

theorem open_steps {H : Type} {enc : TypeId × Value → H} {w : World} {sp : Nat → Bool} {held : Bool} {fuel : Nat} {a : Option Addr} {n c : Nat} {x : DataW H × List MemPlace} (h : DataW.trod enc Yba.prog w 0 sp held fuel 22 [.slice a n c] = some x) : IsSteps w a n := by
  rcases open_slice Yba.underlying22 h with ⟨hcs, _⟩ | ⟨x0, len, cap, m, n', D, Pl, hcs, _, hl, hm, hmm, _, hel⟩
  · simp at hcs
    obtain ⟨rfl, rfl, rfl⟩ := hcs
    exact ⟨0, 0, fun _ => 0, fun _ => 0, fun _ => 0, fun _ => 0, fun h => absurd h (Nat.lt_irrefl 0), fun i hi => absurd hi (Nat.not_lt_zero i), fun i hi => absurd hi (Nat.not_lt_zero i), fun i hi => absurd hi (Nat.not_lt_zero i), fun i hi => absurd hi (Nat.not_lt_zero i), fun i hi => absurd hi (Nat.not_lt_zero i)⟩
  · simp at hcs
    obtain ⟨rfl, rfl, rfl⟩ := hcs
    have hnm : n ≤ m := by rw [hmm]; split <;> omega
    have hall : ∀ i, i < n → ∃ y : Nat × Nat × Nat × Nat, (w.cell? ((x0.add (i * 4)).add 0) = some (.int .u8 (y.1 : Int)) ∧ w.cell? ((x0.add (i * 4)).add 1) = some (.int .u8 (y.2.1 : Int)) ∧ w.cell? ((x0.add (i * 4)).add 2) = some (.int .u8 (y.2.2.1 : Int)) ∧ w.cell? ((x0.add (i * 4)).add 3) = some (.int .u8 (y.2.2.2 : Int))) ∧ y.1 < 256 ∧ y.2.1 < 256 ∧ y.2.2.1 < 256 ∧ y.2.2.2 < 256 := fun i hi => by
      obtain ⟨cs', h1, h2⟩ := hel i (by omega)
      rw [cells35] at h1
      obtain ⟨t, f, s, k, h3, h4⟩ := step_of h1 h2
      exact ⟨(t, f, s, k), h3, h4⟩
    obtain ⟨Y, hY⟩ := choose_lt hall
    by_cases hn : 0 < n
    · obtain ⟨b, off, spot⟩ := x0
      have hspot : spot = none := by
        have := World.cell?_spot ((hY 0 hn).1.1)
        simpa [Addr.add] using this
      subst hspot
      have hadd : ∀ i j, ((⟨b, off, none⟩ : Addr).add (i * 4)).add j = ⟨b, off + i * 4 + j, none⟩ := fun i j => by rw [add_plain, add_plain]
      refine ⟨b, off, fun i => (Y i).1, fun i => (Y i).2.1, fun i => (Y i).2.2.1, fun i => (Y i).2.2.2, fun _ => rfl, fun i hi => ?_, fun i hi => ?_, fun i hi => ?_, fun i hi => ?_, fun i hi => (hY i hi).2⟩
      · have := (hY i hi).1.1; rwa [hadd] at this
      · have := (hY i hi).1.2.1; rwa [hadd] at this
      · have := (hY i hi).1.2.2.1; rwa [hadd] at this
      · have := (hY i hi).1.2.2.2; rwa [hadd] at this
    · exact ⟨0, 0, fun _ => 0, fun _ => 0, fun _ => 0, fun _ => 0, fun h => absurd h hn, fun i hi => absurd hi (by omega), fun i hi => absurd hi (by omega), fun i hi => absurd hi (by omega), fun i hi => absurd hi (by omega), fun i hi => absurd hi (by omega)⟩
end Go.Proofs.Ybulkctac
