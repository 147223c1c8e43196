/-
  zzs4733acheck says yes of a linked queue.
-/
import Derived.Test.YbulkcszoQueue
namespace Go.Proofs.Ybulkcszo
open Go.RowKit
set_option linter.unusedVariables false

structure Mod (w : World) (am : Option Addr) (M off : Nat) (gs : List Nat) : Prop where
  at_ : gs ≠ [] → am = some ⟨M, off, none⟩
  cell : ∀ (i g : Nat), gs[i]? = some g → w.cell? ⟨M, off + i, none⟩ = some (.pointer (some ⟨g, 0, none⟩))

set_option maxHeartbeats 2000000 in
theorem check_any {w : World} {Q : Nat} {gs : List Nat} {vs : List Int} {am : Option Addr} {M off cm : Nat} (h : Linked w Q gs vs) (hm : Mod w am M off gs) (hl : gs.length ≤ 1024) :
    Calls Yba.prog 7 #[.pointer (some ⟨Q, 0, none⟩), .slice am gs.length cm] w fun e w' => e = .returned (.bool true) ∧ ∃ q, w' = w.drewN q := by
  have hq := h.queue
  by_cases h0 : gs = []
  · subst h0
    have c0 : w.cell? ⟨Q, 0, none⟩ = some (.pointer none) := heap_cell hq 0
    have c1 : w.cell? ⟨Q, 1, none⟩ = some (.pointer none) := heap_cell hq 1
    clear hq h
    rw [List.length_nil]
    go_enter Yba.func7, Yba.ntmps7
    go_wp2
    go_ret
    exact ⟨rfl, 0, rfl⟩
  · obtain ⟨m, hm1⟩ : ∃ m, gs.length = m + 1 := ⟨gs.length - 1, by have := List.length_pos_iff.2 h0; omega⟩
    obtain ⟨g0, hg0⟩ : ∃ g0, gs[0]? = some g0 := ⟨gs[0]'(by omega), List.getElem?_eq_getElem _⟩
    obtain ⟨gm, hgm⟩ : ∃ gm, gs[m]? = some gm := ⟨gs[m]'(by omega), List.getElem?_eq_getElem _⟩
    have c0 : w.cell? ⟨Q, 0, none⟩ = some (.pointer (some ⟨g0, 0, none⟩)) := by
      rw [heap_cell hq 0]
      have : gs.head? = some g0 := by rw [List.head?_eq_getElem?]; exact hg0
      simp [this, ptrO]
    have c1 : w.cell? ⟨Q, 1, none⟩ = some (.pointer (some ⟨gm, 0, none⟩)) := by
      rw [heap_cell hq 1]
      have : gs.getLast? = some gm := by rw [List.getLast?_eq_getElem?, hm1]; exact hgm
      simp [this, ptrO]
    have d0 := hm.cell 0 g0 hg0
    have dm := hm.cell m gm hgm
    rw [Nat.add_zero] at d0
    obtain rfl := hm.at_ h0
    have Hm1 : Hid (gs.length = m + 1) := hm1
    rw [hm1]
    clear hm1 hq
    have ne := ne_same
    have e0 : ((m : Int) + 1 == 0) = false := beq_eq_false_iff_ne.2 (by omega)
    have hml : (m : Int) ≤ 1023 := by have := Hm1.out; omega
    go_enter Yba.func7, Yba.ntmps7
    go_wp2
    go_quiet (fail)
    go_wp2
    go_loop [5, 6, 7] (fun v5 v6 v7 => ∃ i : Nat, i ≤ m + 1 ∧ v7 = .int .i64 i ∧ v5 = ptrO (prevO gs i) ∧ v6 = ptrO gs[i]?) (fun _ _ v7 => m + 1 - (RowKit.intOf v7).toNat)
    case atStart => exact ⟨0, Nat.zero_le _, rfl, rfl, by rw [hg0]; rfl⟩
    case round =>
      obtain ⟨i, hi, rfl, rfl, rfl⟩ := hrel
      by_cases hlt : (i : Int) < (m : Int) + 1
      · obtain ⟨g, hg⟩ : ∃ g, gs[i]? = some g := ⟨gs[i]'(by have := Hm1.out; omega), List.getElem?_eq_getElem _⟩
        obtain ⟨v, hv⟩ : ∃ v, vs[i]? = some v := ⟨vs[i]'(by have := Hm1.out; have := h.len; omega), List.getElem?_eq_getElem _⟩
        have hn := h.node i g v hg hv
        have dg := hm.cell i g hg
        have c6 : w.cell? ⟨g, 6, none⟩ = some (ptrO (nextO gs i)) := heap_cell hn 6
        have c5 : w.cell? ⟨g, 5, none⟩ = some (ptrO (prevO gs i)) := heap_cell hn 5
        rw [hg, show ptrO (some g) = .pointer (some ⟨g, 0, none⟩) from rfl]
        have Hp : Hid (ptrO (prevO gs (i + 1)) = .pointer (some ⟨g, 0, none⟩)) := by show _ = _; simp [prevO, hg, ptrO]
        have Hn : Hid (ptrO (nextO gs i) = ptrO gs[i + 1]?) := rfl
        clear hg hv hn
        obtain ⟨pp, hpp⟩ : ∃ pp, prevO gs i = pp := ⟨_, rfl⟩
        obtain ⟨np, hnp⟩ : ∃ np, ptrO (nextO gs i) = .pointer np := by cases nextO gs i <;> exact ⟨_, rfl⟩
        rw [hnp] at c6 Hn
        rw [hpp] at c5 ⊢
        clear hnp hpp
        cases pp
        all_goals
          simp only [ptrO] at c5 ⊢
          go_wp2
          go_round
          case rel => exact ⟨i + 1, by omega, by go_num, Hp.out.symm, Hn.out⟩
          case measure => simp [RowKit.intOf]; omega
      · have hin : gs[i]? = none := List.getElem?_eq_none (by have := Hm1.out; omega)
        rw [hin, show ptrO none = .pointer none from rfl]
        go_wp2
        go_ret
        exact ⟨rfl, _, rfl⟩
end Go.Proofs.Ybulkcszo
