/-
  The wait queue: pushTail and popHead as operations on a list of blocks.
-/
import Derived.Test.YbulkcszoBase
namespace Go.Proofs.Ybulkcszo
open Go.RowKit
set_option linter.unusedVariables false

theorem heap_drew (w : World) : w.drew.heap = w.heap := rfl
theorem Fr.refl (Q : Nat) (w : World) : Fr Q w w := ⟨rfl, rfl, rfl, rfl, fun _ _ _ => rfl⟩
theorem Fr.set {Q : Nat} {w w' : World} (h : Fr Q w w') (a : Addr) (v : Value) (ha : a.block = Q ∨ Q + 3 ≤ a.block) : Fr Q w (w'.setCell a v) :=
  ⟨h.os, h.tape, h.output, by rw [← h.size]; simp [World.setCell], fun b hb hq => by rw [heap_set_other w' a v b (by omega)]; exact h.block b hb hq⟩
theorem Fr.drew {Q : Nat} {w w' : World} (h : Fr Q w w') : Fr Q w w'.drew := ⟨h.os, h.tape, h.output, h.size, h.block⟩

theorem pw_ne {gs : List Nat} (h : gs.Pairwise (· < ·)) {i j x y : Nat} (hi : gs[i]? = some x) (hj : gs[j]? = some y) (hij : i ≠ j) : x ≠ y := by
  obtain ⟨hi1, rfl⟩ := List.getElem?_eq_some_iff.1 hi
  obtain ⟨hj1, rfl⟩ := List.getElem?_eq_some_iff.1 hj
  rw [List.pairwise_iff_getElem] at h
  rcases Nat.lt_or_gt_of_ne hij with h1 | h1
  · have := h i j hi1 hj1 h1; omega
  · have := h j i hj1 hi1 h1; omega

theorem pw_snoc {gs : List Nat} {g : Nat} (h : gs.Pairwise (· < ·)) (hlt : ∀ x ∈ gs, x < g) : (gs ++ [g]).Pairwise (· < ·) := by
  rw [List.pairwise_append]
  exact ⟨h, by simp, fun a ha b hb => by simp at hb; subst hb; exact hlt a ha⟩

theorem push_linked {w : World} {Q g : Nat} {gs : List Nat} {vs : List Int} {v : Int} (h : Linked w Q gs vs) (hg : w.heap[g]? = some (.cells (nodeC v none none) 32 (0, 0))) (hlt : ∀ x ∈ gs, x < g) (hQ : Q + 3 ≤ g) :
    Calls Yba.prog 4 #[.pointer (some ⟨Q, 0, none⟩), .pointer (some ⟨g, 0, none⟩)] w fun e w' => e = .returned (.tuple #[]) ∧ Linked w' Q (gs ++ [g]) (vs ++ [v]) ∧ Fr Q w w' := by
  have hq := h.queue
  have hlen := h.len
  rcases List.eq_nil_or_concat gs with rfl | ⟨xs, t, hgs⟩
  · obtain rfl : vs = [] := List.eq_nil_of_length_eq_zero (by simpa using hlen)
    refine (push_empty w Q g (heap_cell hq 0) (heap_cell hq 1) (heap_cell hg 5) (heap_frozen hq 0) (heap_frozen hq 1) (heap_frozen hg 5) (by omega)).mono ?_
    rintro e w' ⟨rfl, rfl⟩
    refine ⟨rfl, ⟨?_, rfl, fun i x y hx hy => ?_, by simpa using hQ, by simp⟩, (((Fr.refl Q w).set _ _ (.inr hQ)).set _ _ (.inl rfl)).set _ _ (.inl rfl)⟩
    · rw [heap_set_same (cur := #[.pointer (some ⟨g, 0, none⟩), .pointer none]) (e := 25)]
      · rfl
      · rw [heap_set_same (cur := #[.pointer none, .pointer none]) (e := 25)]
        · rfl
        · rw [heap_set_other _ _ _ _ (by show Q ≠ g; omega)]; exact hq
    · match i, hx, hy with
      | 0, hx, hy =>
        obtain rfl : g = x := by simpa using hx
        obtain rfl : v = y := by simpa using hy
        rw [heap_set_other _ _ _ _ (by show g ≠ Q; omega), heap_set_other _ _ _ _ (by show g ≠ Q; omega), heap_set_same hg]
        rfl
      | i + 1, hx, hy => simp at hx
  · rw [List.concat_eq_append] at hgs
    subst hgs
    have ht : (xs ++ [t])[xs.length]? = some t := by simp
    obtain ⟨u, hu⟩ : ∃ u, vs[xs.length]? = some u := ⟨vs[xs.length]'(by simp at hlen; omega), by rw [List.getElem?_eq_getElem]⟩
    have hnt := h.node _ _ _ ht hu
    have hnx : nextO (xs ++ [t]) xs.length = none := by simp [nextO]
    rw [hnx] at hnt
    have htm : t ∈ xs ++ [t] := by simp
    have htg := hlt t htm
    have htQ := h.lo t htm
    have hq1 : w.cell? ⟨Q, 1, none⟩ = some (.pointer (some ⟨t, 0, none⟩)) := by rw [heap_cell hq 1]; simp [ptrO]
    refine (push_more w Q g t hq1 (heap_cell hg 5) (heap_cell hnt 6) (heap_frozen hq 1) (heap_frozen hg 5) (heap_frozen hnt 6) (by omega) (by omega) (by omega)).mono ?_
    rintro e w' ⟨rfl, rfl⟩
    refine ⟨rfl, ⟨?_, by simpa using hlen, fun i x y hx hy => ?_, fun x hx => ?_, pw_snoc h.rise hlt⟩, (((Fr.refl Q w).set _ _ (.inr hQ)).set _ _ (.inr htQ)).set _ _ (.inl rfl)⟩
    · rw [heap_set_same (cur := #[ptrO (xs ++ [t]).head?, ptrO (xs ++ [t]).getLast?]) (e := 25)]
      · congr 2
        have : (xs ++ [t] ++ [g]).head? = (xs ++ [t]).head? := by cases xs <;> rfl
        rw [this]
        simp [ptrO]
      · rw [heap_set_other _ _ _ _ (by show Q ≠ t; omega), heap_set_other _ _ _ _ (by show Q ≠ g; omega)]; exact hq
    · by_cases hi : i < (xs ++ [t]).length
      · rw [List.getElem?_append_left hi] at hx
        rw [List.getElem?_append_left (by omega)] at hy
        have hxm : x ∈ xs ++ [t] := List.mem_of_getElem? hx
        have hxg := hlt x hxm
        have hxQ := h.lo x hxm
        have hold := h.node i x y hx hy
        have hp : prevO (xs ++ [t] ++ [g]) i = prevO (xs ++ [t]) i := by
          unfold prevO
          split
          · rfl
          · rw [List.getElem?_append_left (by omega)]
        rw [hp, heap_set_other _ _ _ _ (by show x ≠ Q; omega)]
        by_cases hit : i = xs.length
        · subst hit
          obtain rfl : t = x := Option.some.inj (ht.symm.trans hx)
          obtain rfl : u = y := Option.some.inj (hu.symm.trans hy)
          have hn : nextO (xs ++ [t] ++ [g]) xs.length = some g := by simp [nextO]
          rw [hn, heap_set_same (cur := nodeC u (prevO (xs ++ [t]) xs.length) none) (e := 32)]
          · rfl
          · rw [heap_set_other _ _ _ _ (by show t ≠ g; omega)]; exact hnt
        · have hxt : x ≠ t := pw_ne h.rise hx ht hit
          rw [heap_set_other _ _ _ _ (by show x ≠ t; exact hxt), heap_set_other _ _ _ _ (by show x ≠ g; omega), hold]
          have hn : nextO (xs ++ [t] ++ [g]) i = nextO (xs ++ [t]) i := by
            unfold nextO
            rw [List.getElem?_append_left (by simp at hi ⊢; omega)]
          rw [hn]
      · have hi2 : i = (xs ++ [t]).length := by
          have := (List.getElem?_eq_some_iff.1 hx).1
          simp at this hi ⊢; omega
        subst hi2
        obtain rfl : g = x := by simpa using hx
        have hyv : v = y := by
          rw [← hlen] at hy
          simpa using hy
        subst hyv
        have hp : prevO (xs ++ [t] ++ [g]) (xs ++ [t]).length = some t := by simp [prevO]
        have hn : nextO (xs ++ [t] ++ [g]) (xs ++ [t]).length = none := by simp [nextO]
        rw [hp, hn, heap_set_other _ _ _ _ (by show g ≠ Q; omega), heap_set_other _ _ _ _ (by show g ≠ t; omega), heap_set_same hg]
        rfl
    · rcases List.mem_append.1 hx with h1 | h1
      · exact h.lo x h1
      · obtain rfl : x = g := by simpa using h1
        exact hQ

theorem pop_linked {w : World} {Q g : Nat} {gs : List Nat} {v : Int} {vs : List Int} (h : Linked w Q (g :: gs) (v :: vs)) :
    Calls Yba.prog 5 #[.pointer (some ⟨Q, 0, none⟩)] w fun e w' => e = .returned (.tuple #[.pointer (some ⟨g, 0, none⟩), .bool true]) ∧ Linked w' Q gs vs ∧ Fr Q w w' ∧ w'.heap[g]? = some (.cells (nodeC v none none) 32 (0, 0)) := by
  have hq := h.queue
  have hlen : vs.length = gs.length := by simpa using h.len
  have hgQ := h.lo g (by simp)
  have hng := h.node 0 g v rfl rfl
  refine pop_some w Q g _ (by rw [heap_cell hq 0]; rfl) ?_
  cases gs with
  | nil =>
    obtain rfl : vs = [] := List.eq_nil_of_length_eq_zero (by simpa using hlen)
    refine (remove_one w Q g _ _ (heap_cell hq 0) (heap_cell hq 1) (heap_cell hng 5) (heap_cell hng 6) (heap_frozen hq 0) (heap_frozen hq 1) (heap_frozen hng 5) (heap_frozen hng 6) (by omega)).mono ?_
    rintro e w' ⟨rfl, rfl⟩
    refine ⟨rfl, ⟨?_, rfl, fun i x y hx hy => by simp at hx, by simp, by simp⟩, ((((Fr.refl Q w).set _ _ (.inl rfl)).set _ _ (.inl rfl)).set _ _ (.inr hgQ)).set _ _ (.inr hgQ), ?_⟩
    · rw [heap_set_other _ _ _ _ (by show Q ≠ g; omega), heap_set_other _ _ _ _ (by show Q ≠ g; omega)]
      rw [heap_set_same (cur := #[.pointer none, ptrO [g].getLast?]) (e := 25)]
      · rfl
      · rw [heap_set_same hq]; rfl
    · rw [heap_set_same (cur := nodeC v none none) (e := 32)]
      · rfl
      · rw [heap_set_same (cur := nodeC v none none) (e := 32)]
        · rfl
        · rw [heap_set_other _ _ _ _ (by show g ≠ Q; omega), heap_set_other _ _ _ _ (by show g ≠ Q; omega)]
          exact hng
  | cons n rest =>
    cases vs with
    | nil => simp at hlen
    | cons u us =>
      have hnn := h.node 1 n u rfl rfl
      have hnQ := h.lo n (by simp)
      have hgn : g < n := by have := h.rise; simp at this; omega
      refine (remove_more w Q g n _ _ (heap_cell hq 0) (heap_cell hng 5) (heap_cell hng 6) (heap_cell hnn 5) (heap_frozen hq 0) (heap_frozen hng 5) (heap_frozen hng 6) (heap_frozen hnn 5) (by omega) (by omega) (by omega)).mono ?_
      rintro e w' ⟨rfl, rfl⟩
      refine ⟨rfl, ⟨?_, hlen, fun i x y hx hy => ?_, fun x hx => h.lo x (by simp at hx ⊢; right; exact hx), (List.pairwise_cons.1 h.rise).2⟩, (((((Fr.refl Q w).set _ _ (.inl rfl)).set _ _ (.inr hnQ)).set _ _ (.inr hgQ)).set _ _ (.inr hgQ)).drew, ?_⟩
      · rw [heap_drew]
        rw [heap_set_other _ _ _ _ (by show Q ≠ g; omega), heap_set_other _ _ _ _ (by show Q ≠ g; omega), heap_set_other _ _ _ _ (by show Q ≠ n; omega)]
        rw [heap_set_same hq]
        rfl
      · rw [heap_drew]
        have hxm : x ∈ n :: rest := List.mem_of_getElem? hx
        have hxQ := h.lo x (by simp at hxm ⊢; right; exact hxm)
        have hgx : g < x := (List.pairwise_cons.1 h.rise).1 x hxm
        rw [heap_set_other _ _ _ _ (by show x ≠ g; omega), heap_set_other _ _ _ _ (by show x ≠ g; omega)]
        match i, hx, hy with
        | 0, hx, hy =>
          obtain rfl : n = x := by simpa using hx
          obtain rfl : u = y := by simpa using hy
          rw [heap_set_same (cur := nodeC u (prevO (g :: n :: rest) 1) (nextO (g :: n :: rest) 1)) (e := 32)]
          · rfl
          · rw [heap_set_other _ _ _ _ (by show n ≠ Q; omega)]; exact hnn
        | i + 1, hx, hy =>
          have hxn : x ≠ n := pw_ne (List.pairwise_cons.1 h.rise).2 hx (show (n :: rest)[0]? = some n from rfl) (by omega)
          rw [heap_set_other _ _ _ _ (by show x ≠ n; exact hxn), heap_set_other _ _ _ _ (by show x ≠ Q; omega)]
          have := h.node (i + 1 + 1) x y hx hy
          rw [this]
          rfl
      · rw [heap_drew]
        rw [heap_set_same (cur := nodeC v none (some n)) (e := 32)]
        · rfl
        · rw [heap_set_same (cur := nodeC v none (some n)) (e := 32)]
          · rfl
          · rw [heap_set_other _ _ _ _ (by show g ≠ n; omega), heap_set_other _ _ _ _ (by show g ≠ Q; omega)]
            exact hng
end Go.Proofs.Ybulkcszo
