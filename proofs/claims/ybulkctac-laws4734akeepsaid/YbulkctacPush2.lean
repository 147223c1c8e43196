/-
  (*unackedList).push onto a row that has a block
-/
import Derived.Test.YbulkctacPush
namespace Go.Proofs.Ybulkctac
open Go.RowKit
open Go.Maps (Keyed)
set_option linter.unusedVariables false

theorem row_before {w : World} {L U n q : Nat} {v : Value} {og : Option Nat} {xs : List Nat} (h : RowP w v og xs) (hU : some U ≠ og) (hlt : ∀ g, og = some g → g < w.heap.size) : RowP (before w L U n q) v og xs :=
  h.of_block fun g hg => before_other w L U n q g (hlt g hg) (fun e => hU (by rw [hg, e]))

set_option maxHeartbeats 2000000 in
set_option maxRecDepth 100000 in
theorem push_more (L U g n cap : Nat) (cur : Array Value) (xs : List Nat) (t : ByteArray) (m i : Nat) (w : World) (hlen : n = xs.length) (hL : w.heap[L]? = some (.cells #[.slice (some ⟨g, 0, none⟩) n cap, .int .i64 0, .int .u64 0] 61 (0, 0))) (hU : w.heap[U]? = some (.cells (unA t m i (.pointer none) 0) 53 (0, 0)))
    (hg : w.heap[g]? = some (.cells cur 50 (0, 0))) (hrow : RowP w (.slice (some ⟨g, 0, none⟩) n cap) (some g) xs) (hn : n ≤ 1024) (hnot : ¬ (n = cap ∧ n ≤ 1)) :
    Calls Yba.prog 14 #[pv L, pv U] w fun e w' => e = .returned (.tuple #[]) ∧ PushPost w w' L U t m i (some g) xs := by
  have cL0 : w.cell? ⟨L, 0, none⟩ = some (.slice (some ⟨g, 0, none⟩) n cap) := heap_cell hL 0
  have cL1 : w.cell? ⟨L, 1, none⟩ = some (.int .i64 0) := heap_cell hL 1
  have cL2 : w.cell? ⟨L, 2, none⟩ = some (.int .u64 0) := heap_cell hL 2
  have fL0 := heap_frozen hL 0
  have fL1 := heap_frozen hL 1
  have fL2 := heap_frozen hL 2
  have cU8 : w.cell? ⟨U, 8, none⟩ = some (.pointer none) := heap_cell hU 8
  have cU9 : w.cell? ⟨U, 9, none⟩ = some (.int .u64 0) := heap_cell hU 9
  have fU8 := heap_frozen hU 8
  have fU9 := heap_frozen hU 9
  have ew : IntKind.u64.wrap 0 = 0 := rfl
  have hne : L ≠ U := fun e => by rw [e, hU] at hL; simp at hL
  have hne' : U ≠ L := fun e => hne e.symm
  have hoL : some L ≠ some g := fun e => by cases e; rw [hg] at hL; simp at hL
  have hoU : some U ≠ some g := fun e => by cases e; rw [hg] at hU; simp at hU
  have HR : Hid (∀ q, RowP (before w L U n q) (.slice (some ⟨g, 0, none⟩) n cap) (some g) xs) := fun q => row_before hrow hoU (fun g' h => by cases h; exact heap_lt hg)
  have HN : Hid (xs.length ≤ 100000) := by subst hlen; exact hid (by omega)
  have HL := hid hL
  have HU := hid hU
  have HLEN := hid hlen
  clear hL hU hg hrow hlen
  have hwrap : IntKind.u64.wrap (n : Int) = (n : Int) := by
    unfold IntKind.wrap
    simp [IntKind.bits, IntKind.signed]
    omega
  unfold pv
  by_cases he : ((n : Int) == (cap : Int)) = true
  · have hd : ¬ ((n : Int) / 2 ≤ 0) := by
      have : (n : Int) = (cap : Int) := by simpa using he
      omega
    have h2 : decide ((n : Int) / 2 ≤ 0) = false := decide_eq_false hd
    go_enter Yba.func14, Yba.ntmps14
    go_wp2_with fail
    go_quiet (fail)
    go_wp2_with fail
    go_region_held3 (fun w' => w'.cell? ⟨L, 0, none⟩ = some (.slice (some ⟨g, 0, none⟩) n cap) ∧ w'.cell? ⟨L, 2, none⟩ = some (.int .u64 0)) (go_keep) (fail)
    all_goals
      go_wp2_with (at_builtin; refine wp_appR rfl (.tmp 95) (.tmp 97) rfl rfl (HR.out _) HN.out w.heap.size 1 U rfl (before_new w L U n _) ?_)
      intro v' g' w3 h1 h2 h3
      obtain ⟨cap', rfl⟩ := h1.shape
      have H3 : Hid ((before w L U n _).grownBy w3 (some g)) := h3
      have H1 : Hid (RowP w3 (.slice (some ⟨g', 0, none⟩) (xs.length + 1) cap') (some g') (xs ++ [U])) := by
        have h := h1
        rw [List.length_append] at h
        exact h
      have H2 := hid h2
      obtain ⟨c3, f3⟩ := push_cell HL.out hne hoL H3.out
      clear h1 h2 h3
      go_wp2_with fail
      go_end0
      exact ⟨rfl, push_post (v := .slice (some ⟨g, 0, none⟩) n cap) (n := n) HLEN.out HL.out HU.out hne hoL hoU H1.out (by simpa [before, World.setCell, eq_comm] using H2.out) H3.out⟩
  · have he2 : ((n : Int) == (cap : Int)) = false := by simpa using he
    clear he
    go_enter Yba.func14, Yba.ntmps14
    go_wp2_with fail
    go_quiet (fail)
    go_wp2_with fail
    go_region_held3 (fun w' => w'.cell? ⟨L, 0, none⟩ = some (.slice (some ⟨g, 0, none⟩) n cap) ∧ w'.cell? ⟨L, 2, none⟩ = some (.int .u64 0)) (go_keep) (fail)
    all_goals
      go_wp2_with (at_builtin; refine wp_appR rfl (.tmp 95) (.tmp 97) rfl rfl (HR.out _) HN.out w.heap.size 1 U rfl (before_new w L U n _) ?_)
      intro v' g' w3 h1 h2 h3
      obtain ⟨cap', rfl⟩ := h1.shape
      have H3 : Hid ((before w L U n _).grownBy w3 (some g)) := h3
      have H1 : Hid (RowP w3 (.slice (some ⟨g', 0, none⟩) (xs.length + 1) cap') (some g') (xs ++ [U])) := by
        have h := h1
        rw [List.length_append] at h
        exact h
      have H2 := hid h2
      obtain ⟨c3, f3⟩ := push_cell HL.out hne hoL H3.out
      clear h1 h2 h3
      go_wp2_with fail
      go_end0
      exact ⟨rfl, push_post (v := .slice (some ⟨g, 0, none⟩) n cap) (n := n) HLEN.out HL.out HU.out hne hoL hoU H1.out (by simpa [before, World.setCell, eq_comm] using H2.out) H3.out⟩

theorem copy_one (w : World) (g : Nat) (x : Value) (hx : x.oneCell' = true) (hg : w.heap[g]? = some (.cells #[x] 50 (0, 0))) (ty : TypeId) : (Builtin.copy_ #[33, 33] ty #[.slice (some ⟨g, 0, none⟩) 1 1, .slice (some ⟨g, 0, none⟩) 1 1]).run Yba.prog w = .ok (.int .i64 1) w := by
  have h := run_copy_row (P := Yba.prog) w 33 33 ty 50 g 0 1 1 ⟨g, 0, none⟩ 1 1 #[x] 50 [x] Yba.underlying33 (by kernel_rfl) hg rfl (fun j v hj => by
    match j, hj with
    | 0, hj => simp at hj; subst hj; simpa [Addr.add] using heap_cell hg 0) (by simp) (by simpa using hx)
  rw [h]
  have : w.setRow g #[x] = w := by
    have hh : (w.setRow g #[x]).heap = w.heap := by
      apply Array.ext_getElem?
      intro i
      by_cases hi : i = g
      · subst hi
        rw [setRow_heap w i #[x] #[x] 50 _ hg, hg]
      · exact setRow_other w g i _ hi
    cases w
    simp only [World.setRow] at hh ⊢
    rw [hh]
  have e : (List.take 0 #[x].toList ++ [x] ++ List.drop (0 + [x].length) #[x].toList).toArray = #[x] := by simp
  rw [e, this]
  rfl

set_option maxHeartbeats 2000000 in
set_option maxRecDepth 100000 in
theorem push_one (L U g : Nat) (x : Value) (xs : List Nat) (t : ByteArray) (m i : Nat) (w : World) (hlen : 1 = xs.length) (hL : w.heap[L]? = some (.cells #[.slice (some ⟨g, 0, none⟩) 1 1, .int .i64 0, .int .u64 0] 61 (0, 0))) (hU : w.heap[U]? = some (.cells (unA t m i (.pointer none) 0) 53 (0, 0)))
    (hx : x.oneCell' = true) (hg : w.heap[g]? = some (.cells #[x] 50 (0, 0))) (hrow : RowP w (.slice (some ⟨g, 0, none⟩) 1 1) (some g) xs) :
    Calls Yba.prog 14 #[pv L, pv U] w fun e w' => e = .returned (.tuple #[]) ∧ PushPost w w' L U t m i (some g) xs := by
  have cL0 : w.cell? ⟨L, 0, none⟩ = some (.slice (some ⟨g, 0, none⟩) 1 1) := heap_cell hL 0
  have cL1 : w.cell? ⟨L, 1, none⟩ = some (.int .i64 0) := heap_cell hL 1
  have cL2 : w.cell? ⟨L, 2, none⟩ = some (.int .u64 0) := heap_cell hL 2
  have fL0 := heap_frozen hL 0
  have fL1 := heap_frozen hL 1
  have fL2 := heap_frozen hL 2
  have cU8 : w.cell? ⟨U, 8, none⟩ = some (.pointer none) := heap_cell hU 8
  have cU9 : w.cell? ⟨U, 9, none⟩ = some (.int .u64 0) := heap_cell hU 9
  have fU8 := heap_frozen hU 8
  have fU9 := heap_frozen hU 9
  have ew : IntKind.u64.wrap 0 = 0 := rfl
  have hne : L ≠ U := fun e => by rw [e, hU] at hL; simp at hL
  have hne' : U ≠ L := fun e => hne e.symm
  have hoL : some L ≠ some g := fun e => by cases e; rw [hg] at hL; simp at hL
  have hoU : some U ≠ some g := fun e => by cases e; rw [hg] at hU; simp at hU
  have HR : Hid (∀ q, RowP (before w L U 1 q) (.slice (some ⟨g, 0, none⟩) 1 1) (some g) xs) := fun q => row_before hrow hoU (fun g' h => by cases h; exact heap_lt hg)
  have HN : Hid (xs.length ≤ 100000) := hid (by omega)
  have hc : ∀ q ty, (Builtin.copy_ #[33, 33] ty #[.slice (some ⟨g, 0, none⟩) 1 1, .slice (some ⟨g, 0, none⟩) 1 1]).run Yba.prog (w.drewN q) = .ok (.int .i64 1) (w.drewN q) := fun q ty => copy_one (w.drewN q) g x hx hg ty
  have hcl := clear_none
  have e0 : ∀ q, (w.drewN q).setCell ⟨L, 0, none⟩ (.slice (some ⟨g, 0, none⟩) 1 1) = w.drewN q := fun q => setCell_self (w := w.drewN q) hL rfl
  have e1 : ∀ q, (w.drewN q).setCell ⟨L, 1, none⟩ (.int .i64 0) = w.drewN q := fun q => setCell_self (w := w.drewN q) hL rfl
  have e2 : ∀ q, (w.drewN q).setCell ⟨L, 2, none⟩ (.int .u64 0) = w.drewN q := fun q => setCell_self (w := w.drewN q) hL rfl
  have HL := hid hL
  have HU := hid hU
  have HLEN := hid hlen
  clear hL hU hg hrow hlen
  have hwrap : IntKind.u64.wrap 1 = 1 := rfl
  unfold pv
  go_enter Yba.func14, Yba.ntmps14
  go_wp2_with fail
  go_quiet (fail)
  go_wp2_with fail
  go_region_held3 (fun w' => w'.cell? ⟨L, 0, none⟩ = some (.slice (some ⟨g, 0, none⟩) 1 1) ∧ w'.cell? ⟨L, 1, none⟩ = some (.int .i64 0)) (go_keep) (fail)
  go_wp2_with fail
  go_region_held3 (fun w' => w'.cell? ⟨L, 1, none⟩ = some (.int .i64 0) ∧ w'.cell? ⟨L, 2, none⟩ = some (.int .u64 0) ∧ w'.frozen? ⟨L, 2, none⟩ = false) (go_keep) (fail)
  go_wp2_with fail
  go_region_held3 (fun w' => w'.cell? ⟨L, 0, none⟩ = some (.slice (some ⟨g, 0, none⟩) 1 1) ∧ w'.cell? ⟨L, 2, none⟩ = some (.int .u64 0)) (go_keep) (fail)
  all_goals
    go_wp2_with (at_builtin; refine wp_appR rfl (.tmp 95) (.tmp 97) rfl rfl (HR.out _) HN.out w.heap.size 1 U rfl (before_new w L U 1 _) ?_)
    intro v' g' w3 h1 h2 h3
    obtain ⟨cap', rfl⟩ := h1.shape
    have H3 : Hid ((before w L U 1 _).grownBy w3 (some g)) := h3
    have H1 : Hid (RowP w3 (.slice (some ⟨g', 0, none⟩) (xs.length + 1) cap') (some g') (xs ++ [U])) := by
      have h := h1
      rw [List.length_append] at h
      exact h
    have H2 := hid h2
    obtain ⟨c3, f3⟩ := push_cell HL.out hne hoL H3.out
    clear h1 h2 h3
    go_wp2_with fail
    go_end0
    exact ⟨rfl, push_post (v := .slice (some ⟨g, 0, none⟩) 1 1) (n := 1) HLEN.out HL.out HU.out hne hoL hoU H1.out (by simpa [before, World.setCell, eq_comm] using H2.out) H3.out⟩

/-- push, whatever the row -/
theorem push_any {L U m i : Nat} {t : ByteArray} {w : World} {v : Value} {og : Option Nat} {xs : List Nat} (hL : w.heap[L]? = some (.cells #[v, .int .i64 0, .int .u64 0] 61 (0, 0))) (hU : w.heap[U]? = some (.cells (unA t m i (.pointer none) 0) 53 (0, 0)))
    (hrow : RowP w v og xs) (hnil : og = none ∨ xs ≠ []) (hn : xs.length ≤ 1024) : Calls Yba.prog 14 #[pv L, pv U] w fun e w' => e = .returned (.tuple #[]) ∧ PushPost w w' L U t m i og xs := by
  have hr := hrow
  rcases hrow with ⟨rfl, rfl, rfl⟩ | ⟨g, cap, cur, rfl, rfl, hg, hnc, hcs, hcur⟩
  · exact push_nil L U t m i w hL hU
  · by_cases hnot : xs.length = cap ∧ xs.length ≤ 1
    · obtain ⟨h1, h2⟩ := hnot
      match xs, h2 with
      | [], _ =>
        rcases hnil with h | h
        · cases h
        · exact absurd rfl h
      | [x], _ =>
        obtain rfl : cap = 1 := by simpa using h1.symm
        have hcur0 := hcur 0 x rfl
        have : cur = #[pv x] := by
          apply Array.ext_getElem?
          intro j
          match j with
          | 0 => simpa using hcur0
          | j + 1 => simp [hcs]
        subst this
        exact push_one L U g (pv x) [x] t m i w rfl hL hU rfl hg hr
    · exact push_more L U g xs.length cap cur xs t m i w rfl hL hU hg hr hn hnot
end Go.Proofs.Ybulkctac
