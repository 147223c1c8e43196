/-
  LawS4733AFifo: the walk.
-/
import Derived.Test.YbulkcszoLaw
namespace Go.Proofs.Ybulkcszo
open Go.RowKit
set_option linter.unusedVariables false

theorem hid {p : Prop} (h : p) : Hid p := h
def lenOf : Value → Nat | .slice _ n _ => n | _ => 0

set_option maxHeartbeats 4000000 in
set_option maxRecDepth 100000 in
theorem fifo_walk (a : Option Addr) (b o c n : Nat) (zs : List Int) (w : World) (ha : 0 < n → a = some ⟨b, o, none⟩) (hn : ¬ (1024 : Int) < (n : Int)) (hc : ∀ i, i < n → w.cell? ⟨b, o + i, none⟩ = some (.int .i16 (zs.getD i 0))) (hw : ∀ i, i < n → -32768 ≤ zs.getD i 0 ∧ zs.getD i 0 ≤ 32767) :
    Calls Yba.prog 3 #[.slice a n c] w fun e w' => e = .returned (.bool true) ∧ Below w.heap.size w w' := by
  have m26 := fun w => make26 w n (by omega)
  have m27 := fun w => make27 w n (by omega)
  have hst0 := st_start w n
  go_enter Yba.func3, Yba.ntmps3
  go_wp2_with fail
  clear m26 m27
  go_loopw [4, 5, 26] (fun v4 v5 v26 wr => ∃ (k off : Nat) (gs : List Nat) (vs : List Int), k ≤ n ∧ v26 = .int .i64 k ∧ v4 = .slice (some ⟨w.heap.size + 1, off, none⟩) gs.length (n - off) ∧ v5 = .slice (some ⟨w.heap.size + 2, off, none⟩) gs.length (n - off) ∧ St w wr w.heap.size n k off gs vs) (fun _ _ v26 _ => n - (RowKit.intOf v26).toNat)
  case atStart => exact ⟨0, 0, [], [], Nat.zero_le _, rfl, rfl, rfl, hst0⟩
  case round =>
    clear hst0
    obtain ⟨k, off, gs, vs, hk, rfl, rfl, rfl, hst⟩ := hrel
    by_cases hlt : (k : Int) < (n : Int)
    · obtain rfl := ha (by omega)
      have hck : wr.cell? ⟨b, o + k, none⟩ = some (.int .i16 (zs.getD k 0)) := cell_later hst.below (hc k (by omega))
      have hzb := hw k (by omega)
      generalize zs.getD k 0 = z at hck hzb
      obtain ⟨hz1, hz2⟩ := hzb
      by_cases hz0 : 0 ≤ z
      · -- a push
        obtain ⟨am, hm1, hm2, hm3⟩ := hst.model
        obtain ⟨av, hv1, hv2, hv3⟩ := hst.vals
        have hcnt := hst.count
        have hsz := hst.size
        have hvl : vs.length = gs.length := hst.linked.len
        have hl1 := hst.linked.alloc hst.live (.cells (nodeC z none none) 32)
        have hg1 := heap_alloc_new wr (.cells (nodeC z none none) 32)
        have C1 := hid (push_linked hl1 hg1 hst.live (by omega))
        clear hl1 hg1
        go_wp2_with fail
        refine C1.out.mono ?_
        rintro e w2 ⟨rfl, hl2, hf2⟩
        have s2 : w2.heap.size = wr.heap.size + 1 := by rw [hf2.size]; simp
        have hm12 : (w2.alloc (.cells #[.pointer (some ⟨wr.heap.size, 0, none⟩)] 23)).heap[w.heap.size + 1]? = some (.cells am 23 (0, 0)) := by
          rw [Below.heap_alloc _ _ _ (by omega), hf2.block _ (by omega) (by omega), Below.heap_alloc _ _ _ (by omega)]; exact hm1
        have HS2 := hid s2
        have HM := hid hm12
        clear s2 hm12 C1
        go_wp2_with (at_builtin; refine wp_app1 rfl (.tmp 38) (.tmp 40) 26 23 (.pointer none) info23 Yba.underlying26 rfl (w.heap.size + 1) off gs.length (n - off) rfl w2.heap.size 1 rfl (.pointer (some ⟨wr.heap.size, 0, none⟩)) (by simp) rfl (by omega) am HM.out (by omega) ?_)
        intro w3 hp3
        have s3 : w3.heap.size = w2.heap.size + 1 := by rw [hp3.size]; simp
        have hv12 : (w3.alloc (.cells #[.int .i64 z] 3)).heap[w.heap.size + 2]? = some (.cells av 3 (0, 0)) := by
          have := HS2.out
          rw [Below.heap_alloc _ _ _ (by omega), hp3.block _ (by omega), Below.heap_alloc _ _ _ (by omega), hf2.block _ (by omega) (by omega), Below.heap_alloc _ _ _ (by omega)]; exact hv1
        have HV := hid hv12
        clear s3 hv12 HM
        go_wp2_with (at_builtin; refine wp_app1 rfl (.tmp 42) (.tmp 45) 27 3 (.int .i64 0) info3 Yba.underlying27 rfl (w.heap.size + 2) off gs.length (n - off) rfl w3.heap.size 1 rfl (.int .i64 z) (by simp) rfl (by omega) av HV.out (by omega) ?_)
        intro w4 hp4
        have hst2 := st_push hst hm1 hm2 hm3 hv1 hv2 hv3 (by omega) hl2 hf2 hp3 hp4
        clear hst hl2 hf2 hp3 hp4 HV HS2 hm1 hm2 hm3 hv1 hv2 hv3
        have C2 := hid (check_any (cm := n - off) hst2.linked hst2.mod (by simp; omega))
        rw [List.length_append, List.length_singleton] at C2
        go_wp2_with fail
        refine C2.out.mono ?_
        rintro e w5 ⟨rfl, q, rfl⟩
        go_wp2_with fail
        go_roundw
        case rel => exact ⟨k + 1, off, gs ++ [_], vs ++ [_], by omega, by go_num, by rw [List.length_append, List.length_singleton], by rw [List.length_append, List.length_singleton], hst2.drewN q⟩
        case measure => simp [RowKit.intOf]; omega
      · -- a pop
        have hcnt := hst.count
        have hsz := hst.size
        have hvl : vs.length = gs.length := hst.linked.len
        cases gs with
        | nil =>
          have hq0 : wr.cell? ⟨w.heap.size, 0, none⟩ = some (.pointer none) := heap_cell hst.linked.queue 0
          have C1 := hid (pop_empty wr w.heap.size hq0)
          have C2 := hid (check_any (cm := n - off) hst.linked hst.mod (by simp))
          clear hq0
          rw [List.length_nil] at C2 ⊢
          go_wp2_with fail
          refine C1.out.mono ?_
          rintro e w2 ⟨rfl, rfl⟩
          go_wp2_with fail
          refine C2.out.mono ?_
          rintro e w5 ⟨rfl, q, rfl⟩
          go_wp2_with fail
          go_roundw
          case rel => exact ⟨k + 1, off, [], vs, by omega, by go_num, rfl, rfl, (hst.le (by omega)).drewN q⟩
          case measure => simp [RowKit.intOf]; omega
        | cons g rest =>
          cases vs with
          | nil => simp at hvl
          | cons v us =>
            have C1 := hid (pop_linked hst.linked)
            obtain ⟨am, hm1, hm2, hm3⟩ := hst.model
            obtain ⟨av, hv1, hv2, hv3⟩ := hst.vals
            have hgn : g ∉ rest := fun hm => by
              have := (List.pairwise_cons.1 hst.linked.rise).1 g hm
              omega
            rw [List.length_cons] at hcnt
            obtain ⟨x4, hx4, hsl26⟩ := slice26 (w.heap.size + 1) off rest.length (n - off) (by omega)
            obtain ⟨x5, hx5, hsl27⟩ := slice27 (w.heap.size + 2) off rest.length (n - off) (by omega)
            obtain rfl := hx4 (by omega)
            obtain rfl := hx5 (by omega)
            have e1 : ((rest.length : Int) + 1 == 0) = false := beq_eq_false_iff_ne.2 (by omega)
            rw [List.length_cons]
            go_wp2_with fail
            refine C1.out.mono ?_
            rintro e w2 ⟨rfl, hl2, hf2, hg2⟩
            have hst2 := st_pop (k' := k + 1) hst (by omega) hl2 hf2
            have cm0 : w2.cell? ⟨w.heap.size + 1, off, none⟩ = some (.pointer (some ⟨g, 0, none⟩)) := by
              have : w2.heap[w.heap.size + 1]? = some (.cells am 23 (0, 0)) := by rw [hf2.block _ (by omega) (by omega)]; exact hm1
              rw [heap_cell this]; exact hm3 0 g rfl
            have cv0 : w2.cell? ⟨w.heap.size + 2, off, none⟩ = some (.int .i64 v) := by
              have : w2.heap[w.heap.size + 2]? = some (.cells av 3 (0, 0)) := by rw [hf2.block _ (by omega) (by omega)]; exact hv1
              rw [heap_cell this]; exact hv3 0 v rfl
            have cg1 : w2.cell? ⟨g, 1, none⟩ = some (.int .i64 v) := heap_cell hg2 1
            have cg5 : w2.cell? ⟨g, 5, none⟩ = some (.pointer none) := heap_cell hg2 5
            have cg6 : w2.cell? ⟨g, 6, none⟩ = some (.pointer none) := heap_cell hg2 6
            obtain ⟨p, hp, hpe⟩ := head_ne hl2 hg2 hgn
            have C3 : Hid (∀ q, Calls Yba.prog 6 #[.pointer (some ⟨w.heap.size, 0, none⟩), .pointer (some ⟨g, 0, none⟩)] (w2.drewN q) fun e w' => e = .returned (.bool false) ∧ w2.drewN q = w') := fun q => holds_no (w2.drewN q) w.heap.size g (by simpa using cg5) p (by simpa using hp) (by
              obtain ⟨p', hp', hpe'⟩ := head_ne (w := w2.drewN q) (hl2.of_blocks fun _ _ => rfl) hg2 hgn
              have : p' = p := by
                have h1 : w2.cell? ⟨w.heap.size, 0, none⟩ = some (.pointer p') := by simpa using hp'
                rw [hp] at h1
                simpa using h1.symm
              rw [← this]; exact hpe')
            have ne := ne_same
            clear hst hl2 hf2 hm1 hm2 hm3 hv1 hv2 hv3 C1 hp hpe hg2
            go_wp2_with fail
            go_quiet (fail)
            go_wp2_with fail
            refine (C3.out _).mono ?_
            rintro e w3 ⟨rfl, rfl⟩
            have C2 : Hid (∀ q, Calls Yba.prog 7 #[.pointer (some ⟨w.heap.size, 0, none⟩), .slice (some ⟨w.heap.size + 1, off + 1, none⟩) rest.length (n - off - 1)] (w2.drewN q) fun e w' => e = .returned (.bool true) ∧ ∃ q', w' = (w2.drewN q).drewN q') := fun q => check_any (cm := n - off - 1) (hst2.drewN q).linked (hst2.drewN q).mod (by omega)
            go_wp2_with fail
            refine (C2.out _).mono ?_
            rintro e w5 ⟨rfl, q, rfl⟩
            go_wp2_with fail
            go_roundw
            case rel => exact ⟨k + 1, off + 1, rest, us, by omega, by go_num, rfl, rfl, hst2.drewN _⟩
            case measure => simp [RowKit.intOf]; omega
    · -- the drain
      have hcnt := hst.count
      have h0n : off + gs.length ≤ n := by omega
      go_wp2_with fail
      go_loopw [4, 5] (fun v4 v5 wr => ∃ (K off : Nat) (gs : List Nat) (vs : List Int) (x4 x5 : Addr), v4 = .slice (some x4) gs.length (n - off) ∧ v5 = .slice (some x5) gs.length (n - off) ∧ (gs ≠ [] → x4 = ⟨w.heap.size + 1, off, none⟩ ∧ x5 = ⟨w.heap.size + 2, off, none⟩) ∧ off + gs.length ≤ n ∧ St w wr w.heap.size n K off gs vs) (fun v4 _ _ => lenOf v4)
      case atStart => exact ⟨k, off, gs, vs, _, _, rfl, rfl, fun _ => ⟨rfl, rfl⟩, h0n, hst⟩
      case round =>
        clear hst hcnt h0n
        obtain ⟨K, off, gs, vs, x4, x5, rfl, rfl, hxx, hon, hst⟩ := hrel
        have hsz := hst.size
        have hvl : vs.length = gs.length := hst.linked.len
        cases gs with
        | nil =>
          have hq0 : wr.cell? ⟨w.heap.size, 0, none⟩ = some (.pointer none) := heap_cell hst.linked.queue 0
          have hq1 : wr.cell? ⟨w.heap.size, 1, none⟩ = some (.pointer none) := heap_cell hst.linked.queue 1
          have C1 := hid (pop_empty wr w.heap.size hq0)
          rw [List.length_nil]
          go_wp2_with fail
          refine C1.out.mono ?_
          rintro e w2 ⟨rfl, rfl⟩
          go_wp2_with fail
          go_ret
          exact ⟨rfl, hst.below⟩
        | cons g rest =>
          cases vs with
          | nil => simp at hvl
          | cons v us =>
            have C1 := hid (pop_linked hst.linked)
            obtain ⟨am, hm1, hm2, hm3⟩ := hst.model
            obtain ⟨av, hv1, hv2, hv3⟩ := hst.vals
            obtain ⟨rfl, rfl⟩ := hxx (by simp)
            rw [List.length_cons] at hon
            obtain ⟨y4, hy4, hsl26⟩ := slice26 (w.heap.size + 1) off rest.length (n - off) (by omega)
            obtain ⟨y5, hy5, hsl27⟩ := slice27 (w.heap.size + 2) off rest.length (n - off) (by omega)
            have e1 : (0 : Int) < (rest.length : Int) + 1 := by omega
            rw [List.length_cons]
            go_wp2_with fail
            refine C1.out.mono ?_
            rintro e w2 ⟨rfl, hl2, hf2, hg2⟩
            have hst2 := st_pop (k' := K + 1) hst (by omega) hl2 hf2
            have cm0 : w2.cell? ⟨w.heap.size + 1, off, none⟩ = some (.pointer (some ⟨g, 0, none⟩)) := by
              have : w2.heap[w.heap.size + 1]? = some (.cells am 23 (0, 0)) := by rw [hf2.block _ (by omega) (by omega)]; exact hm1
              rw [heap_cell this]; exact hm3 0 g rfl
            have cv0 : w2.cell? ⟨w.heap.size + 2, off, none⟩ = some (.int .i64 v) := by
              have : w2.heap[w.heap.size + 2]? = some (.cells av 3 (0, 0)) := by rw [hf2.block _ (by omega) (by omega)]; exact hv1
              rw [heap_cell this]; exact hv3 0 v rfl
            have cg1 : w2.cell? ⟨g, 1, none⟩ = some (.int .i64 v) := heap_cell hg2 1
            have cg5 : w2.cell? ⟨g, 5, none⟩ = some (.pointer none) := heap_cell hg2 5
            have cg6 : w2.cell? ⟨g, 6, none⟩ = some (.pointer none) := heap_cell hg2 6
            have ne := ne_same
            clear hst hl2 hf2 hm1 hm2 hm3 hv1 hv2 hv3 C1 hg2
            go_wp2_with fail
            go_quiet (fail)
            have C2 : Hid (∀ q, Calls Yba.prog 7 #[.pointer (some ⟨w.heap.size, 0, none⟩), .slice (some y4) rest.length (n - off - 1)] (w2.drewN q) fun e w' => e = .returned (.bool true) ∧ ∃ q', w' = (w2.drewN q).drewN q') := fun q => check_any (cm := n - off - 1) (hst2.drewN q).linked ⟨fun h => by
              have : rest.length ≠ 0 := fun e => h (List.eq_nil_of_length_eq_zero e)
              rw [hy4 (.inl this)], (hst2.drewN q).mod.cell⟩ (by omega)
            go_wp2_with fail
            refine (C2.out _).mono ?_
            rintro e w5 ⟨rfl, q, rfl⟩
            go_wp2_with fail
            go_roundw
            case rel => exact ⟨K + 1, off + 1, rest, us, y4, y5, rfl, rfl, fun h => by
              have : rest.length ≠ 0 := fun e => h (List.eq_nil_of_length_eq_zero e)
              exact ⟨hy4 (.inl this), hy5 (.inl this)⟩, by omega, hst2.drewN _⟩
            case measure => simp [lenOf]

set_option maxHeartbeats 1000000 in
set_option maxRecDepth 100000 in
theorem fifo_long (a : Option Addr) (n c : Nat) (w : World) (h : (1024 : Int) < (n : Int)) :
    Calls Yba.prog 3 #[.slice a n c] w fun e w' => e = .returned (.bool true) ∧ Below w.heap.size w w' := by
  go_enter Yba.func3, Yba.ntmps3
  go_wp2
  go_ret
  exact ⟨rfl, Below.refl _ _⟩
end Go.Proofs.Ybulkcszo
