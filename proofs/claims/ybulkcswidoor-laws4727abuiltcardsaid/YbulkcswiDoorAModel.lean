/-
  LawS4727AModel: the walk.
-/
import Derived.Test.YbulkcswiDoorBind
namespace Go.Proofs.YbulkcswiDoor
open Go.RowKit Go.Lib

theorem eq_nil (w : World) (a : Option Addr) (n c : Nat) : (binOp .eql 22 (.slice a n c) (.slice none 0 0)).run Ybad.prog w = .ok (.bool a.isNone) w := Lib.run_eql_slice_nil w _ _ a n c 0 0 Ybad.underlying22

set_option maxHeartbeats 1000000 in
theorem model_long (a : Option Addr) (n c : Nat) (w : World) (h : (1048576 : Int) < (n : Int)) :
    Calls Ybad.prog 3 #[.slice a n c] w fun e w' => e = .returned (.bool true) ∧ Below w.heap.size w w' := by
  go_enter Ybad.func3, Ybad.ntmps3
  go_wp2
  go_ret
  exact ⟨rfl, Below.refl _ _⟩

set_option maxHeartbeats 1000000 in
theorem model_out (a : Option Addr) (s : ByteArray) (c : Nat) (w : World) (hl : ¬ (1048576 : Int) < (s.size : Int)) (hs : s.size ≤ c) (hcm : c ≤ maxLen) (hseg : Seg w a s) (hg : Globs w) (h0 : 0 < s.size) (ho : outside s = true) :
    Calls Ybad.prog 3 #[.slice a s.size c] w fun e w' => e = .returned (.bool true) ∧ Below w.heap.size w w' := by
  have hb : ((s[0].toNat : Int) != 32) = true := by
    unfold outside at ho
    rw [dif_pos h0] at ho
    rw [bne_iff_ne]
    intro e
    have : s[0] = 32 := UInt8.toNat_inj.1 (by simp; omega)
    rw [this] at ho
    cases ho
  have Ho : Hid (outside s = true) := ho
  clear ho
  obtain ⟨b, o, rfl, hc⟩ := hseg h0
  have hc0 := hc 0 h0
  rw [Nat.add_zero] at hc0
  have q22 := eq_nil
  go_enter Ybad.func3, Ybad.ntmps3
  go_wp2_with fail
  refine (read_any _ _ s _ hs hcm hseg hg).mono ?_
  rintro e w' ⟨v, rfl, hr, q, rfl⟩
  rcases hr with ⟨_, rfl⟩ | ⟨h, _⟩ | ⟨h, _⟩ | ⟨h, _⟩
  · go_wp2
    go_ret
    exact ⟨rfl, below_drewN (Below.refl _ _) _⟩
  all_goals rw [Ho.out] at h; cases h

theorem has_at (a : Option Addr) (s : ByteArray) (n c : Nat) (p : ByteArray) (w : World) (hn : s.size = n) (hs : s.size ≤ maxLen) (hseg : Seg w a s) :
    Calls Ybad.prog 9 #[.slice a n c, .string p] w fun e w' => e = .returned (.bool (preB s p)) ∧ ∃ q, w' = w.drewN q := by
  subst hn; exact has_any a s c p w hs hseg

/-- The three shapes of the answer for a line of the block. -/
theorem bind_three {w : World} {s : ByteArray} {k : Int} {av : Option Addr} {nv cv : Nat} (ho : outside s = false) (h : BindRes w s (.tuple #[.int .u8 k, .slice av nv cv])) :
    ((preB (trimB s) kBind = true ∨ preB (trimB s) kOld = true) ∧ k = 2 ∧ av = none ∧ nv = 0 ∧ cv = 0) ∨
    (preB (trimB s) kBind = false ∧ preB (trimB s) kOld = false ∧ preB (trimB s) kValue = true ∧ k = 3 ∧ nv = (trimB s).size - 6 ∧ ∃ x, av = some x ∧ Seg w (some x) ((trimB s).extract 6 (trimB s).size)) ∨
    (preB (trimB s) kBind = false ∧ preB (trimB s) kOld = false ∧ preB (trimB s) kValue = false ∧ k = 1 ∧ av = none ∧ nv = 0 ∧ cv = 0) := by
  rcases h with ⟨h1, _⟩ | ⟨_, h1, h2⟩ | ⟨_, h1, h2, x, y, h3, h4⟩ | ⟨_, h1, h2, h3⟩
  · rw [ho] at h1; cases h1
  · refine .inl ⟨Bool.or_eq_true_iff.1 h1, ?_⟩
    simpa using h2
  · have h1' := Bool.or_eq_false_iff.1 h1
    simp at h3
    obtain ⟨rfl, rfl, rfl, rfl⟩ := h3
    exact .inr (.inl ⟨h1'.1, h1'.2, h2, rfl, rfl, x, rfl, h4⟩)
  · have h1' := Bool.or_eq_false_iff.1 h1
    simp at h3
    exact .inr (.inr ⟨h1'.1, h1'.2, h2, h3⟩)

theorem seg_same {s t : ByteArray} : (s.toList == t.toList) = true ↔ s = t := by
  rw [beq_iff_eq, ByteArray.toList_eq, ByteArray.toList_eq]
  exact ⟨fun h => ext_of_list h, fun h => by rw [h]⟩

set_option maxHeartbeats 2000000 in
theorem model_in (a : Option Addr) (s : ByteArray) (c : Nat) (w : World) (hl : ¬ (1048576 : Int) < (s.size : Int)) (hs : s.size ≤ c) (hcm : c ≤ maxLen) (hseg : Seg w a s) (hg : Globs w) (ho : outside s = false) :
    Calls Ybad.prog 3 #[.slice a s.size c] w fun e w' => e = .returned (.bool true) ∧ Below w.heap.size w w' := by
  have q22 := eq_nil
  have Ho : Hid (outside s = false) := ho
  clear ho
  by_cases h0 : 0 < s.size
  case' pos =>
    have hb := outside_byte Ho.out h0
    obtain ⟨b, o, rfl, hc⟩ := hseg h0
    have hc0 := hc 0 h0
    rw [Nat.add_zero] at hc0
  all_goals
    go_enter Ybad.func3, Ybad.ntmps3
    go_wp2_with fail
    refine (read_any _ _ s _ hs hcm hseg hg).mono ?_
    rintro e w' ⟨v, rfl, hr, q, rfl⟩
    obtain ⟨k, av, nv, cv, rfl⟩ : ∃ k av nv cv, v = .tuple #[.int .u8 k, .slice av nv cv] := by
      rcases hr with ⟨_, rfl⟩ | ⟨_, _, rfl⟩ | ⟨_, _, _, x, y, rfl, _⟩ | ⟨_, _, _, rfl⟩ <;> exact ⟨_, _, _, _, rfl⟩
    have HR : Hid (BindRes w s (.tuple #[.int .u8 k, .slice av nv cv])) := hr
    clear hr
    go_wp2_with fail
    go_loop [5] (fun i => ∃ j : Nat, j ≤ s.size ∧ i = .int .i64 j ∧ Hid (∀ m (h : m < s.size), m < j → blank s[m] = true)) (fun i => s.size - (RowKit.intOf i).toNat)
    case atStart => exact ⟨0, Nat.zero_le _, rfl, fun m h hm => absurd hm (by omega)⟩
    case round =>
      obtain ⟨j, hj, rfl, hbl⟩ := hrel
      by_cases hx : ∃ h : j < s.size, blank s[j] = true
      · obtain ⟨hj2, hb2⟩ := hx
        have hcs := blank_cases hb2
        have Hb : Hid (∀ m (h : m < s.size), m < j + 1 → blank s[m] = true) := fun m h hm => by
          by_cases e : m = j
          · subst e; exact hb2
          · exact hbl.out m h (by omega)
        clear hb2
        obtain ⟨b1, o1, e1, hc1⟩ := hseg (by omega)
        have hcj := hc1 j hj2
        cases e1
        rcases hcs with h1 | ⟨h1, h2⟩
        all_goals
          go_wp2_with fail
          go_round
          case rel => exact ⟨j + 1, by omega, by go_num, Hb⟩
          case measure => simp [RowKit.intOf]; omega
      · have Hfin : Hid (s.extract j s.size = trimB s) := (trim_at s j hj hbl.out (fun h => by rw [Bool.eq_false_iff]; intro e; exact hx ⟨h, e⟩)).symm
        obtain ⟨n, hn⟩ : ∃ n, s.size - j = n := ⟨_, rfl⟩
        have Hsz : Hid ((trimB s).size = n) := by
          show _ = _
          rw [← Hfin.out, ← hn]; simp [ByteArray.size_extract]
        have hst0 := hseg.mid c j s.size (Nat.le_refl _) hs
        rw [Hfin.out] at hst0
        have hst := fun r => hst0.drewN r
        have hmx : (trimB s).size ≤ maxLen := by have := Hsz.out; omega
        have hnc : (trimB s).size ≤ c - j := by have := Hsz.out; omega
        have hsl := fun w a => slice_tail w a s.size c j hj
        rw [hn] at hsl
        have hnb : (n : Int) ≤ 1048576 := by omega
        clear hn
        by_cases hj2 : j < s.size
        case' pos =>
          obtain ⟨hn1, hn2⟩ := not_blank (x := s[j]) (by rw [Bool.eq_false_iff]; intro e; exact hx ⟨hj2, e⟩)
          obtain ⟨b1, o1, e1, hc1⟩ := hseg (by omega)
          have hcj := hc1 j hj2
          cases e1
        all_goals
          clear hx
          go_wp2_with fail
          refine (has_at _ (trimB s) _ _ kBind _ Hsz.out hmx (hst _)).mono ?_
          rintro e w' ⟨rfl, q1, rfl⟩
          rcases bind_three Ho.out HR.out with ⟨hp, rfl, rfl, rfl, rfl⟩ | ⟨hp0, hp1, hp2, rfl, rfl, x, rfl, hx⟩ | ⟨hp0, hp1, hp2, rfl, rfl, rfl, rfl⟩
          · cases hp0 : preB (trimB s) kBind
            · have hp1 : preB (trimB s) kOld = true := by rw [hp0] at hp; simpa using hp
              go_wp2_with fail
              refine (has_at _ (trimB s) _ _ kOld _ Hsz.out hmx (hst _)).mono ?_
              rintro e w' ⟨rfl, q2, rfl⟩
              go_wp2_with fail
              go_ret
              exact ⟨rfl, below_drewN (Below.refl _ _) _⟩
            · go_wp2_with fail
              go_ret
              exact ⟨rfl, below_drewN (Below.refl _ _) _⟩
          · have h6 := preB_size hp2
            rw [show kValue.size = 6 from rfl, Hsz.out] at h6
            obtain ⟨m, rfl⟩ : ∃ m, n = m + 6 := ⟨n - 6, by omega⟩
            have hsl6 := fun w a => slice_tail w a (m + 6) (c - j) 6 (by omega)
            rw [show ((6 : Nat) : Int) = 6 from rfl, show m + 6 - 6 = m by omega] at hsl6
            rw [show (trimB s).size - 6 = m by have := Hsz.out; omega]
            have Hm : Hid (((trimB s).extract 6 (trimB s).size).size = m) := by show _ = _; simp [ByteArray.size_extract, Hsz.out]
            have hs6 := hst0.mid (c - j) 6 (trimB s).size (Nat.le_refl _) hnc
            go_wp2_with fail
            refine (has_at _ (trimB s) _ _ kOld _ Hsz.out hmx (hst _)).mono ?_
            rintro e w' ⟨rfl, q2, rfl⟩
            go_wp2_with fail
            refine (has_at _ (trimB s) _ _ kValue _ Hsz.out hmx (hst _)).mono ?_
            rintro e w' ⟨rfl, q3, rfl⟩
            go_wp2_with fail
            refine (equal_any _ _ ((trimB s).extract 6 (trimB s).size) ((trimB s).extract 6 (trimB s).size) _ _ _ _ Hm.out Hm.out _ (hx.drewN _) (hs6.drewN _)).mono ?_
            rintro e w' ⟨rfl, rfl⟩
            rw [seg_same.2 rfl]
            go_wp2_with fail
            go_ret
            exact ⟨rfl, below_drewN (Below.refl _ _) _⟩
          · go_wp2_with fail
            refine (has_at _ (trimB s) _ _ kOld _ Hsz.out hmx (hst _)).mono ?_
            rintro e w' ⟨rfl, q2, rfl⟩
            go_wp2_with fail
            refine (has_at _ (trimB s) _ _ kValue _ Hsz.out hmx (hst _)).mono ?_
            rintro e w' ⟨rfl, q3, rfl⟩
            go_wp2_with fail
            go_ret
            exact ⟨rfl, below_drewN (Below.refl _ _) _⟩
end Go.Proofs.YbulkcswiDoor
