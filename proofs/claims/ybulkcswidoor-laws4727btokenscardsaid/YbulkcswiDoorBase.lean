/-
  Shared by the laws of this seat: a []byte told by a ByteArray; small facts.
-/
import Derived.Test.YbulkcswiDoorRows
import Derived.WalkKit
import Derived.WalkSpells
import Derived.WalkLawsBesides
import Derived.Deep.QuietTactic
import Derived.BigQuiet
import Derived.Lib.SlBytesRow
import Derived.Lib.LastIndexLaws
namespace Go.Proofs.YbulkcswiDoor
open Go.RowKit Go.Lib

/-- The slice at address a (of s.size bytes) holds the bytes s; where there is no byte: whatever the address. -/
def Seg (w : World) (a : Option Addr) (s : ByteArray) : Prop := 0 < s.size → ∃ b o, a = some ⟨b, o, none⟩ ∧ Lib.Bytes w b o s

theorem Seg.drewN {w : World} {a : Option Addr} {s : ByteArray} (h : Seg w a s) (q : Nat) : Seg (w.drewN q) a s := fun hs => by
  obtain ⟨b, o, e, hb⟩ := h hs
  exact ⟨b, o, e, hb.drewN q⟩

theorem Seg.later {w w' : World} {a : Option Addr} {s : ByteArray} (h : Seg w a s) (hb : Below w.heap.size w w') : Seg w' a s := fun hs => by
  obtain ⟨b, o, e, hc⟩ := h hs
  exact ⟨b, o, e, fun i hi => cell_later hb (hc i hi)⟩

theorem ret_bool {a b : Bool} (h : a = b) : Ending.returned (.bool a) = .returned (.bool b) := by rw [h]
theorem ret_int {k : IntKind} {a b : Int} (h : a = b) : Ending.returned (.int k a) = .returned (.int k b) := by rw [h]

/-- p stands at the head of s. -/
def preB (s p : ByteArray) : Bool := p.data.toList.isPrefixOf s.data.toList

theorem preB_true (s p : ByteArray) (hl : p.size ≤ s.size) (h : ∀ j (hj : j < p.size), s[j]'(by omega) = p[j]) : preB s p = true := by
  unfold preB
  rw [List.isPrefixOf_iff_prefix, List.prefix_iff_eq_take]
  apply List.ext_getElem
  · simp; omega
  · intro i h1 h2
    have hi : i < p.size := by simpa using h1
    rw [List.getElem_take, Go.Proofs.byte_at' p i hi, Go.Proofs.byte_at' s i (by omega), h i hi]

theorem preB_short (s p : ByteArray) (hl : s.size < p.size) : preB s p = false := by
  unfold preB
  rw [Bool.eq_false_iff]
  intro h
  have := (List.isPrefixOf_iff_prefix.1 h).length_le
  simp at this
  omega

theorem preB_get {s p : ByteArray} (h : preB s p = true) (j : Nat) (hj : j < p.size) (hs : j < s.size) : s[j] = p[j] := by
  unfold preB at h
  obtain ⟨t, ht⟩ := List.isPrefixOf_iff_prefix.1 h
  have e1 := Go.Proofs.byte_at s j hs
  have e2 := Go.Proofs.byte_at p j hj
  rw [← ht, List.getElem?_append_left (by simpa using hj), e2] at e1
  exact (Option.some.inj e1).symm

theorem preB_size {s p : ByteArray} (h : preB s p = true) : p.size ≤ s.size := by
  by_cases h2 : s.size < p.size
  · rw [preB_short s p h2] at h; cases h
  · omega

theorem preB_false (s p : ByteArray) (j : Nat) (hj : j < p.size) (hs : j < s.size) (hne : s[j] ≠ p[j]) : preB s p = false := by
  rw [Bool.eq_false_iff]
  intro h
  exact hne (preB_get h j hj hs)

theorem byte_ne {a b : UInt8} (h : ((a.toNat : Int) != (b.toNat : Int)) = true) : a ≠ b := by
  intro e; subst e; simp at h
theorem byte_eq {a b : UInt8} (h : ((a.toNat : Int) != (b.toNat : Int)) = false) : a = b := by
  simp at h
  exact UInt8.toNat_inj.1 (by omega)

set_option maxHeartbeats 400000 in
/-- zzs4727ahas -/
theorem has_any (a : Option Addr) (s : ByteArray) (c : Nat) (p : ByteArray) (w : World) (hs : s.size ≤ maxLen) (hseg : Seg w a s) :
    Calls Ybad.prog 9 #[.slice a s.size c, .string p] w fun e w' => e = .returned (.bool (preB s p)) ∧ ∃ q, w' = w.drewN q := by
  unfold maxLen at hs
  by_cases hl : (s.size : Int) < (p.size : Int)
  · go_enter Ybad.func9, Ybad.ntmps9
    go_wp2
    go_ret
    exact ⟨ret_bool (preB_short s p (by omega)).symm, 0, rfl⟩
  · by_cases hp0 : p.size = 0
    · go_enter Ybad.func9, Ybad.ntmps9
      go_wp2
      go_loop [5] (fun i => i = .int .i64 0) (fun _ => 0)
      case atStart => rfl
      case round =>
        subst hrel
        go_wp2
        go_ret
        exact ⟨ret_bool (preB_true s p (by omega) (fun j hj => absurd hj (by omega))).symm, 0, rfl⟩
    · obtain ⟨b, o, rfl, hc⟩ := hseg (by omega)
      go_enter Ybad.func9, Ybad.ntmps9
      go_wp2
      go_loopw [5] (fun i wr => ∃ (k q : Nat), k ≤ p.size ∧ i = .int .i64 k ∧ wr = w.drewN q ∧ Hid (∀ j (hj : j < k) (h1 : j < p.size) (h2 : j < s.size), s[j] = p[j])) (fun i _ => p.size - (RowKit.intOf i).toNat)
      case atStart => exact ⟨0, 0, Nat.zero_le _, rfl, rfl, fun j hj => absurd hj (by omega)⟩
      case round =>
        obtain ⟨k, q, hk, rfl, rfl, hh⟩ := hrel
        by_cases hlt : (k : Int) < (p.size : Int)
        · have hk1 : k < p.size := by omega
          have hk2 : k < s.size := by omega
          have hcell := hc k hk2
          go_wp2
          go_quiet (fail)
          go_wp2
          · have hne := byte_ne (a := s[k]) (b := p[k]) (by assumption)
            go_ret
            exact ⟨ret_bool (preB_false s p k hk1 hk2 hne).symm, q + nq, by simp⟩
          · have heq := byte_eq (a := s[k]) (b := p[k]) (by assumption)
            go_roundw
            case rel => exact ⟨k + 1, _, by omega, by go_num, rfl, fun j hj h1 h2 => by
              by_cases e : j = k
              · subst e; exact heq
              · exact hh.out j (by omega) h1 h2⟩
            case measure => simp [RowKit.intOf]; omega
        · go_wp2
          go_ret
          exact ⟨ret_bool (preB_true s p (by omega) (fun j hj => hh.out j (by omega) hj _)).symm, _, rfl⟩

/-! ### bytes.Equal, bytes.HasPrefix -/

theorem convert_zero (w : World) (p : Option Addr) (c : Nat) : (convert 22 9 (.slice p 0 c)).run Ybad.prog w = .ok (.string ByteArray.empty) w := by
  rw [run_convert_bytes_string w 22 9 5 _ 0 c Ybad.underlying22 Ybad.underlying5 Ybad.underlying9]
  cases p <;> simp [Conv.bytesToString, loadCells]
  all_goals rfl

theorem empty_of_size {s : ByteArray} (h : s.size = 0) : s = ByteArray.empty := by
  apply ByteArray.ext
  apply Array.toList_inj.1
  have : s.data.toList.length = 0 := by simpa using h
  rw [List.eq_nil_of_length_eq_zero this]
  rfl

/-- string(b) -/
theorem convert_seg {w : World} {a : Option Addr} {s : ByteArray} (h : Seg w a s) (n c : Nat) (hn : s.size = n) : (convert 22 9 (.slice a n c)).run Ybad.prog w = .ok (.string s) w := by
  subst hn
  by_cases h0 : 0 < s.size
  · obtain ⟨b, o, rfl, hc⟩ := h h0
    exact run_convert_whole w 22 5 9 Ybad.underlying22 Ybad.underlying5 Ybad.underlying9 b o s hc c
  · have e : s.size = 0 := by omega
    rw [e, empty_of_size e]
    exact convert_zero w a c

theorem Seg.take {w : World} {a : Option Addr} {s : ByteArray} (h : Seg w a s) (n : Nat) (hn : n ≤ s.size) : Seg w a (s.extract 0 n) := fun h0 => by
  have hs : (s.extract 0 n).size = n := by simp [ByteArray.size_extract]; omega
  obtain ⟨b, o, e, hc⟩ := h (by omega)
  refine ⟨b, o, e, fun i hi => ?_⟩
  rw [hc i (by omega)]
  congr 4
  simp [ByteArray.getElem_extract]

set_option maxHeartbeats 400000 in
theorem equal_any (a a' : Option Addr) (s s' : ByteArray) (n n' c c' : Nat) (hn : s.size = n) (hn' : s'.size = n') (w : World) (h : Seg w a s) (h' : Seg w a' s') :
    Calls Ybad.prog 10 #[.slice a n c, .slice a' n' c'] w fun e w' => e = .returned (.bool (s.toList == s'.toList)) ∧ w = w' := by
  have g1 := convert_seg h n c hn
  have g2 := convert_seg h' n' c' hn'
  go_enter Ybad.func10, Ybad.ntmps10
  go_wp2
  go_ret
  exact ⟨rfl, rfl⟩

theorem pre_extract (s p : ByteArray) : ((s.extract 0 p.size).toList == p.toList) = preB s p := by
  rw [ext_win, ByteArray.toList_eq p]
  unfold preB
  rw [Bool.eq_iff_iff, List.isPrefixOf_iff_prefix, List.prefix_iff_eq_take, beq_iff_eq]
  have : p.data.toList.length = p.size := by simp
  rw [this]
  unfold RK.win
  simp only [List.drop_zero, Nat.sub_zero]
  exact ⟨fun h => h.symm, fun h => h.symm⟩

theorem size5 (w : World) : (Go.sizeOf 5).run Ybad.prog w = .ok 1 w := by kernel_rfl
theorem elem22 : Ybad.prog.elem 22 = 5 := by simp [Program.elem, Ybad.underlying22]
theorem und22 : Ybad.prog.underlying 22 = some (.slice (Ybad.prog.elem 22)) := by rw [elem22]; exact Ybad.underlying22

/-- the address of b[j:], the capacity being c -/
def tailA (a : Option Addr) (c j : Nat) : Option Addr := if c = j then a else a.map (·.add j)

/-- b[:h] -/
theorem slice_head (w : World) (a : Option Addr) (n c h : Nat) (hh : h ≤ c) : (Instr.slice 22 (.slice a n c) none (some (.int .i64 h)) none).run Ybad.prog w = .ok (.slice a h c) w := by
  rw [run_slice_h w 22 _ _ _ und22 .i64 _ (by omega) (by omega), elem22, size5]
  cases a <;> simp [Result.andThen, sliced, Addr.add]

/-- b[l:] -/
theorem slice_tail (w : World) (a : Option Addr) (n c l : Nat) (hl : l ≤ n) : (Instr.slice 22 (.slice a n c) (some (.int .i64 l)) none none).run Ybad.prog w = .ok (.slice (tailA a c l) (n - l) (c - l)) w := by
  rw [run_slice_l w 22 _ _ _ und22 .i64 _ (by omega) (by omega), elem22, size5]
  simp [Result.andThen, sliced, tailA]

/-- b[l:h] -/
theorem slice_mid (w : World) (a : Option Addr) (n c l h : Nat) (hl : l ≤ h) (hh : h ≤ c) : (Instr.slice 22 (.slice a n c) (some (.int .i64 l)) (some (.int .i64 h)) none).run Ybad.prog w = .ok (.slice (tailA a c l) (h - l) (c - l)) w := by
  rw [run_slice_lh w 22 _ _ _ und22 .i64 .i64 _ _ (by omega) (by omega) (by omega), elem22, size5]
  simp [Result.andThen, sliced, tailA]

theorem Seg.mid {w : World} {a : Option Addr} {s : ByteArray} (h : Seg w a s) (c l r : Nat) (hr : r ≤ s.size) (hc : s.size ≤ c) : Seg w (tailA a c l) (s.extract l r) := fun h0 => by
  have hs : (s.extract l r).size = r - l := by simp [ByteArray.size_extract]; omega
  obtain ⟨b, o, e, hcl⟩ := h (by omega)
  subst e
  refine ⟨b, o + l, ?_, fun i hi => ?_⟩
  · unfold tailA
    rw [if_neg (by omega)]
    simp [Addr.add]
  · rw [Nat.add_assoc, hcl (l + i) (by omega)]
    congr 4
    simp [ByteArray.getElem_extract]

set_option maxHeartbeats 400000 in
theorem hasPrefix_any (a a' : Option Addr) (s p : ByteArray) (n n' c c' : Nat) (hn : s.size = n) (hn' : p.size = n') (w : World) (hsc : s.size ≤ c) (h : Seg w a s) (h' : Seg w a' p) :
    Calls Ybad.prog 16 #[.slice a n c, .slice a' n' c'] w fun e w' => e = .returned (.bool (preB s p)) ∧ w = w' := by
  subst hn hn'
  by_cases hl : p.size ≤ s.size
  · have hsl := fun w => slice_head w a s.size c p.size (by omega)
    go_enter Ybad.func16, Ybad.ntmps16
    go_wp2_with (go_at_call 10; refine (equal_any _ _ (s.extract 0 p.size) p _ _ _ _ (by simp [ByteArray.size_extract]; omega) rfl _ (h.take _ hl) h').mono ?_; rintro e w' ⟨rfl, rfl⟩)
    go_ret
    exact ⟨ret_bool (pre_extract s p), rfl⟩
  · have hl' : ¬ (p.size : Int) ≤ (s.size : Int) := by omega
    go_enter Ybad.func16, Ybad.ntmps16
    go_wp2
    go_ret
    exact ⟨ret_bool (preB_short s p (by omega)).symm, rfl⟩
end Go.Proofs.YbulkcswiDoor
