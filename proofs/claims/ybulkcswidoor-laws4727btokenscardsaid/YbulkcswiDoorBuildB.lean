/-
  zzs4727bpiece, zzs4727bbuild: what each makes.
-/
import Derived.Test.YbulkcswiDoorOwn
namespace Go.Proofs.YbulkcswiDoor
open Go.RowKit Go.Lib

def piece (k : Nat) : ByteArray := match k with
  | 0 => ⟨#[69, 78, 68, 32, 79, 70, 32, 83, 84, 77, 84]⟩
  | 1 => ⟨#[10]⟩
  | 2 => ⟨#[13, 10]⟩
  | 3 => ⟨#[120]⟩
  | 4 => ⟨#[13]⟩
  | 5 => ⟨#[69, 78, 68, 32, 79, 70, 32, 83, 84, 77]⟩
  | 6 => ⟨#[69, 78, 68, 32, 79, 70, 32, 83, 84, 77, 84, 10]⟩
  | 7 => ⟨#[10, 69, 78, 68, 32, 79, 70, 32, 83, 84, 77, 84, 13, 10]⟩
  | _ => ⟨#[80, 65, 82, 83, 73, 78, 71, 32, 73, 78, 32, 67, 85, 82, 83, 79, 82, 32, 35]⟩

theorem piece_size (k : Nat) : (piece k).size ≤ 19 := by
  unfold piece
  split <;> decide

set_option maxHeartbeats 1000000 in
theorem piece_any (t : UInt8) (w : World) : Calls Ybad.prog 19 #[.int .u8 (t.toNat : Int)] w fun e w' => e = .returned (.string (piece (t.toNat % 9))) ∧ w = w' := by
  have h255 : (t.toNat : Int) ≤ 255 := by have := t.toNat_lt; omega
  obtain ⟨m, hm9, hm⟩ : ∃ m : Nat, m < 9 ∧ t.toNat % 9 = m := ⟨t.toNat % 9, by omega, rfl⟩
  rw [hm]
  have hmi : (t.toNat : Int) % 9 = (m : Int) := by omega
  clear hm
  have hc : m = 0 ∨ m = 1 ∨ m = 2 ∨ m = 3 ∨ m = 4 ∨ m = 5 ∨ m = 6 ∨ m = 7 ∨ m = 8 := by omega
  rcases hc with rfl | rfl | rfl | rfl | rfl | rfl | rfl | rfl | rfl
  all_goals
    go_enter Ybad.func19, Ybad.ntmps19
    go_wp2
    go_ret
    exact ⟨rfl, rfl⟩

/-- the text of the tokens -/
def buildL (l : List UInt8) : List UInt8 := l.flatMap fun t => (piece (t.toNat % 9)).data.toList

theorem buildL_snoc (l : List UInt8) (t : UInt8) : buildL (l ++ [t]) = buildL l ++ (piece (t.toNat % 9)).data.toList := by simp [buildL]
theorem buildL_le (l : List UInt8) : (buildL l).length ≤ 19 * l.length := by
  induction l with
  | nil => simp [buildL]
  | cons x l ih =>
    have h1 := piece_size (x.toNat % 9)
    have h2 : (piece (x.toNat % 9)).data.toList.length = (piece (x.toNat % 9)).size := by simp
    have : buildL (x :: l) = (piece (x.toNat % 9)).data.toList ++ buildL l := by simp [buildL]
    rw [this, List.length_append, List.length_cons]
    omega
theorem take_succ_byte (s : ByteArray) (k : Nat) (h : k < s.size) : s.data.toList.take (k + 1) = s.data.toList.take k ++ [s[k]] := by
  rw [List.take_add_one, Go.Proofs.byte_at s k h]; rfl

set_option maxHeartbeats 1000000 in
theorem build_any (a : Option Addr) (c : Nat) (s : ByteArray) (w : World) (hs : s.size ≤ 4096) (hseg : Seg w a s) :
    Calls Ybad.prog 15 #[.slice a s.size c] w fun e w' => ∃ v, e = .returned v ∧ Own w' w.heap.size v (buildL s.data.toList) ∧ Below w.heap.size w w' := by
  go_enter Ybad.func15, Ybad.ntmps15
  go_wp2_with fail
  go_loopw [3, 8] (fun v i wr => ∃ k : Nat, k ≤ s.size ∧ i = .int .i64 k ∧ Own wr w.heap.size v (buildL (s.data.toList.take k)) ∧ Below w.heap.size w wr) (fun _ i _ => s.size - (RowKit.intOf i).toNat)
  case atStart => exact ⟨0, Nat.zero_le _, rfl, Own.nil _ _, Below.refl _ _⟩
  case round =>
    obtain ⟨k, hk, rfl, hown, hB⟩ := hrel
    by_cases hlt : (k : Int) < (s.size : Int)
    · have hks : k < s.size := by omega
      obtain ⟨b, o, rfl, hc⟩ := hseg (by omega)
      have hck := cell_later hB (hc k hks)
      have HT := Go.Proofs.hid (take_succ_byte s k hks)
      have hps := piece_size (s[k].toNat % 9)
      have hbl := buildL_le (s.data.toList.take k)
      have htl : (s.data.toList.take k).length ≤ k := List.length_take_le _ _
      have hlb : (buildL (s.data.toList.take k)).length ≤ 100000 := by omega
      obtain ⟨L, HL⟩ : ∃ L, Hid (L = buildL (s.data.toList.take k)) := ⟨_, rfl⟩
      rw [← HL.out] at hown hlb
      clear hbl htl
      go_wp2_with fail
      refine (piece_any s[k] _).mono ?_
      rintro e w' ⟨rfl, rfl⟩
      generalize hpe : piece (s[k].toNat % 9) = pe at *
      have Hpe := Go.Proofs.hid hpe
      clear hpe
      go_wp2_with (at_builtin; refine wp_append_str rfl (.tmp 12) (.tmp 14) rfl w.heap.size _ L rfl hown pe rfl (by omega) hB.size ?_)
      intro v' w1 hown1 hb1 hnn1
      go_wp2_with fail
      go_roundw
      case rel =>
        refine ⟨k + 1, by omega, by go_num, ?_, hB.trans hb1⟩
        rw [HT.out, buildL_snoc, ← HL.out, Hpe.out]
        exact hown1
      case measure => simp [RowKit.intOf]; omega
    · obtain rfl : k = s.size := by omega
      go_wp2_with fail
      go_ret
      refine ⟨_, rfl, ?_, hB⟩
      rw [List.take_of_length_le (by simp)] at hown
      exact hown
end Go.Proofs.YbulkcswiDoor
