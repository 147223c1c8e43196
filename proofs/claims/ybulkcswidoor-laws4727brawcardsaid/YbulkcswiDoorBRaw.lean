/-
  LawS4727BRaw: the walk.
-/
import Derived.Test.YbulkcswiDoorModel
namespace Go.Proofs.YbulkcswiDoor
open Go.RowKit Go.Lib

set_option maxHeartbeats 1000000 in
theorem raw_long (a : Option Addr) (n c : Nat) (w : World) (h : (131072 : Int) < (n : Int)) :
    Calls Ybad.prog 5 #[.slice a n c] w fun e w' => e = .returned (.bool true) ∧ Below w.heap.size w w' := by
  go_enter Ybad.func5, Ybad.ntmps5
  go_wp2
  go_ret
  exact ⟨rfl, Below.refl _ _⟩

set_option maxHeartbeats 1000000 in
theorem raw_walk (a : Option Addr) (s : ByteArray) (c : Nat) (w : World) (h : ¬ (131072 : Int) < (s.size : Int)) (hs : s.size ≤ c) (hseg : Seg w a s) (hg : Glob w 3 kEnd) :
    Calls Ybad.prog 5 #[.slice a s.size c] w fun e w' => e = .returned (.bool true) ∧ Below w.heap.size w w' := by
  obtain ⟨r, hr, hrl, hr10⟩ := cutN_shape s.data.toList
  have hlen : s.data.toList.length = s.size := by simp
  rw [hlen] at hrl
  have C1 := hid (cut_any a c s w (by omega) hs hseg hg)
  rw [hr] at C1
  have C2 : Hid (∀ w, Seg w a s → Calls Ybad.prog 13 #[.slice a s.size c] w fun e w' => e = .returned (.int .i64 (r : Int)) ∧ ∃ q, w' = w.drewN q) := fun w hseg => by
    have := model_any a c s w (by omega) hseg
    rwa [hr] at this
  clear hr hlen
  go_enter Ybad.func5, Ybad.ntmps5
  go_wp2_with fail
  refine C1.out.mono ?_
  rintro e w1 ⟨rfl, hB⟩
  go_wp2_with fail
  refine (C2.out w1 (hseg.later hB)).mono ?_
  rintro e w' ⟨rfl, q, rfl⟩
  go_wp2_with fail
  refine (shape_yes a c s r _ (by omega) ((hseg.later hB).drewN _) hrl hr10).mono ?_
  rintro e w' ⟨rfl, rfl⟩
  go_wp2_with fail
  go_ret
  exact ⟨rfl, below_drewN hB _⟩
end Go.Proofs.YbulkcswiDoor
