/-
  LawS4727BTokens: the walk.
-/
import Derived.Test.YbulkcswiDoorModel
import Derived.Test.YbulkcswiDoorBuildB
namespace Go.Proofs.YbulkcswiDoor
open Go.RowKit Go.Lib

theorem size_mkB (l : List UInt8) : (ByteArray.mk l.toArray).size = l.length := by simp [ByteArray.size]
theorem toList_mkB (l : List UInt8) : (ByteArray.mk l.toArray).data.toList = l := rfl

/-- cut, the model and the shape at a slice of the bytes L -/
theorem cut_at (a : Option Addr) (n c : Nat) (L : List UInt8) (w : World) (r : Nat) (hn : L.length = n) (hr : cutN L = r) (hsz : n ≤ 1000000) (hs : n ≤ c) (hseg : Seg w a ⟨L.toArray⟩) (hg : Glob w 3 kEnd) :
    Calls Ybad.prog 12 #[.slice a n c] w fun e w' => e = .returned (.int .i64 (r : Int)) ∧ Below w.heap.size w w' := by
  have := cut_any a c ⟨L.toArray⟩ w (by rw [size_mkB]; omega) (by rw [size_mkB]; omega) hseg hg
  rw [size_mkB, hn, toList_mkB, hr] at this
  exact this
theorem model_at (a : Option Addr) (n c : Nat) (L : List UInt8) (w : World) (r : Nat) (hn : L.length = n) (hr : cutN L = r) (hsz : n ≤ 1000000) (hseg : Seg w a ⟨L.toArray⟩) :
    Calls Ybad.prog 13 #[.slice a n c] w fun e w' => e = .returned (.int .i64 (r : Int)) ∧ ∃ q, w' = w.drewN q := by
  have := model_any a c ⟨L.toArray⟩ w (by rw [size_mkB]; omega) hseg
  rw [size_mkB, hn, toList_mkB, hr] at this
  exact this
theorem shape_at (a : Option Addr) (n c : Nat) (L : List UInt8) (w : World) (r : Nat) (hn : L.length = n) (hsz : n ≤ 1000000) (hseg : Seg w a ⟨L.toArray⟩) (hr : r ≤ n) (h : r = 0 ∨ L[r - 1]? = some 10) :
    Calls Ybad.prog 14 #[.slice a n c, .int .i64 (r : Int)] w fun e w' => e = .returned (.bool true) ∧ w = w' := by
  have := shape_yes a c ⟨L.toArray⟩ r w (by rw [size_mkB]; omega) hseg (by rw [size_mkB]; omega) h
  rw [size_mkB, hn] at this
  exact this

set_option maxHeartbeats 1000000 in
theorem tokens_long (a : Option Addr) (n c : Nat) (w : World) (h : (4096 : Int) < (n : Int)) :
    Calls Ybad.prog 6 #[.slice a n c] w fun e w' => e = .returned (.bool true) ∧ Below w.heap.size w w' := by
  go_enter Ybad.func6, Ybad.ntmps6
  go_wp2
  go_ret
  exact ⟨rfl, Below.refl _ _⟩

set_option maxHeartbeats 1000000 in
theorem tokens_walk (a : Option Addr) (s : ByteArray) (c : Nat) (w : World) (h : ¬ (4096 : Int) < (s.size : Int)) (hseg : Seg w a s) (hg : Glob w 3 kEnd) :
    Calls Ybad.prog 6 #[.slice a s.size c] w fun e w' => e = .returned (.bool true) ∧ Below w.heap.size w w' := by
  go_enter Ybad.func6, Ybad.ntmps6
  go_wp2_with fail
  refine (build_any a c s w (by omega) hseg).mono ?_
  rintro e w1 ⟨v1, rfl, ho1, hB1⟩
  go_wp2_with fail
  refine (build_any a c s w1 (by omega) (hseg.later hB1)).mono ?_
  rintro e w2 ⟨v2, rfl, ho2, hB2⟩
  have hLs : (buildL s.data.toList).length ≤ 100000 := by
    have h1 := buildL_le s.data.toList
    have h2 : s.data.toList.length = s.size := by simp
    omega
  obtain ⟨L, HL⟩ : ∃ L, Hid (L = buildL s.data.toList) := ⟨_, rfl⟩
  rw [← HL.out] at ho1 ho2 hLs
  clear HL
  obtain ⟨r, hr, hrl, hr10⟩ := cutN_shape L
  have Hr := hid hr
  clear hr
  have ho1' := ho1.below hB2 rfl
  obtain ⟨a1, c1, rfl, hc1, _, _⟩ := ho1.shape
  obtain ⟨a2, c2, rfl, hc2, _, _⟩ := ho2.shape
  have hBw2 : Below w.heap.size w w2 := hB1.trans (hB2.mono hB1.size)
  have hs1 := ho1'.seg
  have hs2 := ho2.seg
  clear ho1 ho2 ho1'
  go_wp2_with fail
  refine (cut_at a1 L.length c1 L w2 r rfl Hr.out (by omega) hc1 hs1 (hg.later hBw2)).mono ?_
  rintro e w3 ⟨rfl, hB3⟩
  have g1 := convert_seg (hs1.later hB3) L.length c1 (size_mkB L)
  have g2 := convert_seg (hs2.later hB3) L.length c2 (size_mkB L)
  go_wp2_with fail
  refine (model_at a1 L.length c1 L w3 r rfl Hr.out (by omega) (hs1.later hB3)).mono ?_
  rintro e w4 ⟨rfl, q, rfl⟩
  go_wp2_with fail
  refine (shape_at a1 L.length c1 L _ r rfl (by omega) ((hs1.later hB3).drewN _) hrl hr10).mono ?_
  rintro e w5 ⟨rfl, rfl⟩
  go_wp2_with fail
  go_ret
  exact ⟨rfl, below_drewN (hBw2.trans (hB3.mono hBw2.size)) _⟩
end Go.Proofs.YbulkcswiDoor
