/-
  LawS4727BWindow: the walk.
-/
import Derived.Test.YbulkcswiDoorBTokens
import Derived.Laws.AppendOwnNone
namespace Go.Proofs.YbulkcswiDoor
open Go.RowKit Go.Lib

section
variable {w : World} {ops : Array Oper} {rest : List Oper} {o : Oper} {a : Act} {Q : Exit → Act → World → Prop}
/-- append(v, nil...) -/
theorem wp_append_nil (hgd : o.guard = none) (s x : Operand) (ho : o.op = .call { callee := .builtin .append, args := #[s, x], argTypes := #[22, 22] })
    (B : Nat) (v : Value) (l : List UInt8) (hs : a.eval s = v) (hown : Own w B v l) (hx : a.eval x = .slice none 0 0)
    (h : wpList Ybad.prog ops Q rest (a.put o.dst v) w) : wpList Ybad.prog ops Q (o :: rest) a w := by
  obtain ⟨i, hi, _⟩ := info_parts info5
  exact wpList_append_own_none hgd s x 22 ho B 5 i 1 Ybad.underlying22 hi v l.length (byteVals l) hs hown hx h
end

theorem own_none {w : World} {B n c : Nat} {l : List UInt8} (h : Own w B (.slice none n c) l) : n = 0 ∧ c = 0 := by
  rcases h.2 with ⟨hv, _⟩ | ⟨g, cap, cur, hv, _⟩
  · simpa using hv
  · cases hv

set_option maxHeartbeats 1000000 in
theorem window_long (a a2 : Option Addr) (n c n2 c2 : Nat) (k : Int) (w : World) (h : (256 : Int) < (n : Int) ∨ (256 : Int) < (n2 : Int)) :
    Calls Ybad.prog 7 #[.slice a n c, .slice a2 n2 c2, .int .u8 k] w fun e w' => e = .returned (.bool true) ∧ Below w.heap.size w w' := by
  by_cases h1 : (256 : Int) < (n : Int)
  · clear h
    go_enter Ybad.func7, Ybad.ntmps7
    go_wp2
    go_ret
    exact ⟨rfl, Below.refl _ _⟩
  · have h2 : (256 : Int) < (n2 : Int) := by omega
    clear h
    go_enter Ybad.func7, Ybad.ntmps7
    go_wp2
    go_ret
    exact ⟨rfl, Below.refl _ _⟩

set_option maxHeartbeats 2000000 in
theorem window_walk (a a2 : Option Addr) (s s2 : ByteArray) (c c2 : Nat) (k : Nat) (hk : k ≤ 255) (w : World) (h : ¬ (256 : Int) < (s.size : Int)) (h2 : ¬ (256 : Int) < (s2.size : Int)) (hseg : Seg w a s) (hseg2 : Seg w a2 s2) (hg : Glob w 3 kEnd) :
    Calls Ybad.prog 7 #[.slice a s.size c, .slice a2 s2.size c2, .int .u8 (k : Int)] w fun e w' => e = .returned (.bool true) ∧ Below w.heap.size w w' := by
  obtain ⟨n, hn, hnk⟩ : ∃ n : Nat, n ≤ 159744 ∧ (k : Int) % 40 * 4096 = (n : Int) := ⟨k % 40 * 4096, by omega, by omega⟩
  have C1 := hid (build_any a c s w (by omega) hseg)
  go_enter Ybad.func7, Ybad.ntmps7
  go_wp2_with fail
  refine C1.out.mono ?_
  rintro e w1 ⟨v1, rfl, ho1, hB1⟩
  have hLs : (buildL s.data.toList).length ≤ 5000 := by
    have h1 := buildL_le s.data.toList
    have h2 : s.data.toList.length = s.size := by simp
    omega
  obtain ⟨L1, HL1⟩ : ∃ L, Hid (L = buildL s.data.toList) := ⟨_, rfl⟩
  rw [← HL1.out] at ho1 hLs
  clear HL1 C1
  go_wp2_with fail
  go_loopw [7, 9] (fun v i wr => ∃ (j : Nat) (L : List UInt8), j ≤ n ∧ i = .int .i64 j ∧ L.length = L1.length + j ∧ Own wr w.heap.size v L ∧ Below w.heap.size w wr) (fun _ i _ => n - (RowKit.intOf i).toNat)
  case atStart => exact ⟨0, L1, Nat.zero_le _, rfl, rfl, ho1, hB1⟩
  case round =>
    obtain ⟨j, L, hj, rfl, hL, hown, hB⟩ := hrel
    have hLl : L.length ≤ 170000 := by omega
    have HLn := hid hL
    clear hL
    by_cases hlt : (j : Int) < (n : Int)
    · have hsz := hB.size
      by_cases h96 : ((j : Int) % 97 == 96) = true
      case' neg =>
        have h96 : ((j : Int) % 97 == 96) = false := by simpa using h96
      all_goals
        go_wp2_with (at_builtin; first | refine wp_append rfl (.tmp 33) (.tmp 34) rfl w.heap.size _ L [10] rfl (hown.alloc _) ⟨wr.heap.size, 0, none⟩ 1 1 rfl rfl (by simpa using new_byte wr 10) (by simp; omega) (by simp; omega) ?_ | refine wp_append rfl (.tmp 36) (.tmp 37) rfl w.heap.size _ L [120] rfl (hown.alloc _) ⟨wr.heap.size, 0, none⟩ 1 1 rfl rfl (by simpa using new_byte wr 120) (by simp; omega) (by simp; omega) ?_)
        intro v' w2 hown2 hb2 hnn2
        go_wp2_with fail
        go_roundw
        case rel => exact ⟨j + 1, L ++ [_], by omega, by go_num, by have := HLn.out; simp; omega, hown2, (hB.alloc hsz _).trans hb2⟩
        case measure => simp [RowKit.intOf]; omega
    · have C2 := hid (build_any a2 c2 s2 wr (by omega) (hseg2.later hB))
      go_wp2_with fail
      refine C2.out.mono ?_
      rintro e w2 ⟨v2, rfl, ho2, hB2⟩
      have hLs2 : (buildL s2.data.toList).length ≤ 5000 := by
        have h1 := buildL_le s2.data.toList
        have h2 : s2.data.toList.length = s2.size := by simp
        omega
      obtain ⟨L2, HL2⟩ : ∃ L, Hid (L = buildL s2.data.toList) := ⟨_, rfl⟩
      rw [← HL2.out] at ho2 hLs2
      have hown2 := hown.below hB2 rfl
      have hBw2 : Below w.heap.size w w2 := hB.trans (hB2.mono hB.size)
      clear HL2 C2 hown hB
      obtain ⟨x2, d2, rfl, hd2, _, _⟩ := ho2.shape
      rcases x2 with _ | x2
      case' none =>
        obtain ⟨hz1, hz2⟩ := own_none ho2
        rw [hz1, hz2]
        clear ho2
        go_wp2_with (at_builtin; refine wp_append_nil rfl (.tmp 39) (.tmp 41) rfl w.heap.size _ L rfl hown2 rfl ?_)
        obtain ⟨v3, hv3⟩ : ∃ v3, v3 = u7 := ⟨_, rfl⟩
        obtain ⟨w3, hw3⟩ : ∃ w3, w3 = w2 := ⟨_, rfl⟩
        have ho3 : ∃ L3 : List UInt8, L3.length ≤ 200000 ∧ Own w3 w.heap.size v3 L3 := ⟨L, by omega, by rw [hv3, hw3]; exact hown2⟩
        have hBw3 : Below w.heap.size w w3 := by rw [hw3]; exact hBw2
        rw [← hv3, ← hw3]
        clear hown2 hBw2 hv3 hw3
      case' some =>
        go_wp2_with (at_builtin; refine wp_append rfl (.tmp 39) (.tmp 41) rfl w.heap.size _ L L2 rfl hown2 x2 L2.length d2 rfl rfl ho2.cells_at (by omega) hBw2.size ?_)
        intro v3 w3 hown3 hb3 hnn3
        have ho3 : ∃ L3 : List UInt8, L3.length ≤ 200000 ∧ Own w3 w.heap.size v3 L3 := ⟨L ++ L2, by simp; omega, hown3⟩
        have hBw3 : Below w.heap.size w w3 := hBw2.trans hb3
        clear hown3 hb3 hnn3 ho2 hown2 hBw2
        go_wp2_with fail
      all_goals
        obtain ⟨L3, hL3, ho3⟩ := ho3
        obtain ⟨r, hr, hrl, hr10⟩ := cutN_shape L3
        have Hr := hid hr
        clear hr
        obtain ⟨a1, c1, rfl, hc1, _, _⟩ := ho3.shape
        have hs1 := ho3.seg
        clear ho3
        refine (cut_at a1 L3.length c1 L3 w3 r rfl Hr.out (by omega) hc1 hs1 (hg.later hBw3)).mono ?_
        rintro e w4 ⟨rfl, hB4⟩
        go_wp2_with fail
        refine (model_at a1 L3.length c1 L3 w4 r rfl Hr.out (by omega) (hs1.later hB4)).mono ?_
        rintro e w5 ⟨rfl, q, rfl⟩
        go_wp2_with fail
        refine (shape_at a1 L3.length c1 L3 _ r rfl (by omega) ((hs1.later hB4).drewN _) hrl hr10).mono ?_
        rintro e w6 ⟨rfl, rfl⟩
        go_wp2_with fail
        go_ret
        exact ⟨rfl, below_drewN (hBw3.trans (hB4.mono hBw3.size)) _⟩
end Go.Proofs.YbulkcswiDoor
