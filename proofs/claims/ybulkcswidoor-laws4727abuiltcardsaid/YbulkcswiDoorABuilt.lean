/-
  LawS4727ABuilt: the walk.
-/
import Derived.Test.YbulkcswiDoorPlainA
import Derived.Test.YbulkcswiDoorOwn
import Derived.Test.YbulkcswiDoorAModel
namespace Go.Proofs.YbulkcswiDoor
open Go.RowKit Go.Lib

set_option maxHeartbeats 400000 in
theorem prefix_any (k : Nat) (hk : k < 7) (w : World) : Calls Ybad.prog 11 #[.int .i64 (k : Int)] w fun e w' => e = .returned (.string (pfx k)) ∧ w = w' := by
  match k, hk with
  | 0, _ => go_enter Ybad.func11, Ybad.ntmps11; go_wp2; go_ret; exact ⟨rfl, rfl⟩
  | 1, _ => go_enter Ybad.func11, Ybad.ntmps11; go_wp2; go_ret; exact ⟨rfl, rfl⟩
  | 2, _ => go_enter Ybad.func11, Ybad.ntmps11; go_wp2; go_ret; exact ⟨rfl, rfl⟩
  | 3, _ => go_enter Ybad.func11, Ybad.ntmps11; go_wp2; go_ret; exact ⟨rfl, rfl⟩
  | 4, _ => go_enter Ybad.func11, Ybad.ntmps11; go_wp2; go_ret; exact ⟨rfl, rfl⟩
  | 5, _ => go_enter Ybad.func11, Ybad.ntmps11; go_wp2; go_ret; exact ⟨rfl, rfl⟩
  | 6, _ => go_enter Ybad.func11, Ybad.ntmps11; go_wp2; go_ret; exact ⟨rfl, rfl⟩

set_option maxHeartbeats 1000000 in
theorem built_long (out : Bool) (ind tabs sel : Int) (a : Option Addr) (n c : Nat) (w : World) (h : (1024 : Int) < (n : Int)) :
    Calls Ybad.prog 4 #[.agg #[.bool out, .int .u8 ind, .int .u8 tabs, .int .u8 sel, .slice a n c]] w fun e w' => e = .returned (.bool true) ∧ Below w.heap.size w w' := by
  go_enter Ybad.func4, Ybad.ntmps4
  go_wp2
  go_ret
  exact ⟨rfl, (Below.refl _ _).alloc (Nat.le_refl _) _⟩

def tabS : ByteArray := ⟨#[97, 98, 99, 61, 35, 49, 34]⟩
def tabV (x : Int) : UInt8 := tabS.data.toList.getD x.toNat 0
theorem index_tab0 (w : World) : (Instr.index 9 (.string ⟨#[97, 98, 99, 61, 35, 49, 34]⟩) (.int .i64 0)).run Ybad.prog w = .ok (.int .u8 ((tabV 0).toNat : Int)) w := by kernel_rfl
theorem index_tab1 (w : World) : (Instr.index 9 (.string ⟨#[97, 98, 99, 61, 35, 49, 34]⟩) (.int .i64 1)).run Ybad.prog w = .ok (.int .u8 ((tabV 1).toNat : Int)) w := by kernel_rfl
theorem index_tab2 (w : World) : (Instr.index 9 (.string ⟨#[97, 98, 99, 61, 35, 49, 34]⟩) (.int .i64 2)).run Ybad.prog w = .ok (.int .u8 ((tabV 2).toNat : Int)) w := by kernel_rfl
theorem index_tab3 (w : World) : (Instr.index 9 (.string ⟨#[97, 98, 99, 61, 35, 49, 34]⟩) (.int .i64 3)).run Ybad.prog w = .ok (.int .u8 ((tabV 3).toNat : Int)) w := by kernel_rfl
theorem index_tab4 (w : World) : (Instr.index 9 (.string ⟨#[97, 98, 99, 61, 35, 49, 34]⟩) (.int .i64 4)).run Ybad.prog w = .ok (.int .u8 ((tabV 4).toNat : Int)) w := by kernel_rfl
theorem index_tab5 (w : World) : (Instr.index 9 (.string ⟨#[97, 98, 99, 61, 35, 49, 34]⟩) (.int .i64 5)).run Ybad.prog w = .ok (.int .u8 ((tabV 5).toNat : Int)) w := by kernel_rfl
theorem index_tab6 (w : World) : (Instr.index 9 (.string ⟨#[97, 98, 99, 61, 35, 49, 34]⟩) (.int .i64 6)).run Ybad.prog w = .ok (.int .u8 ((tabV 6).toNat : Int)) w := by kernel_rfl
theorem index_tab (w : World) (x : Int) (h0 : 0 ≤ x) (h7 : x < 7) : (Instr.index 9 (.string ⟨#[97, 98, 99, 61, 35, 49, 34]⟩) (.int .i64 x)).run Ybad.prog w = .ok (.int .u8 ((tabV x).toNat : Int)) w := by
  have hx : x = 0 ∨ x = 1 ∨ x = 2 ∨ x = 3 ∨ x = 4 ∨ x = 5 ∨ x = 6 := by omega
  rcases hx with rfl | rfl | rfl | rfl | rfl | rfl | rfl
  · exact index_tab0 w
  · exact index_tab1 w
  · exact index_tab2 w
  · exact index_tab3 w
  · exact index_tab4 w
  · exact index_tab5 w
  · exact index_tab6 w
theorem tabV_ne (x : Int) (h0 : 0 ≤ x) (h7 : x < 7) : tabV x ≠ 32 := by
  obtain ⟨n, rfl⟩ := Int.eq_ofNat_of_zero_le h0
  match n, h7 with
  | 0, _ => decide
  | 1, _ => decide
  | 2, _ => decide
  | 3, _ => decide
  | 4, _ => decide
  | 5, _ => decide
  | 6, _ => decide

theorem size_mk (l : List UInt8) : (ByteArray.mk l.toArray).size = l.length := by simp [ByteArray.size]

theorem cell_arg {w w1 wr : World} {B : Nat} {p : Addr} {v : Value} (h : w.cell? p = some v) (h1 : Below w.heap.size w w1) (hb : Below B w1 wr) (hB : w.heap.size ≤ B) : wr.cell? p = some v := cell_later (h1.trans (hb.mono hB)) h

set_option maxHeartbeats 2000000 in
theorem built_walk (out : Bool) (ind tabs sel : Nat) (hind : ind ≤ 255) (_htabs : tabs ≤ 255) (hsel : sel ≤ 255) (a : Option Addr) (s : ByteArray) (c : Nat) (w : World) (h : ¬ (1024 : Int) < (s.size : Int)) (hseg : Seg w a s) (hg : Globs w) :
    Calls Ybad.prog 4 #[.agg #[.bool out, .int .u8 ind, .int .u8 tabs, .int .u8 sel, .slice a s.size c]] w fun e w' => e = .returned (.bool true) ∧ Below w.heap.size w w' := by
  have hmk := fun w => make_zero w s.size (by omega)
  obtain ⟨bx, hbx⟩ : ∃ bx, bx = Obj.cells #[.bool out, .int .u8 ind, .int .u8 tabs, .int .u8 sel, .slice a s.size c] 30 := ⟨_, rfl⟩
  have hB1 : Below w.heap.size w (w.alloc bx) := (Below.refl _ _).alloc (Nat.le_refl _) _
  have Hbx : Hid (bx = Obj.cells #[.bool out, .int .u8 ind, .int .u8 tabs, .int .u8 sel, .slice a s.size c] 30) := hbx
  clear hbx
  go_enter Ybad.func4, Ybad.ntmps4
  go_wp2
  go_loopw [3, 24] (fun v i wr => ∃ (k : Nat) (l : List UInt8), k ≤ s.size ∧ i = .int .i64 k ∧ l.length = k ∧ NoSp l ∧ Own wr (w.heap.size + 1) v l ∧ v ≠ .slice none 0 0 ∧ Below (w.heap.size + 1) (w.alloc bx) wr) (fun _ i _ => s.size - (RowKit.intOf i).toNat)
  case atStart =>
    refine ⟨0, [], Nat.zero_le _, rfl, rfl, fun x hx => (by cases hx), ?_, by simp, ?_⟩
    · have := Own.made (w.alloc bx) (w.heap.size + 1) s.size (by simp) (by unfold maxLen; omega)
      rw [Hbx.out] at this
      simpa using this
    · rw [Hbx.out]
      exact (Below.refl _ _).alloc (by simp) _
  case round =>
    obtain ⟨k, l, hk, rfl, hl, hns, hown, hnn, hbel⟩ := hrel
    by_cases hlt : (k : Int) < (s.size : Int)
    · obtain ⟨b, o, rfl, hc⟩ := hseg (by omega)
      have hck := cell_arg (hc k (by omega)) hB1 hbel (by omega)
      have h255 : (s[k].toNat : Int) ≤ 255 := by have := s[k].toNat_lt; omega
      have hix := fun w => index_tab w ((s[k].toNat : Int) % 7) (by omega) (by omega)
      have hsp := tabV_ne ((s[k].toNat : Int) % 7) (by omega) (by omega)
      have hsz : w.heap.size + 1 ≤ wr.heap.size := by have := hbel.size; simp at this; omega
      generalize tabV ((s[k].toNat : Int) % 7) = y at hix hsp
      go_wp2_with (at_builtin; refine wp_append rfl (.tmp 28) (.tmp 33) rfl (w.heap.size + 1) _ l [y] rfl (hown.alloc _) ⟨wr.heap.size, 0, none⟩ 1 1 rfl rfl (new_byte wr y) (by simp; omega) (by simp; omega) ?_)
      intro v' w1 hown1 hbel1 hnn1
      go_wp2_with fail
      go_roundw
      case rel =>
        refine ⟨k + 1, l ++ [y], by omega, by go_num, by simp [hl], ?_, hown1, fun e => hnn1 e, ?_⟩
        · intro x hx
          rcases List.mem_append.1 hx with hx | hx
          · exact hns x hx
          · have : x = y := by simpa using hx
            rw [this]; exact hsp
        · exact (hbel.alloc hsz _).trans hbel1
      case measure => simp [RowKit.intOf]; omega
    · obtain rfl : k = s.size := by omega
      rename World => w2
      obtain ⟨ta, tc, rfl, htc, htm, hta⟩ := hown.shape
      obtain ⟨tx, rfl⟩ := hta hnn
      clear hta hnn hmk
      have hbx : ∀ j v, (w.alloc bx).cell? ⟨w.heap.size, j, none⟩ = some v → w2.cell? ⟨w.heap.size, j, none⟩ = some v := fun j v hj => (hbel.cell (p := ⟨w.heap.size, j, none⟩) (by simp)).trans hj
      rw [Hbx.out] at hbx
      have hx0 := hbx 0 (.bool out) (by simp)
      have hx1 := hbx 1 (.int .u8 ind) (by simp)
      have hx2 := hbx 2 (.int .u8 tabs) (by simp)
      have hx3 := hbx 3 (.int .u8 sel) (by simp)
      clear hbx
      have hlt0 : w.heap.size < w2.heap.size := by have := hbel.size; simp at this; omega
      have hBw : Below w.heap.size w w2 := hB1.trans (hbel.mono (by omega))
      clear hbel hB1 Hbx
      obtain ⟨m, hm7, hm⟩ : ∃ m : Nat, m < 7 ∧ (sel : Int) % 7 = m := ⟨sel % 7, by omega, by omega⟩
      obtain ⟨q, hq6, hq⟩ : ∃ q : Nat, q < 6 ∧ (ind : Int) % 6 = q := ⟨ind % 6, by omega, by omega⟩
      have hmk := fun w => make_zero w (16 + s.size) (by omega)
      rw [show ((16 + s.size : Nat) : Int) = 16 + (s.size : Int) by omega] at hmk
      have hmade := Own.made w2 w2.heap.size (16 + s.size) (Nat.le_refl _) (by unfold maxLen; omega)
      have hmadeB : Below w2.heap.size w2 (w2.alloc (.cells (madeCells #[.int .u8 0] (16 + s.size)) 5)) := (Below.refl _ _).alloc (Nat.le_refl _) _
      cases out
      case' false =>
        go_wp2_with (at_builtin; refine wp_append rfl (.tmp 49) (.tmp 50) rfl w2.heap.size _ [] [32] rfl (hmade.alloc _) ⟨w2.heap.size + 1, 0, none⟩ 1 1 rfl rfl (by simpa using new_byte (w2.alloc (.cells (madeCells #[.int .u8 0] (16 + s.size)) 5)) 32) (by simp) (by simp; omega) ?_)
        intro v3 w3 hown3 hbel3 hnn3
        obtain ⟨F, HF, ho3⟩ : ∃ F, Hid (F = firstB false) ∧ Own w3 w2.heap.size v3 [F] := ⟨32, rfl, hown3⟩
      case' true =>
        go_wp2_with (at_builtin; refine wp_append rfl (.tmp 46) (.tmp 47) rfl w2.heap.size _ [] [120] rfl (hmade.alloc _) ⟨w2.heap.size + 1, 0, none⟩ 1 1 rfl rfl (by simpa using new_byte (w2.alloc (.cells (madeCells #[.int .u8 0] (16 + s.size)) 5)) 120) (by simp) (by simp; omega) ?_)
        intro v3 w3 hown3 hbel3 hnn3
        obtain ⟨F, HF, ho3⟩ : ∃ F, Hid (F = firstB true) ∧ Own w3 w2.heap.size v3 [F] := ⟨120, rfl, hown3⟩
      all_goals
        have hB3 : Below w2.heap.size w2 w3 := (hmadeB.alloc (by simp) _).trans hbel3
        have hy1 := cell_later hB3 hx1
        clear hown3 hbel3 hmade hmadeB hmk
        go_wp2_with fail
        rw [hq]
        go_loopw [7, 9] (fun v i wr => ∃ (k : Nat) (bl : List UInt8), k ≤ q ∧ i = .int .i64 k ∧ bl.length = k ∧ Blk bl ∧ Own wr w2.heap.size v (F :: bl) ∧ v ≠ .slice none 0 0 ∧ Below w2.heap.size w2 wr) (fun _ i _ => q - (RowKit.intOf i).toNat)
        case atStart => exact ⟨0, [], Nat.zero_le _, rfl, rfl, fun x hx => (by cases hx), ho3, hnn3, hB3⟩
        case round =>
          obtain ⟨k, bl, hk, rfl, hbl, hblk, hown4, hnn4, hB4⟩ := hrel
          clear hy1 ho3 hnn3 hB3
          have hsz4 : w2.heap.size ≤ wr.heap.size := hB4.size
          by_cases hlt : (k : Int) < (q : Int)
          · have hy2 := cell_later hB4 hx2
            go_wp2_with (at_builtin; first | refine wp_append rfl (.tmp 68) (.tmp 69) rfl w2.heap.size _ (F :: bl) [9] rfl (hown4.alloc _) ⟨wr.heap.size, 0, none⟩ 1 1 rfl rfl (by simpa using new_byte wr 9) (by simp; omega) (by simp; omega) ?_ | refine wp_append rfl (.tmp 71) (.tmp 72) rfl w2.heap.size _ (F :: bl) [32] rfl (hown4.alloc _) ⟨wr.heap.size, 0, none⟩ 1 1 rfl rfl (by simpa using new_byte wr 32) (by simp; omega) (by simp; omega) ?_)
            all_goals
              intro v5 w5 hown5 hbel5 hnn5
              go_wp2_with fail
              go_roundw
              case rel =>
                exact ⟨k + 1, bl ++ [_], by omega, by go_num, by simp [hbl], hblk.snoc _ (by decide), hown5, fun e => hnn5 e, (hB4.alloc hsz4 _).trans hbel5⟩
              case measure => simp [RowKit.intOf]; omega
          · obtain rfl : k = q := by omega
            have hp6 := pfx_size m hm7
            have hy0 := cell_later hB4 hx0
            go_wp2_with fail
            refine (prefix_any m hm7 _).mono ?_
            rintro e w' ⟨rfl, rfl⟩
            go_wp2_with (at_builtin; refine wp_append_str rfl (.tmp 74) (.tmp 76) rfl w2.heap.size _ (F :: bl) rfl hown4 (pfx m) rfl (by simp; omega) hsz4 ?_)
            intro v6 w6 hown6 hbel6 hnn6
            have hB6 : Below w2.heap.size w2 w6 := hB4.trans hbel6
            have hcl : ∀ j (hj : j < l.length), w6.cell? (tx.add j) = some (.int .u8 (l[j].toNat : Int)) := fun j hj => cell_later hB6 (hown.cells_at j hj)
            go_wp2_with (at_builtin; refine wp_append rfl (.tmp 78) (.tmp 79) rfl w2.heap.size _ (F :: bl ++ (pfx m).data.toList) l rfl hown6 tx s.size tc rfl hl.symm hcl (by simp; omega) hB6.size ?_)
            intro v7 w7 hown7 hbel7 hnn7
            have hB7 : Below w2.heap.size w2 w7 := hB6.trans hbel7
            obtain ⟨L, HL, ho7⟩ : ∃ L, Hid (L = F :: bl ++ (pfx m).data.toList ++ l) ∧ Own w7 w2.heap.size v7 L := ⟨_, rfl, by simpa using hown7⟩
            have hLs : L.length ≤ 2000 := by rw [HL.out]; simp; omega
            have hn7 : v7 ≠ .slice none 0 0 := fun e => hnn7 e
            clear hown7 hbel7 hnn7 hown6 hbel6 hnn6 hcl hown4 hnn4 hB6
            obtain ⟨la, lc, rfl, hlc, hlm, hla⟩ := ho7.shape
            obtain ⟨lx, rfl⟩ := hla hn7
            clear hla hn7
            have hmk := fun w => make_full w L.length (by omega)
            obtain ⟨w8, hcp, hkeep, hb8⟩ := copy_all w7 lx lc L 3 (by unfold maxLen; omega) ho7.cells_at
            have hB28 : Below w2.heap.size w2 w8 := hB7.trans (hb8.mono hB7.size)
            have hBw8 : Below w.heap.size w w8 := hBw.trans (hB28.mono hBw.size)
            have ho8 := ho7.below hb8 rfl
            have hseg8 := ho8.seg
            have hlsz : (ByteArray.mk L.toArray).size = L.length := size_mk L
            have hz0 := cell_later hB28 hx0
            have hg8 := hg.later hBw8
            have hls : (ByteArray.mk l.toArray).size = s.size := (size_mk l).trans hl
            have hsegl := ((hown.seg).later (hB28))
            have q22 := eq_nil
            go_wp2_with fail
            refine (read_at (some lx) L.length lc ⟨L.toArray⟩ w8 hlsz (by rw [hlsz]; exact hlc) hlm hseg8 hg8).mono ?_
            rintro e w9 ⟨v, rfl, hr, q9, rfl⟩
            obtain ⟨kk, av, nv, cv, rfl⟩ := bind_shape hr
            have HB := Go.Proofs.hid (built_cases HF.out hblk hns hm7 HL.out hr)
            clear hr hcp hmk
            go_wp2_with fail
            refine (equal_any _ _ ⟨L.toArray⟩ ⟨L.toArray⟩ _ _ _ _ hlsz hlsz _ (hseg8.drewN _) (hkeep.seg.drewN _)).mono ?_
            rintro e w' ⟨rfl, rfl⟩
            rw [seg_same.2 rfl]
            rcases HB.out with ⟨ho, rfl, rfl, rfl, rfl⟩ | ⟨ho, hmm, rfl, rfl, rfl, rfl⟩ | ⟨ho, hmm, rfl, hnv, x, rfl, hxs⟩ | ⟨ho, hmm, rfl, rfl, rfl, rfl⟩
            · first
                | exact absurd ho (by decide)
                | (go_wp2_with fail
                   go_ret
                   exact ⟨rfl, below_drewN hBw8 _⟩)
            · first
                | exact absurd ho (by decide)
                | (clear hm
                   rcases hmm with rfl | rfl
                   · go_wp2_with fail
                     go_ret
                     exact ⟨rfl, below_drewN hBw8 _⟩
                   · go_wp2_with fail
                     go_ret
                     exact ⟨rfl, below_drewN hBw8 _⟩)
            · first
                | exact absurd ho (by decide)
                | (clear hm
                   subst hmm
                   rw [hl] at hnv
                   subst hnv
                   go_wp2_with fail
                   refine (equal_any _ _ ⟨l.toArray⟩ ⟨l.toArray⟩ _ _ _ _ hls hls _ (hxs.drewN _) (hsegl.drewN _)).mono ?_
                   rintro e w' ⟨rfl, rfl⟩
                   rw [seg_same.2 rfl]
                   go_wp2_with fail
                   go_ret
                   exact ⟨rfl, below_drewN hBw8 _⟩)
            · first
                | exact absurd ho (by decide)
                | (clear hm
                   have e0 : ((m : Int) == 0) = false := beq_eq_false_iff_ne.2 (by omega)
                   have e1 : ((m : Int) == 1) = false := beq_eq_false_iff_ne.2 (by omega)
                   have e2 : ((m : Int) == 2) = false := beq_eq_false_iff_ne.2 (by omega)
                   go_wp2_with fail
                   go_ret
                   exact ⟨rfl, below_drewN hBw8 _⟩)
end Go.Proofs.YbulkcswiDoor
