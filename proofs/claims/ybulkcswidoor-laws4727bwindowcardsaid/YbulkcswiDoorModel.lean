/-
  zzs4727bmodel, zzs4727bshape: what each computes.
-/
import Derived.Test.YbulkcswiDoorCut
namespace Go.Proofs.YbulkcswiDoor
open Go.RowKit Go.Lib

theorem byte_at10 {s : ByteArray} {j : Nat} (h : j < s.size) (x : UInt8) : ((s[j].toNat : Int) == (x.toNat : Int)) = decide (s.data.toList[j]? = some x) := by
  rw [byte_beq, Go.Proofs.byte_at s j h]
  simp

theorem index_end (w : World) (j : Nat) (hj : j < kEnd.size) : (Instr.index 9 (.string ⟨#[69, 78, 68, 32, 79, 70, 32, 83, 84, 77, 84]⟩) (.int .i64 (j : Int))).run Ybad.prog w = .ok (.int .u8 (kEnd[j].toNat : Int)) w := by
  show (Instr.index 9 (.string kEnd) (.int .i64 (j : Int))).run Ybad.prog w = _
  rw [run_index_string w 9 kEnd .i64 (j : Int) Ybad.underlying9, dif_pos ⟨by omega, by omega⟩]
  rfl

set_option maxHeartbeats 1000000 in
/-- zzs4727bshape says yes -/
theorem shape_yes (a : Option Addr) (c : Nat) (s : ByteArray) (r : Nat) (w : World) (hsz : s.size ≤ 1000000) (hseg : Seg w a s) (hr : r ≤ s.size) (h : r = 0 ∨ s.data.toList[r - 1]? = some 10) :
    Calls Ybad.prog 14 #[.slice a s.size c, .int .i64 (r : Int)] w fun e w' => e = .returned (.bool true) ∧ w = w' := by
  have h1 : ¬ (r : Int) < 0 := by omega
  have h2 : ¬ (s.size : Int) < (r : Int) := by omega
  by_cases hr0 : r = 0
  · have e0 : ((r : Int) == 0) = true := by rw [hr0]; rfl
    clear h
    go_enter Ybad.func14, Ybad.ntmps14
    go_wp2
    go_ret
    exact ⟨rfl, rfl⟩
  · obtain ⟨j, hj⟩ : ∃ j, r = j + 1 := ⟨r - 1, by omega⟩
    have hjs : j < s.size := by omega
    have e0 : ((r : Int) == 0) = false := beq_eq_false_iff_ne.2 (by omega)
    have hb : ((s[j].toNat : Int) == 10) = true := by
      rw [show (10 : Int) = ((10 : UInt8).toNat : Int) from rfl, byte_at10 hjs]
      rcases h with h | h
      · omega
      · rw [hj, Nat.add_sub_cancel] at h; simpa using h
    obtain ⟨b, o, rfl, hcb⟩ := hseg (by omega)
    have hcj := hcb j hjs
    have hrj : (r : Int) - 1 = (j : Int) := by omega
    clear h hj hr0
    go_enter Ybad.func14, Ybad.ntmps14
    go_wp2
    go_ret
    exact ⟨rfl, rfl⟩

/-- all eleven bytes agree: an instance -/
theorem occ_of_all {s : ByteArray} {k : Nat} (hk : k + 11 ≤ s.size) (h : ∀ d (hd : d < kEnd.size) (h2 : k + d < s.size), s[k + d] = kEnd[d]) : occAt s.data.toList endL k = true := by
  have hl : s.data.toList.length = s.size := by simp
  have e11 : endL.length = 11 := rfl
  rw [RK.occAt_win _ _ _ (by omega), beq_iff_eq]
  apply List.ext_getElem?
  intro d
  unfold RK.win
  by_cases hd : d < 11
  · rw [e11, List.getElem?_take_of_lt hd, List.getElem?_drop, Go.Proofs.byte_at s (k + d) (by omega)]
    have := h d hd (by omega)
    rw [this]
    exact (Go.Proofs.byte_at kEnd d hd).symm
  · rw [List.getElem?_eq_none (by simp; omega), List.getElem?_eq_none (by omega)]
theorem occ_no_of {s : ByteArray} {k d : Nat} (hk : k + 11 ≤ s.size) (hd : d < kEnd.size) (h2 : k + d < s.size) (hne : s[k + d] ≠ kEnd[d]) : occAt s.data.toList endL k = false := by
  have hl : s.data.toList.length = s.size := by simp
  rw [Bool.eq_false_iff]
  intro ho
  have := occ_get (by omega) ho d hd
  rw [Go.Proofs.byte_at s (k + d) h2, show endL = kEnd.data.toList from rfl, Go.Proofs.byte_at kEnd d hd] at this
  exact hne (Option.some.inj this)

set_option maxHeartbeats 4000000 in
set_option maxRecDepth 100000 in
theorem model_any (a : Option Addr) (c : Nat) (s : ByteArray) (w : World) (hsz : s.size ≤ 1000000) (hseg : Seg w a s) :
    Calls Ybad.prog 13 #[.slice a s.size c] w fun e w' => e = .returned (.int .i64 (cutN s.data.toList)) ∧ ∃ q, w' = w.drewN q := by
  obtain ⟨f, hf⟩ : ∃ f, f = s.size - 65536 := ⟨_, rfl⟩
  have hlen : s.data.toList.length = s.size := by simp
  have Hres : Hid (cutN s.data.toList = cutOf (search s.data.toList f (s.size - 10)) (lastAt s.data.toList 10 s.size + 1)) := by
    show _ = _
    unfold cutN
    rw [hlen, ← hf]
  have Hlen := hid hlen
  have Hf := hid hf
  clear hlen hf
  by_cases hsm : (s.size : Int) - 65536 < 0
  case' neg =>
    have hff : (s.size : Int) - 65536 = (f : Int) := by have := Hf.out; omega
    have hsm' : ¬ (f : Int) < 0 := by omega
  all_goals
    go_enter Ybad.func13, Ybad.ntmps13
    go_wp2_with fail
    go_loopw [4] (fun v4 wr => ∃ (p : Int) (q : Nat), v4 = .int .i64 p ∧ wr = w.drewN q ∧ p ≤ (s.size : Int) - 11 ∧ -12 ≤ p ∧ Hid (search s.data.toList f (s.size - 10) = search s.data.toList f (p + 1).toNat)) (fun v4 _ => (RowKit.intOf v4 + 12).toNat)
    case atStart =>
      refine ⟨(s.size : Int) - 11, 0, rfl, rfl, by omega, by omega, ?_⟩
      · show _ = _
        rw [show ((s.size : Int) - 11 + 1).toNat = s.size - 10 by omega]
    case round =>
      obtain ⟨p, q, rfl, rfl, hp1, hp2, hse⟩ := hrel
      by_cases hpf : (f : Int) ≤ p
      · have hp0 : (0 : Int) ≤ p := by omega
        obtain ⟨k, rfl⟩ := Int.eq_ofNat_of_zero_le (show 0 ≤ p by omega)
        have hk11 : k + 11 ≤ s.size := by omega
        have hks : Hid (search s.data.toList f (s.size - 10) = search s.data.toList f (k + 1)) := by
          have := hse.out
          rwa [show ((k : Int) + 1).toNat = k + 1 by omega] at this
        have Hnext : Hid (hit s.data.toList k = none → search s.data.toList f (s.size - 10) = search s.data.toList f ((k : Int) - 1 + 1).toNat) := fun hh => by
          rw [show ((k : Int) - 1 + 1).toNat = k by omega]
          exact hks.out.trans (search_miss _ f k hh)
        have Hhit : Hid (∀ r, hit s.data.toList k = some r → cutN s.data.toList = r) := fun r hr => by
          rw [Hres.out, hks.out, search_hit _ f k r (by omega) hr]; rfl
        clear hse hks Hres
        obtain ⟨b, o, rfl, hcb⟩ := hseg (by omega)
        by_cases hb0 : k = 0 ∨ s.data.toList[k - 1]? = some 10
        · by_cases hk0 : k = 0
          case' pos =>
            have hkz : ¬ (0 : Int) < (k : Int) := by omega
          case' neg =>
            have hkz : (0 : Int) < (k : Int) := by omega
            obtain ⟨i, hi⟩ : ∃ i, k = i + 1 := ⟨k - 1, by omega⟩
            have his : i < s.size := by omega
            have hbi : ((s[i].toNat : Int) != 10) = false := by
              rw [show (10 : Int) = ((10 : UInt8).toNat : Int) from rfl, bne, byte_at10 his]
              rcases hb0 with h | h
              · omega
              · rw [hi, Nat.add_sub_cancel] at h; simp [h]
            have hci := hcb i his
            have hik : (k : Int) - 1 = (i : Int) := by omega
            clear hi
          all_goals
            have Hb0 := hid hb0
            clear hb0 hk0
            go_wp2_with fail
            go_loopw [5, 6] (fun v5 v6 wr => ∃ (j q' : Nat), j ≤ 11 ∧ v5 = .bool true ∧ v6 = .int .i64 j ∧ wr = w.drewN q' ∧ Hid (∀ d, d < j → ∀ (hd : d < kEnd.size) (h2 : k + d < s.size), s[k + d] = kEnd[d])) (fun _ v6 _ => 11 - (RowKit.intOf v6).toNat)
            case atStart => exact ⟨0, q, Nat.zero_le _, rfl, rfl, rfl, fun d hd => absurd hd (by omega)⟩
            case round =>
              obtain ⟨j, q', hj, rfl, rfl, rfl, hall⟩ := hrel
              by_cases hj11 : (j : Int) < 11
              · have hjk : j < kEnd.size := by have : kEnd.size = 11 := rfl; omega
                have hkj : k + j < s.size := by omega
                have hckj := hcb (k + j) hkj
                have hix := fun w => index_end w j hjk
                go_wp2_with fail
                go_quiet (fail)
                go_wp2_with fail
                · have hne := byte_ne (a := s[k + j]) (b := kEnd[j]) (by assumption)
                  have Hr := hid (Hnext.out (hit_none_of_occ (occ_no_of hk11 hjk hkj hne)))
                  go_roundw
                  case rel => exact ⟨(k : Int) - 1, q' + nq, by first | rfl | (rw [hik]), by simp, by omega, by omega, Hr⟩
                  case measure => simp [RowKit.intOf]; omega
                · have heq := byte_eq (a := s[k + j]) (b := kEnd[j]) (by assumption)
                  go_roundw
                  case rel => exact ⟨j + 1, q' + nq, by omega, rfl, by go_num, by simp, fun d hd hd1 h2 => by
                    by_cases e : d = j
                    · subst e; exact heq
                    · exact hall.out d (by omega) hd1 h2⟩
                  case measure => simp [RowKit.intOf]; omega
              · obtain rfl : j = 11 := by omega
                have Hocc : Hid (occAt s.data.toList endL k = true) := occ_of_all hk11 (fun d hd h2 => hall.out d hd hd h2)
                have Hh := hid (hit_pos Hb0.out Hocc.out)
                clear hall
                by_cases h10 : s.data.toList[k + 11]? = some 10
                · have hlt : k + 11 < s.size := by
                    have := (List.getElem?_eq_some_iff.1 h10).1
                    rwa [Hlen.out] at this
                  have hb1 : ((s[k + 11].toNat : Int) == 10) = true := by
                    rw [show (10 : Int) = ((10 : UInt8).toNat : Int) from rfl, byte_at10 hlt]; simpa using h10
                  have Hr := hid (Hhit.out (k + 12) (by rw [Hh.out, if_pos h10]))
                  have hc11 := hcb (k + 11) hlt
                  have hlt' : (k : Int) + 11 < (s.size : Int) := by omega
                  clear h10
                  go_wp2_with fail
                  go_ret
                  exact ⟨ret_int (by rw [Hr.out]; omega), q', rfl⟩
                · have Hh2 : Hid (hit s.data.toList k = if s.data.toList[k + 11]? = some 13 ∧ s.data.toList[k + 12]? = some 10 then some (k + 13) else none) := Hh.out.trans (if_neg h10)
                  by_cases h13 : s.data.toList[k + 11]? = some 13 ∧ s.data.toList[k + 12]? = some 10
                  · have hlt : k + 12 < s.size := by
                      have := (List.getElem?_eq_some_iff.1 h13.2).1
                      rwa [Hlen.out] at this
                    have hb1 : ((s[k + 11].toNat : Int) == 10) = false := by
                      rw [show (10 : Int) = ((10 : UInt8).toNat : Int) from rfl, byte_at10 (by omega)]; simpa using h10
                    have hb2 : ((s[k + 11].toNat : Int) == 13) = true := by
                      rw [show (13 : Int) = ((13 : UInt8).toNat : Int) from rfl, byte_at10 (by omega)]; simpa using h13.1
                    have hb3 : ((s[k + 12].toNat : Int) == 10) = true := by
                      rw [show (10 : Int) = ((10 : UInt8).toNat : Int) from rfl, byte_at10 hlt]; simpa using h13.2
                    have Hr := hid (Hhit.out (k + 13) (by rw [Hh2.out, if_pos h13]))
                    have hc11 := hcb (k + 11) (by omega)
                    have hc12 := hcb (k + 12) hlt
                    have hlt' : (k : Int) + 11 < (s.size : Int) := by omega
                    have hlt2 : (k : Int) + 11 + 1 < (s.size : Int) := by omega
                    clear h10 h13
                    go_wp2_with fail
                    go_ret
                    exact ⟨ret_int (by rw [Hr.out]; omega), q', rfl⟩
                  · have Hr := hid (Hnext.out (by rw [Hh2.out, if_neg h13]))
                    by_cases hl1 : k + 11 < s.size
                    · have hb1 : ((s[k + 11].toNat : Int) == 10) = false := by
                        rw [show (10 : Int) = ((10 : UInt8).toNat : Int) from rfl, byte_at10 hl1]; simpa using h10
                      have hc11 := hcb (k + 11) hl1
                      have hlt' : (k : Int) + 11 < (s.size : Int) := by omega
                      by_cases hl2 : k + 12 < s.size
                      · have hlt2 : (k : Int) + 11 + 1 < (s.size : Int) := by omega
                        have hc12 := hcb (k + 12) hl2
                        by_cases h131 : s.data.toList[k + 11]? = some 13
                        · have hb2 : ((s[k + 11].toNat : Int) == 13) = true := by
                            rw [show (13 : Int) = ((13 : UInt8).toNat : Int) from rfl, byte_at10 hl1]; simpa using h131
                          have hb3 : ((s[k + 12].toNat : Int) == 10) = false := by
                            rw [show (10 : Int) = ((10 : UInt8).toNat : Int) from rfl, byte_at10 hl2]
                            simpa [h131] using h13
                          clear h10 h13 h131
                          go_wp2_with fail
                          go_roundw
                          case rel => exact ⟨(k : Int) - 1, q', by first | rfl | (rw [hik]), rfl, by omega, by omega, Hr⟩
                          case measure => simp [RowKit.intOf]; omega
                        · have hb2 : ((s[k + 11].toNat : Int) == 13) = false := by
                            rw [show (13 : Int) = ((13 : UInt8).toNat : Int) from rfl, byte_at10 hl1]; simpa using h131
                          clear h10 h13 h131
                          go_wp2_with fail
                          go_roundw
                          case rel => exact ⟨(k : Int) - 1, q', by first | rfl | (rw [hik]), rfl, by omega, by omega, Hr⟩
                          case measure => simp [RowKit.intOf]; omega
                      · have hlt2 : ¬ (k : Int) + 11 + 1 < (s.size : Int) := by omega
                        clear h10 h13
                        go_wp2_with fail
                        go_roundw
                        case rel => exact ⟨(k : Int) - 1, q', by first | rfl | (rw [hik]), rfl, by omega, by omega, Hr⟩
                        case measure => simp [RowKit.intOf]; omega
                    · have hlt' : ¬ (k : Int) + 11 < (s.size : Int) := by omega
                      have hlt2 : ¬ (k : Int) + 11 + 1 < (s.size : Int) := by omega
                      clear h10 h13
                      go_wp2_with fail
                      go_roundw
                      case rel => exact ⟨(k : Int) - 1, q', by first | rfl | (rw [hik]), rfl, by omega, by omega, Hr⟩
                      case measure => simp [RowKit.intOf]; omega
        · have Hr := hid (Hnext.out (hit_neg hb0))
          have hkz : (0 : Int) < (k : Int) := by omega
          obtain ⟨i, hi⟩ : ∃ i, k = i + 1 := ⟨k - 1, by omega⟩
          have his : i < s.size := by omega
          have hbi : ((s[i].toNat : Int) != 10) = true := by
            rw [show (10 : Int) = ((10 : UInt8).toNat : Int) from rfl, bne, byte_at10 his]
            have : ¬ s.data.toList[i]? = some 10 := fun h => hb0 (.inr (by rw [hi, Nat.add_sub_cancel]; exact h))
            simpa using this
          have hci := hcb i his
          have hik : (k : Int) - 1 = (i : Int) := by omega
          clear hi hb0
          go_wp2_with fail
          go_roundw
          case rel => exact ⟨(k : Int) - 1, q, by first | rfl | (rw [hik]), rfl, by omega, by omega, Hr⟩
          case measure => simp [RowKit.intOf]; omega
      · have Hn : Hid (cutN s.data.toList = lastAt s.data.toList 10 s.size + 1) := by
          show _ = _
          rw [Hres.out, hse.out, search_below _ f _ (by omega)]
          rfl
        first
          | (have hp0 : ¬ (0 : Int) ≤ p := by (have := Hf.out; omega))
          | skip
        clear hse Hres
        go_wp2_with fail
        go_loop [8] (fun vi => ∃ k : Nat, k ≤ s.size ∧ vi = .int .i64 ((k : Int) - 1) ∧ Hid (lastAt s.data.toList 10 s.size = lastAt s.data.toList 10 k)) (fun vi => ((RowKit.intOf vi) + 1).toNat)
        case atStart => exact ⟨s.size, Nat.le_refl _, rfl, rfl⟩
        case round =>
          obtain ⟨k, hk, rfl, hh⟩ := hrel
          match k, hk, hh with
          | 0, hk, hh =>
            go_wp2_with fail
            go_ret
            exact ⟨ret_int (by rw [Hn.out, hh.out]; rfl), q, rfl⟩
          | j + 1, hk, hh =>
            obtain ⟨b, o, rfl, hcb⟩ := hseg (by omega)
            have hcj := hcb j (by omega)
            have hg := Go.Proofs.byte_at s j (by omega)
            rw [pred_cast]
            by_cases he : s.data.toList[j]? = some 10
            · have hb : ((s[j].toNat : Int) == 10) = true := by
                rw [show (10 : Int) = ((10 : UInt8).toNat : Int) from rfl, byte_at10 (by omega)]; simpa using he
              have Hr : Hid (cutN s.data.toList = (j : Int) + 1) := by
                show _ = _
                rw [Hn.out, hh.out, lastAt, if_pos he]
              clear he hg
              go_wp2_with fail
              go_ret
              exact ⟨ret_int Hr.out.symm, q, rfl⟩
            · have hb : ((s[j].toNat : Int) == 10) = false := by
                rw [show (10 : Int) = ((10 : UInt8).toNat : Int) from rfl, byte_at10 (by omega)]; simpa using he
              have Hr : Hid (lastAt s.data.toList 10 s.size = lastAt s.data.toList 10 j) := hh.out.trans (by rw [lastAt, if_neg he])
              clear he hg
              go_wp2_with fail
              go_round
              case rel => exact ⟨j, by omega, rfl, Hr⟩
              case measure => simp [RowKit.intOf]
end Go.Proofs.YbulkcswiDoor
