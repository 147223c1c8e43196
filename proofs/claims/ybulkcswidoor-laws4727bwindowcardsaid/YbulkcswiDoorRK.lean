/-
  hashStrRev, LastIndexRabinKarp at []byte; bytes.LastIndex, bytes.LastIndexByte.
-/
import Derived.Test.YbulkcswiDoorBase
namespace Go.Proofs.YbulkcswiDoor
open Go.RowKit Go.Lib

theorem roll_form (A T : Int) : (A % 4294967296 - T % 4294967296) % 4294967296 = (A - T) % 4294967296 := by omega

theorem pred_cast (j : Nat) : (((j + 1 : Nat) : Int) - 1) = (j : Int) := by omega

set_option maxHeartbeats 4000000 in
/-- internal/bytealg.hashStrRev: the hash of sep REVERSED, and primeRK ^ len(sep). -/
theorem hashrev_any (b o c : Nat) (sep : ByteArray) (hs : sep.size < 4611686018427387904) (w : World) (hc : Lib.Bytes w b o sep) :
    Calls Ybad.prog 22 #[.slice (some ⟨b, o, none⟩) sep.size c] w fun e w' => e = .returned (.tuple #[.int .u32 (RK.H sep.data.toList.reverse % 4294967296), .int .u32 (16777619 ^ sep.size % 4294967296)]) ∧ w = w' := by
  go_enter Ybad.func22, Ybad.ntmps22
  go_wp2
  go_loop [4, 5] (fun vh vi => ∃ (k : Nat) (h : Int), k ≤ sep.size ∧ vi = .int .i64 ((k : Int) - 1) ∧ vh = .int .u32 h ∧ Hid (h = RK.H (sep.data.toList.drop k).reverse % 4294967296)) (fun _ vi => ((RowKit.intOf vi) + 1).toNat)
  case atStart => exact ⟨sep.size, 0, Nat.le_refl _, rfl, rfl, by show (0 : Int) = _; rw [List.drop_of_length_le (by simp)]; rfl⟩
  case round =>
    obtain ⟨k, h, hk, rfl, rfl, hh⟩ := hrel
    match k, hk, hh with
    | j + 1, hk, hh =>
      have hcell := hc j (by omega)
      rw [pred_cast]
      go_wp2
      go_round
      case rel => exact ⟨j, _, by omega, rfl, rfl, LastIndex.hashrev_step sep (j + 1) (by omega) hk hh.out⟩
      case measure => simp [RowKit.intOf]
    | 0, hk, hh =>
      go_wp2
      go_loop [6, 7, 8] (fun vp vq vi => ∃ (i : Nat) (pw sq : Int), vi = .int .i64 i ∧ vp = .int .u32 pw ∧ vq = .int .u32 sq ∧ 0 ≤ pw ∧ pw < 4294967296 ∧ i ≤ sep.size ∧ Hid (RK.PowInv sep.size i pw sq)) (fun _ _ vi => (RowKit.intOf vi).toNat)
      case atStart => exact ⟨sep.size, 1, 16777619, rfl, rfl, rfl, by omega, by omega, Nat.le_refl _, RK.pow_start _⟩
      case round =>
        obtain ⟨i, pw, sq, rfl, rfl, rfl, p0, p1, hi, hinv⟩ := hrel
        have ea := and_one i (by omega)
        go_wp2
        · have ht : ((i : Int) % 2 != 0) = true := by assumption
          have ho : i % 2 = 1 := by simp at ht; omega
          go_round
          case rel => exact ⟨i / 2, _, _, by first | go_num | (congr 1; omega), rfl, rfl, by omega, by omega, by omega, RK.pow_odd hinv.out ho⟩
          case measure => simp [RowKit.intOf]; omega
        · have ht : ((i : Int) % 2 != 0) = false := by assumption
          have he : i % 2 = 0 := by simp at ht; omega
          go_round
          case rel => exact ⟨i / 2, _, _, by first | go_num | (congr 1; omega), rfl, rfl, p0, p1, by omega, RK.pow_even hinv.out he⟩
          case measure => simp [RowKit.intOf]; omega
        · have hi0 : i = 0 := by omega
          subst hi0
          have e1 : h = RK.H sep.data.toList.reverse % 4294967296 := by
            have := hh.out
            rwa [List.drop_zero] at this
          have e2 := RK.pow_end hinv.out p0 p1
          go_ret2
          rw [← e1, ← e2]
          exact ⟨rfl, rfl⟩

/-- s[j:j+n] and its bytes -/
theorem slice_win (w : World) (b o len c j n : Nat) (hn : 0 < n) (h : j + n ≤ c) : (Instr.slice 22 (.slice (some ⟨b, o, none⟩) len c) (some (.int .i64 (j : Int))) (some (.int .i64 ((j : Int) + (n : Int)))) none).run Ybad.prog w = .ok (.slice (some ⟨b, o + j, none⟩) n (c - j)) w := by
  have := Lib.run_slice_window (P := Ybad.prog) w 22 5 Ybad.underlying22 size5 b o len c j (j + n) (by omega) h
  rw [show ((j + n : Nat) : Int) = (j : Int) + (n : Int) by omega, show j + n - j = n by omega] at this
  exact this

set_option maxHeartbeats 16000000 in
/-- LastIndexRabinKarp -/
theorem lirk_any (b o c b2 o2 c2 : Nat) (s sep : ByteArray) (h1 : 1 ≤ sep.size) (h2 : sep.size ≤ s.size) (hsc : s.size ≤ c) (hcm : s.size < 4611686018427387904) (w : World) (hc : Lib.Bytes w b o s) (hc2 : Lib.Bytes w b2 o2 sep) :
    Calls Ybad.prog 21 #[.slice (some ⟨b, o, none⟩) s.size c, .slice (some ⟨b2, o2, none⟩) sep.size c2] w fun e w' => e = .returned (.int .i64 (Lib.lastIndex s.data.toList sep.data.toList)) ∧ ∃ q, w' = w.drewN q := by
  obtain ⟨hh, Hh⟩ : ∃ hh : Int, hh = RK.H sep.data.toList.reverse % 4294967296 := ⟨_, rfl⟩
  obtain ⟨pw, Hp⟩ : ∃ pw : Int, pw = 16777619 ^ sep.size % 4294967296 := ⟨_, rfl⟩
  have hcall := hashrev_any b2 o2 c2 sep (by omega) w hc2
  rw [← Hh, ← Hp] at hcall
  have HC := hid hcall
  have HH := hid Hh
  have HP := hid Hp
  clear Hh Hp hcall
  obtain ⟨last, hlast⟩ : ∃ last : Nat, last + sep.size = s.size := ⟨s.size - sep.size, by omega⟩
  have elast : (s.size : Int) - sep.size = last := by omega
  have HL : Hid (Lib.lastIndex s.data.toList sep.data.toList = Lib.lastOcc s.data.toList sep.data.toList (last + 1)) := by
    show _ = _
    unfold Lib.lastIndex
    rw [if_pos (by simp; omega)]
    congr 1
    simp; omega
  have Hlast := hid hlast
  have hl1 : (last : Int) < (s.size : Int) := by omega
  clear hlast
  have g2 : ∀ n, (convert 22 9 (.slice (some ⟨b2, o2, none⟩) sep.size c2)).run Ybad.prog (w.drewN n) = .ok (.string sep) (w.drewN n) := fun n => run_convert_whole _ 22 5 9 Ybad.underlying22 Ybad.underlying5 Ybad.underlying9 b2 o2 sep (hc2.drewN n) c2
  go_enter Ybad.func21, Ybad.ntmps21
  go_wp2_with fail
  refine HC.out.mono ?_
  rintro e w' ⟨rfl, rfl⟩
  go_wp2_with fail
  go_loop [9, 10] (fun vh vi => ∃ (k : Nat) (h : Int), last ≤ k ∧ k ≤ s.size ∧ vi = .int .i64 ((k : Int) - 1) ∧ vh = .int .u32 h ∧ Hid (h = RK.H (s.data.toList.drop k).reverse % 4294967296)) (fun _ vi => ((RowKit.intOf vi) + 1).toNat)
  case atStart => exact ⟨s.size, 0, by omega, Nat.le_refl _, rfl, rfl, by show (0 : Int) = _; rw [List.drop_of_length_le (by simp)]; rfl⟩
  case round =>
    obtain ⟨k, h, hk1, hk, rfl, rfl, hk2⟩ := hrel
    by_cases hkl : last < k
    · obtain ⟨j, rfl⟩ : ∃ j, k = j + 1 := ⟨k - 1, by omega⟩
      have hcell := hc j (by omega)
      have hjl : (last : Int) ≤ (j : Int) := by omega
      rw [pred_cast]
      go_wp2_with fail
      go_round
      case rel => exact ⟨j, _, by omega, by omega, rfl, rfl, LastIndex.hashrev_step s (j + 1) (by omega) hk hk2.out⟩
      case measure => simp [RowKit.intOf]
    · obtain rfl : k = last := by omega
      have hwin : Hid (h = RK.H (RK.win s.data.toList k sep.size).reverse % 4294967296) := by
        have := hk2.out
        rwa [show s.data.toList.drop k = RK.win s.data.toList k sep.size from (List.take_of_length_le (by have := Hlast.out; simp; omega)).symm] at this
      clear hk2
      have hsl : ∀ w, (Instr.slice 22 (.slice (some ⟨b, o, none⟩) s.size c) (some (.int .i64 (k : Int))) none none).run Ybad.prog w = .ok (.slice (some ⟨b, o + k, none⟩) sep.size (c - k)) w := fun w => by
        have hl := Hlast.out
        rw [slice_tail w _ s.size c k (by omega), show s.size - k = sep.size by omega]
        have hne : ¬ c = k := by omega
        by_cases h0 : k = 0
        · subst h0; simp [tailA, Addr.add, hne]
        · simp [tailA, Addr.add, hne, h0]
      have g1 : ∀ n, (convert 22 9 (.slice (some ⟨b, o + k, none⟩) sep.size (c - k))).run Ybad.prog (w.drewN n) = .ok (.string (s.extract k (k + sep.size))) (w.drewN n) := fun n =>
        run_convert_window _ 22 5 9 Ybad.underlying22 Ybad.underlying5 Ybad.underlying9 b o s (hc.drewN n) k sep.size _ (by have := Hlast.out; omega)
      have hks : k + sep.size ≤ s.size := by have := Hlast.out; omega
      have Hno : Hid (occAt s.data.toList sep.data.toList k = false → Lib.lastIndex s.data.toList sep.data.toList = Lib.lastOcc s.data.toList sep.data.toList k) := fun hno => HL.out.trans (Lib.lastOcc_miss _ _ k hno)
      have hkn : ¬ (k : Int) ≤ (k : Int) - 1 := by omega
      by_cases hyes : h = hh ∧ ((s.extract k (k + sep.size)).toList == sep.toList) = true
      · obtain ⟨rfl, hcmp⟩ := hyes
        have ho := occ_yes s sep k hks hcmp
        have Hr : Hid (Lib.lastIndex s.data.toList sep.data.toList = k) := HL.out.trans (Lib.lastOcc_hit _ _ k ho)
        clear ho
        go_wp2_with fail
        go_quiet (fail)
        go_wp2_with fail
        go_ret
        exact ⟨ret_int Hr.out.symm, _, rfl⟩
      · by_cases hhe : (h == hh) = true
        case' pos =>
          have hcmp : ((s.extract k (k + sep.size)).toList == sep.toList) = false := by
            rw [Bool.eq_false_iff]; intro e; exact hyes ⟨eq_of_beq hhe, e⟩
          have HL2 : Hid (Lib.lastIndex s.data.toList sep.data.toList = Lib.lastOcc s.data.toList sep.data.toList k) := Hno.out (occ_no s sep k hks hcmp)
          have hhx := (eq_of_beq hhe).symm
          clear hhe hyes
          subst hhx
          go_wp2_with fail
          go_quiet (fail)
          go_wp2_with fail
        case' neg =>
          have hhf : (h == hh) = false := by simpa using hhe
          have HL2 : Hid (Lib.lastIndex s.data.toList sep.data.toList = Lib.lastOcc s.data.toList sep.data.toList k) := Hno.out (LastIndex.occ_no_hashrev s sep k hks hwin.out HH.out (fun e => hhe (by rw [e]; exact beq_self_eq_true _)))
          clear hhe hyes
          go_wp2_with fail
          go_quiet (fail)
          go_wp2_with fail
        all_goals
          clear hsl g1 Hno
          go_loopw [9, 11] (fun vh vi wr => ∃ (j : Nat) (g : Int) (q : Nat), j ≤ k ∧ vi = .int .i64 ((j : Int) - 1) ∧ vh = .int .u32 g ∧ wr = w.drewN q ∧ Hid (g = RK.H (RK.win s.data.toList j sep.size).reverse % 4294967296) ∧ Hid (Lib.lastIndex s.data.toList sep.data.toList = Lib.lastOcc s.data.toList sep.data.toList j)) (fun _ vi _ => ((RowKit.intOf vi) + 1).toNat)
          case atStart => exact ⟨k, _, _, Nat.le_refl _, rfl, rfl, rfl, hwin, HL2⟩
          case round =>
            clear hwin HL2
            obtain ⟨j, g, q, hj, rfl, rfl, rfl, hg, hl⟩ := hrel
            match j, hj, hg, hl with
            | 0, hj, hg, hl =>
              go_wp2_with fail
              go_ret
              exact ⟨ret_int (by rw [hl.out]; rfl), _, rfl⟩
            | i + 1, hj, hg, hl =>
              have hci := hc i (by omega)
              have hcn := hc (i + sep.size) (by omega)
              have hroll := LastIndex.rollrev_step s sep.size i h1 (by omega) hg.out HP.out
              rw [← roll_form] at hroll
              have hwn : ∀ n, (convert 22 9 (.slice (some ⟨b, o + i, none⟩) sep.size (c - i))).run Ybad.prog (w.drewN n) = .ok (.string (s.extract i (i + sep.size))) (w.drewN n) := fun n =>
                run_convert_window _ 22 5 9 Ybad.underlying22 Ybad.underlying5 Ybad.underlying9 b o s (hc.drewN n) i sep.size _ (by omega)
              have hsl := fun w => slice_win w b o s.size c i sep.size h1 (by omega)
              have HR := hid hroll
              have Hocc : Hid (occAt s.data.toList sep.data.toList i = false → Lib.lastIndex s.data.toList sep.data.toList = Lib.lastOcc s.data.toList sep.data.toList i) := fun hno => hl.out.trans (Lib.lastOcc_miss _ _ i hno)
              have Hyes : Hid (occAt s.data.toList sep.data.toList i = true → Lib.lastIndex s.data.toList sep.data.toList = i) := fun ho => hl.out.trans (Lib.lastOcc_hit _ _ i ho)
              clear hroll hl
              rw [pred_cast]
              go_wp2_with fail
              obtain ⟨G, hG⟩ : ∃ G : Int, ((g * 16777619 + (s[i].toNat : Int)) % 4294967296 - pw * ((s[i + sep.size].toNat : Int) % 4294967296) % 4294967296) % 4294967296 = G := ⟨_, rfl⟩
              rw [hG]
              have HG : Hid (G = RK.H (RK.win s.data.toList i sep.size).reverse % 4294967296) := hG.symm.trans HR.out
              clear hG HR
              by_cases hyes : G = hh ∧ ((s.extract i (i + sep.size)).toList == sep.toList) = true
              · obtain ⟨rfl, hcmp⟩ := hyes
                have Hr := hid (Hyes.out (occ_yes s sep i (by omega) hcmp))
                go_quiet (fail)
                go_wp2_with fail
                go_ret
                exact ⟨ret_int Hr.out.symm, q + nq, by simp⟩
              · by_cases hhe : (G == hh) = true
                · have hcmp : ((s.extract i (i + sep.size)).toList == sep.toList) = false := by
                    rw [Bool.eq_false_iff]; intro e; exact hyes ⟨eq_of_beq hhe, e⟩
                  have Hr := hid (Hocc.out (occ_no s sep i (by omega) hcmp))
                  obtain rfl := eq_of_beq hhe
                  clear hhe hyes
                  go_quiet (fail)
                  go_wp2_with fail
                  go_roundw
                  case rel => exact ⟨i, _, _, by omega, rfl, rfl, rfl, HG, Hr⟩
                  case measure => simp [RowKit.intOf]
                · have hhf : (G == hh) = false := by simpa using hhe
                  have Hr := hid (Hocc.out (LastIndex.occ_no_hashrev s sep i (by omega) HG.out HH.out (fun e => hhe (by rw [e]; exact beq_self_eq_true _))))
                  clear hhe hyes
                  go_quiet (fail)
                  go_wp2_with fail
                  go_roundw
                  case rel => exact ⟨i, _, _, by omega, rfl, rfl, rfl, HG, Hr⟩
                  case measure => simp [RowKit.intOf]

theorem lastIndex_short (l m : List UInt8) (h : l.length < m.length) : Lib.lastIndex l m = -1 := by
  unfold Lib.lastIndex; rw [if_neg (by omega)]
theorem lastIndex_same (s p : ByteArray) (h : s.size = p.size) : Lib.lastIndex s.data.toList p.data.toList = if (s.toList == p.toList) = true then 0 else -1 := by
  have h1 : s.data.toList.length = s.size := by simp
  have h2 : p.data.toList.length = p.size := by simp
  unfold Lib.lastIndex
  rw [if_pos (by omega), show s.data.toList.length - p.data.toList.length + 1 = 0 + 1 by omega]
  have e : occAt s.data.toList p.data.toList 0 = (s.toList == p.toList) := by
    rw [RK.occAt_win _ _ _ (by omega), RK.win_zero, List.take_of_length_le (by omega), ByteArray.toList_eq, ByteArray.toList_eq]
  cases hc : (s.toList == p.toList)
  · rw [Lib.lastOcc_miss _ _ _ (e.trans hc)]; rfl
  · rw [Lib.lastOcc_hit _ _ _ (e.trans hc)]; rfl

set_option maxHeartbeats 1000000 in
/-- bytes.LastIndex, sep of two bytes or more -/
theorem lastIndex_any (a : Option Addr) (n c b2 o2 c2 m : Nat) (s sep : ByteArray) (hn : s.size = n) (hm : sep.size = m) (h1 : 2 ≤ m) (hsc : n ≤ c) (hcm : n < 4611686018427387904) (w : World) (hc : Seg w a s) (hc2 : Lib.Bytes w b2 o2 sep) :
    Calls Ybad.prog 17 #[.slice a n c, .slice (some ⟨b2, o2, none⟩) m c2] w fun e w' => e = .returned (.int .i64 (Lib.lastIndex s.data.toList sep.data.toList)) ∧ ∃ q, w' = w.drewN q := by
  have hs2 : Seg w (some ⟨b2, o2, none⟩) sep := fun _ => ⟨b2, o2, rfl, hc2⟩
  have e0 : ((m : Int) == 0) = false := beq_eq_false_iff_ne.2 (by omega)
  have e1 : ((m : Int) == 1) = false := beq_eq_false_iff_ne.2 (by omega)
  by_cases hlt : (n : Int) < (m : Int)
  · have e2 : ((m : Int) == (n : Int)) = false := beq_eq_false_iff_ne.2 (by omega)
    go_enter Ybad.func17, Ybad.ntmps17
    go_wp2_with fail
    go_ret
    exact ⟨ret_int (lastIndex_short _ _ (by simp; omega)).symm, 0, rfl⟩
  · by_cases heq : m = n
    · subst heq
      have hl := lastIndex_same s sep (by omega)
      have HLs := hid hl
      clear hl
      go_enter Ybad.func17, Ybad.ntmps17
      go_wp2_with fail
      refine (equal_any _ _ s sep _ _ _ _ hn hm _ hc hs2).mono ?_
      rintro e w' ⟨rfl, rfl⟩
      cases hb : (s.toList == sep.toList)
      · go_wp2_with fail
        go_ret
        exact ⟨ret_int (by rw [HLs.out, hb]; rfl), 0, rfl⟩
      · go_wp2_with fail
        go_ret
        exact ⟨ret_int (by rw [HLs.out, hb]; rfl), 0, rfl⟩
    · have e2 : ((m : Int) == (n : Int)) = false := beq_eq_false_iff_ne.2 (by omega)
      obtain ⟨b, o, rfl, hcb⟩ := hc (by omega)
      subst hn hm
      have HC := hid (lirk_any b o c b2 o2 c2 s sep (by omega) (by omega) hsc hcm w hcb hc2)
      go_enter Ybad.func17, Ybad.ntmps17
      go_wp2_with fail
      refine HC.out.mono ?_
      rintro e w' ⟨rfl, q, rfl⟩
      go_wp2_with fail
      go_ret
      exact ⟨rfl, q, rfl⟩

/-- among the places below k: the last at which the byte x stands, or -1 -/
def lastAt (l : List UInt8) (x : UInt8) : Nat → Int
  | 0 => -1
  | k + 1 => if l[k]? = some x then (k : Int) else lastAt l x k

theorem byte_beq {x y : UInt8} : ((x.toNat : Int) == (y.toNat : Int)) = decide (x = y) := by
  rw [Bool.eq_iff_iff]
  simp
  constructor
  · intro h; exact UInt8.toNat_inj.1 (by omega)
  · intro h; rw [h]

set_option maxHeartbeats 1000000 in
/-- internal/bytealg.LastIndexByte -/
theorem lib_any (a : Option Addr) (c : Nat) (s : ByteArray) (x : UInt8) (hs : s.size < 4611686018427387904) (w : World) (hc : Seg w a s) :
    Calls Ybad.prog 20 #[.slice a s.size c, .int .u8 (x.toNat : Int)] w fun e w' => e = .returned (.int .i64 (lastAt s.data.toList x s.size)) ∧ w = w' := by
  go_enter Ybad.func20, Ybad.ntmps20
  go_wp2
  go_loop [5] (fun vi => ∃ k : Nat, k ≤ s.size ∧ vi = .int .i64 ((k : Int) - 1) ∧ Hid (lastAt s.data.toList x s.size = lastAt s.data.toList x k)) (fun vi => ((RowKit.intOf vi) + 1).toNat)
  case atStart => exact ⟨s.size, Nat.le_refl _, rfl, rfl⟩
  case round =>
    obtain ⟨k, hk, rfl, hh⟩ := hrel
    match k, hk, hh with
    | 0, hk, hh =>
      go_wp2
      go_ret
      exact ⟨ret_int hh.out.symm, rfl⟩
    | j + 1, hk, hh =>
      obtain ⟨b, o, rfl, hcb⟩ := hc (by omega)
      have hcj := hcb j (by omega)
      have hg := Go.Proofs.byte_at s j (by omega)
      rw [pred_cast]
      by_cases he : s[j] = x
      · have hb : ((s[j].toNat : Int) == (x.toNat : Int)) = true := by rw [byte_beq]; simpa using he
        have Hr : Hid (lastAt s.data.toList x s.size = j) := hh.out.trans (by unfold lastAt; rw [if_pos (by rw [hg, he])])
        clear he hg
        go_wp2
        go_ret
        exact ⟨ret_int Hr.out.symm, rfl⟩
      · have hb : ((s[j].toNat : Int) == (x.toNat : Int)) = false := by rw [byte_beq]; simpa using he
        have Hr : Hid (lastAt s.data.toList x s.size = lastAt s.data.toList x j) := hh.out.trans (by
          show lastAt s.data.toList x (j + 1) = _
          rw [lastAt, if_neg (by rw [hg]; simpa using he)])
        clear he hg
        go_wp2
        go_round
        case rel => exact ⟨j, by omega, rfl, Hr⟩
        case measure => simp [RowKit.intOf]

set_option maxHeartbeats 1000000 in
/-- bytes.LastIndexByte -/
theorem lastIndexByte_any (a : Option Addr) (c : Nat) (s : ByteArray) (x : UInt8) (hs : s.size < 4611686018427387904) (w : World) (hc : Seg w a s) :
    Calls Ybad.prog 18 #[.slice a s.size c, .int .u8 (x.toNat : Int)] w fun e w' => e = .returned (.int .i64 (lastAt s.data.toList x s.size)) ∧ w = w' := by
  have HC := hid (lib_any a c s x hs w hc)
  go_enter Ybad.func18, Ybad.ntmps18
  go_wp2_with fail
  refine HC.out.mono ?_
  rintro e w' ⟨rfl, rfl⟩
  go_wp2_with fail
  go_ret
  exact ⟨rfl, rfl⟩
end Go.Proofs.YbulkcswiDoor
