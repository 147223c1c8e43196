/-
  cut, zzs4727bmodel, zzs4727bshape: what each computes.
-/
import Derived.Test.YbulkcswiDoorPlainB
import Derived.Test.YbulkcswiDoorBind
import Derived.Lib.SlBytesConst
namespace Go.Proofs.YbulkcswiDoor
open Go.RowKit Go.Lib

theorem glob_end {w : World} (hg : Glob w 3 kEnd) : ∃ b o c, w.cell? ⟨3, 0, none⟩ = some (.slice (some ⟨b, o, none⟩) 11 c) ∧ Lib.Bytes w b o kEnd := by
  obtain ⟨a, c, h1, h2⟩ := hg
  obtain ⟨b, o, rfl, hb⟩ := h2 (by decide)
  exact ⟨b, o, c, h1, hb⟩

theorem ext_part (s : ByteArray) (f e : Nat) : (s.extract f e).data.toList = (s.data.toList.drop f).take (e - f) := extract_data s f e

/-- the conversion behind a literal, behind draws -/
theorem const1 (w : World) (q : Nat) (C : Array Value) (n c : Nat) : (convert 22 22 (.slice (some ⟨w.heap.size, 0, none⟩) n c)).run Ybad.prog ((w.drewN q).alloc (.cells C 5)) = .ok (.slice (some ⟨w.heap.size, 0, none⟩) n c) ((w.drewN q).alloc (.cells C 5 (C.size, C.size + 1))) :=
  Lib.run_convert_bytes_const (P := Ybad.prog) (w.drewN q) 22 5 C n c Ybad.underlying22 Ybad.underlying5
theorem const2 (w : World) (q : Nat) (X : Obj) (C : Array Value) (n c : Nat) : (convert 22 22 (.slice (some ⟨w.heap.size + 1, 0, none⟩) n c)).run Ybad.prog (((w.drewN q).alloc X).alloc (.cells C 5)) = .ok (.slice (some ⟨w.heap.size + 1, 0, none⟩) n c) (((w.drewN q).alloc X).alloc (.cells C 5 (C.size, C.size + 1))) := by
  have := Lib.run_convert_bytes_const (P := Ybad.prog) ((w.drewN q).alloc X) 22 5 C n c Ybad.underlying22 Ybad.underlying5
  rw [show ((w.drewN q).alloc X).heap.size = w.heap.size + 1 by simp] at this
  exact this
theorem seg_const (w : World) (l : List UInt8) (fr : Nat × Nat) : Seg (w.alloc (.cells (l.map fun x => Value.int .u8 (x.toNat : Int)).toArray 5 fr)) (some ⟨w.heap.size, 0, none⟩) ⟨l.toArray⟩ := fun _ =>
  ⟨w.heap.size, 0, rfl, fun i hi => by
    have hi' : i < l.length := by simpa [ByteArray.size] using hi
    rw [Nat.zero_add, World.cell?_alloc_mark]
    simp [hi']
    rfl⟩

theorem seg_const2 (w : World) (q : Nat) (X : Obj) (l : List UInt8) (fr : Nat × Nat) : Seg (((w.drewN q).alloc X).alloc (.cells (l.map fun x => Value.int .u8 (x.toNat : Int)).toArray 5 fr)) (some ⟨w.heap.size + 1, 0, none⟩) ⟨l.toArray⟩ := by
  have := seg_const ((w.drewN q).alloc X) l fr
  rw [show ((w.drewN q).alloc X).heap.size = w.heap.size + 1 by simp] at this
  exact this
theorem below_new1 (w : World) (q : Nat) (X : Obj) : Below w.heap.size w ((w.drewN q).alloc X) := (below_drewN (Below.refl _ _) q).alloc (by simp) _
theorem below_new2 (w : World) (q : Nat) (X Y : Obj) : Below w.heap.size w (((w.drewN q).alloc X).alloc Y) := (below_new1 w q X).alloc (by simp) _

theorem nl_call (a : Option Addr) (c : Nat) (s : ByteArray) (hs : s.size < 4611686018427387904) (w : World) (hc : Seg w a s) :
    Calls Ybad.prog 18 #[.slice a s.size c, .int .u8 10] w fun e w' => e = .returned (.int .i64 (lastAt s.data.toList 10 s.size)) ∧ w = w' := lastIndexByte_any a c s 10 hs w hc

theorem pre_nl (s : ByteArray) (k : Nat) : preB (s.extract k s.size) ⟨#[10]⟩ = decide (s.data.toList[k]? = some 10) := by
  unfold preB
  rw [extract_end]
  rcases Nat.lt_or_ge k s.data.toList.length with h | h
  · rw [List.drop_eq_getElem_cons h, List.getElem?_eq_getElem h]
    simp [List.isPrefixOf, eq_comm]
    rfl
  · rw [List.drop_eq_nil_of_le h, List.getElem?_eq_none h]
    rfl
theorem pre_crnl (s : ByteArray) (k : Nat) : preB (s.extract k s.size) ⟨#[13, 10]⟩ = decide (s.data.toList[k]? = some 13 ∧ s.data.toList[k + 1]? = some 10) := by
  unfold preB
  rw [extract_end]
  rcases Nat.lt_or_ge k s.data.toList.length with h | h
  · rw [List.drop_eq_getElem_cons h, List.getElem?_eq_getElem h]
    rcases Nat.lt_or_ge (k + 1) s.data.toList.length with h2 | h2
    · rw [List.drop_eq_getElem_cons h2, List.getElem?_eq_getElem h2]
      simp [List.isPrefixOf, eq_comm]
      rfl
    · rw [List.drop_eq_nil_of_le h2, List.getElem?_eq_none h2]
      simp [List.isPrefixOf]
  · rw [List.drop_eq_nil_of_le h, List.getElem?_eq_none h]
    simp [List.isPrefixOf]

theorem hit_pos {L : List UInt8} {p : Nat} (h0 : p = 0 ∨ L[p - 1]? = some 10) (ho : occAt L endL p = true) : hit L p = if L[p + 11]? = some 10 then some (p + 12) else if L[p + 11]? = some 13 ∧ L[p + 12]? = some 10 then some (p + 13) else none := by
  unfold hit; rw [if_pos ⟨h0, ho⟩]
theorem hit_neg {L : List UInt8} {p : Nat} (h0 : ¬ (p = 0 ∨ L[p - 1]? = some 10)) : hit L p = none := by
  unfold hit; rw [if_neg]; rintro ⟨h, _⟩; exact h0 h

set_option maxHeartbeats 2000000 in
theorem cut_any (a : Option Addr) (c : Nat) (s : ByteArray) (w : World) (hsz : s.size ≤ 1000000) (hs : s.size ≤ c) (hseg : Seg w a s) (hg : Glob w 3 kEnd) :
    Calls Ybad.prog 12 #[.slice a s.size c] w fun e w' => e = .returned (.int .i64 (cutN s.data.toList)) ∧ Below w.heap.size w w' := by
  obtain ⟨f, hf⟩ : ∃ f, f = s.size - 65536 := ⟨_, rfl⟩
  have hmax : max (0 : Int) ((s.size : Int) - 65536) = (f : Int) := by omega
  have hfs : f ≤ s.size := by omega
  have hlen : s.data.toList.length = s.size := by simp
  have Hres : Hid (cutN s.data.toList = cutOf (search s.data.toList f (s.size - 10)) (lastAt s.data.toList 10 s.size + 1)) := by
    show _ = _
    unfold cutN
    rw [hlen, ← hf]
  clear hf
  have Hlen := hid hlen
  clear hlen
  have kc := const1
  have kc2 := const2
  go_enter Ybad.func12, Ybad.ntmps12
  go_wp2_with fail
  clear hmax
  go_loopw [4] (fun v wr => ∃ e : Nat, e ≤ s.size ∧ v = .int .i64 e ∧ Below w.heap.size w wr ∧ Hid (search s.data.toList f (s.size - 10) = search s.data.toList f (e - 10)) ∧ f ≤ e) (fun v _ => (RowKit.intOf v).toNat)
  case atStart => exact ⟨s.size, Nat.le_refl _, rfl, Below.refl _ _, rfl, hfs⟩
  case round =>
    obtain ⟨e, he, rfl, hB, hse, hfe⟩ := hrel
    obtain ⟨b2, o2, c2, hgc, hgb⟩ := glob_end (hg.later hB)
    have hsg := hseg.later hB
    have hsl := fun w => slice_mid w a s.size c f e hfe (by omega)
    have hx := hsg.mid c f e he hs
    have hxs : (s.extract f e).size = e - f := by simp [ByteArray.size_extract]; omega
    obtain ⟨I, hI⟩ : ∃ I : Int, I = Lib.lastIndex ((s.data.toList.drop f).take (e - f)) endL := ⟨_, rfl⟩
    have HC : Hid (∀ n, Calls Ybad.prog 17 #[.slice (tailA a c f) (e - f) (c - f), .slice (some ⟨b2, o2, none⟩) 11 c2] (wr.drewN n) fun e w' => e = .returned (.int .i64 I) ∧ ∃ q, w' = (wr.drewN n).drewN q) := fun n => by
      have := lastIndex_any (tailA a c f) (e - f) (c - f) b2 o2 c2 11 (s.extract f e) kEnd hxs rfl (by omega) (by omega) (by omega) (wr.drewN n) (hx.drewN n) (hgb.drewN n)
      rw [ext_part, show kEnd.data.toList = endL from rfl, ← hI] at this
      exact this
    by_cases hneg : I < 0
    · have Hn : Hid (search s.data.toList f (e - 10) = none) := search_of_none _ f e (by rw [Hlen.out]; exact he) (by rw [← hI]; exact hneg)
      clear hI hx hxs
      go_wp2_with fail
      go_quiet ((go_at_call 17; exact Calls.quiet_of (HC.out _)))
      go_wp2_with fail
      refine (nl_call a c s (by omega) _ (hsg.drewN _)).mono ?_
      rintro e w' ⟨rfl, rfl⟩
      have hla : -1 ≤ lastAt s.data.toList 10 s.size ∧ lastAt s.data.toList 10 s.size ≤ 1000000 := by
        rcases lastAt_spec s.data.toList 10 s.size with h | ⟨i, hi, h, _⟩ <;> (rw [h]; omega)
      obtain ⟨hla1, hla2⟩ := hla
      go_wp2_with fail
      go_ret
      refine ⟨ret_int ?_, below_drewN hB _⟩
      rw [Hres.out, hse.out, Hn.out]
      rfl
    · obtain ⟨i, hi1, hi2, hocc, hsr⟩ := search_of_some s.data.toList f e (by rw [Hlen.out]; exact he) (by rw [← hI]; omega)
      obtain rfl : I = (i : Int) := hI.trans hi1
      clear hI hi1 hneg
      obtain ⟨P, hP⟩ : ∃ P : Nat, P = f + i := ⟨_, rfl⟩
      have hPi : (i : Int) + (f : Int) = (P : Int) := by omega
      rw [← hP] at hsr hocc hi2
      clear hP hx hxs
      have Hs : Hid (search s.data.toList f (s.size - 10) = search s.data.toList f (P + 1)) := hse.out.trans hsr
      have Hoc := hid hocc
      clear hse hsr hocc
      have hfP : f ≤ P := by omega
      have Hnext : Hid (hit s.data.toList P = none → search s.data.toList f (s.size - 10) = search s.data.toList f (P - 10)) := fun hh => Hs.out.trans (search_next _ f P (by rw [Hlen.out]; omega) Hoc.out hh)
      have Hhit : Hid (∀ r, hit s.data.toList P = some r → cutN s.data.toList = r) := fun r hr => by
        rw [Hres.out, Hs.out, search_hit _ f P r hfP hr]; rfl
      by_cases hb0 : P = 0 ∨ s.data.toList[P - 1]? = some 10
      · have hh := hit_pos hb0 Hoc.out
        have hP11 : P + 11 ≤ s.size := by omega
        have hsl2 := fun w a => slice_tail w a s.size c (P + 11) hP11
        rw [show ((P + 11 : Nat) : Int) = (P : Int) + 11 by omega] at hsl2
        have hrs : (s.extract (P + 11) s.size).size = s.size - (P + 11) := by simp [ByteArray.size_extract]
        have hrseg := hsg.mid c (P + 11) s.size (Nat.le_refl _) hs
        have HH := hid hh
        clear hh
        by_cases hP0 : P = 0
        case' pos =>
          have hj1 : ((P : Int) == 0) = true := by rw [hP0]; rfl
          clear hP0
        case' neg =>
          obtain ⟨j, hj⟩ : ∃ j, P = j + 1 := ⟨P - 1, by omega⟩
          have hb1 : ∃ h : j < s.size, ((s[j].toNat : Int) == 10) = true := by
            refine ⟨by omega, ?_⟩
            rw [show (10 : Int) = ((10 : UInt8).toNat : Int) from rfl, byte_beq]
            have := Go.Proofs.byte_at s j (by omega)
            rcases hb0 with h | h
            · omega
            · rw [hj, Nat.add_sub_cancel, this] at h
              simpa using h
          obtain ⟨hjs, hb1⟩ := hb1
          obtain ⟨b, o, rfl, hcb⟩ := hsg (by omega)
          have hcj := hcb j hjs
          have hPj : (P : Int) - 1 = (j : Int) := by omega
          have hj1 : ((P : Int) == 0) = false := beq_eq_false_iff_ne.2 (by omega)
          clear hj hP0
        all_goals
          clear hb0
          go_wp2_with fail
          go_quiet ((go_at_call 17; exact Calls.quiet_of (HC.out _)))
          go_wp2_with fail
          refine (hasPrefix_any _ _ (s.extract (P + 11) s.size) ⟨#[10]⟩ _ _ _ _ hrs rfl _ (by rw [hrs]; omega) (hrseg.later (below_new1 wr nq _)) (seg_const (wr.drewN nq) [10] (1, 2))).mono ?_
          rintro e0 w' ⟨rfl, rfl⟩
          rw [pre_nl]
          by_cases h10 : s.data.toList[P + 11]? = some 10
          · rw [decide_eq_true h10]
            have Hr := hid (Hhit.out (P + 12) (by rw [HH.out, if_pos h10]))
            clear h10
            go_wp2_with fail
            go_ret
            exact ⟨ret_int (by rw [Hr.out]; omega), hB.trans ((below_new1 wr nq _).mono hB.size)⟩
          · rw [decide_eq_false h10]
            have HH2 : Hid (hit s.data.toList P = if s.data.toList[P + 11]? = some 13 ∧ s.data.toList[P + 12]? = some 10 then some (P + 13) else none) := HH.out.trans (if_neg h10)
            clear h10
            go_wp2_with fail
            refine (hasPrefix_any _ _ (s.extract (P + 11) s.size) ⟨#[13, 10]⟩ _ _ _ _ hrs rfl _ (by rw [hrs]; omega) (hrseg.later (below_new2 wr nq _ _)) (seg_const2 wr nq _ [13, 10] (2, 3))).mono ?_
            rintro e0 w' ⟨rfl, rfl⟩
            rw [pre_crnl]
            by_cases h13 : s.data.toList[P + 11]? = some 13 ∧ s.data.toList[P + 11 + 1]? = some 10
            · rw [decide_eq_true h13]
              have Hr := hid (Hhit.out (P + 13) (by rw [HH2.out, if_pos h13]))
              clear h13
              go_wp2_with fail
              go_ret
              exact ⟨ret_int (by rw [Hr.out]; omega), hB.trans ((below_new2 wr nq _ _).mono hB.size)⟩
            · rw [decide_eq_false h13]
              have Hr := hid (Hnext.out (by rw [HH2.out, if_neg h13]))
              clear h13
              go_wp2_with fail
              go_roundw
              case rel => exact ⟨P, by omega, by go_num, hB.trans ((below_new2 wr nq _ _).mono hB.size), Hr, hfP⟩
              case measure => simp [RowKit.intOf]; omega
      · have Hr := hid (Hnext.out (hit_neg hb0))
        obtain ⟨j, rfl⟩ : ∃ j, P = j + 1 := ⟨P - 1, by omega⟩
        have hj : j < s.size := by omega
        have hb1 : ((s[j].toNat : Int) == 10) = false := by
          rw [show (10 : Int) = ((10 : UInt8).toNat : Int) from rfl, byte_beq]
          have := Go.Proofs.byte_at s j hj
          simp only [Nat.add_sub_cancel] at hb0
          rw [this] at hb0
          simpa using hb0
        clear hb0
        obtain ⟨b, o, rfl, hcb⟩ := hsg (by omega)
        have hcj := hcb j hj
        have hj1 : (((j + 1 : Nat) : Int) == 0) = false := beq_eq_false_iff_ne.2 (by omega)
        go_wp2_with fail
        go_quiet ((go_at_call 17; exact Calls.quiet_of (HC.out _)))
        go_wp2_with fail
        go_roundw
        case rel => exact ⟨j + 1, by omega, by go_num, below_drewN hB _, Hr, hfP⟩
        case measure => simp [RowKit.intOf]; omega
end Go.Proofs.YbulkcswiDoor
