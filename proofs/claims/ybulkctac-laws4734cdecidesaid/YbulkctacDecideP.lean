/-
  LawS4734CDecide with a pending install.
-/
import Derived.Test.YbulkctacPend
namespace Go.Proofs.Ybulkctac
open Go.RowKit
open Go.Maps (Keyed)
set_option linter.unusedVariables false
set_option linter.unusedSimpArgs false
/-- a remainder of two ints, as one operation -/
def remV (x y : Value) : Sem Next := do pure (.value (← binOp .rem 3 x y))
theorem ex_rem (ρ : Operand → Value) (dst : Option Tmp) (x y : Operand) (ty t2 : TypeId) (pos : String) (after : Array Edge) (guard : Option (Nat × Bool)) : execOp ρ { dst, op := .binOp .rem 3 x y t2, type := ty, pos, after, guard } = remV (ρ x) (ρ y) := rfl
theorem run_rem (w : World) (a b j : Nat) (hb : 0 < b) (hj : a % b = j) : (remV (.int .i64 (a : Int)) (.int .i64 (b : Int))).run Yba.prog w = .ok (.value (.int .i64 (j : Int))) w := by
  subst hj
  have h0 : ¬ (b : Int) = 0 := by omega
  have h1 : (a : Int).tmod (b : Int) = ((a % b : Nat) : Int) := by rw [Int.tmod_eq_emod_of_nonneg (by omega)]; simp
  simp only [remV, binOp_rem, Op.intDiv, if_neg h0, h1]
  simp

attribute [local go_sem ↓ high] ex_rem ex_loadMsg ex_buildMsg ex_buildMem ex_boxMem ex_buildPend ex_boxPend ex_allocMsg ex_storeMsg
attribute [local go_sem high] run_loadMsg run_buildMsg run_buildMem run_boxMem run_buildPend run_boxPend run_allocMsg run_storeMsg

theorem info67 : (Yba.prog.info? 67).map (·.size) = some 39 := by kernel_rfl
theorem ne64_same (w : World) (a : Addr) : (binOp .neq 64 (.pointer (some a)) (.pointer (some a))).run Yba.prog w = .ok (.bool false) w := by
  obtain ⟨j, hte, _⟩ := Option.map_eq_some_iff.1 info67
  have h : ∀ d : Nat, (Op.equalIn (d + 1) 64 (.pointer (some a)) (.pointer (some a))).run Yba.prog w = .ok true w := fun d => by
    simp [Op.equalIn, run_underlying Yba.underlying64, sizeOf, typeInfo, hte, run_sameAddr_same]
  simp only [binOp]
  simp [Op.equal, Op.maxDepth, h 9999]

/-- the world at the call of deferLocked, the member's block named -/
def tailV (W : World) (g : Nat) (bl : Bool) (pp : Value) (f : ByteArray) (s : Int) : World := ((W.alloc (.cells (memC bl pp (g + 1)) 139)).alloc (.map #[] 0)).alloc (.cells (msgA f s 0) 49)

theorem tail_factsV (W : World) (g : Nat) (hg : W.heap.size = g) (bl : Bool) (pp : Value) (f : ByteArray) (s : Int) : (IsMsgC (tailV W g bl pp f s) (.pointer (some ⟨g + 1 + 1, 0, none⟩)) ∧ rowC (tailV W g bl pp f s) (.pointer (some ⟨g + 1 + 1, 0, none⟩)) = msgA f s 0) ∧ MemAt (tailV W g bl pp f s) g (g + 1) (memC bl pp (g + 1)) bl pp ∧ Gr W (tailV W g bl pp f s) (fun _ => False) := by
  subst hg
  exact tail_facts W bl pp f s

set_option maxHeartbeats 4000000 in
set_option maxRecDepth 100000 in
theorem pend_nk0_free (ak av : Option Addr) (bk ok bv ov nk ck nv cv : Nat) (ks : Nat → ByteArray) (vs : Nat → Int) (sel : Nat) (f p : ByteArray) (s : Int) (w : World) (hsel : sel < 256)
    (hka : 0 < nk → ak = some ⟨bk, ok, none⟩) (hva : 0 < nv → av = some ⟨bv, ov, none⟩) (hkc : ∀ i, i < nk → w.cell? ⟨bk, ok + i, none⟩ = some (.string (ks i))) (hvc : ∀ i, i < nv → w.cell? ⟨bv, ov + i, none⟩ = some (.int .u64 (vs i)))
    (hks : ∀ i, i < nk → (ks i).size ≤ maxLen) (hvw : ∀ i, i < nv → (Lit.int .u64 (vs i)).wf = true) (hf : f.size ≤ maxLen) (hp : p.size ≤ maxLen) (hs : (Lit.int .u64 s).wf = true) (h1 : ¬ (1024 : Int) < (nk : Int)) (h2 : ¬ (1024 : Int) < (nv : Int))
    (hw : nk = 0) :
    Calls Yba.prog 4 #[.bool false, .bool true, .slice ak nk ck, .slice av nv cv, .int .u8 sel, .string f, .int .u64 s, .string p] w fun e w' => e = .returned (.bool true) ∧ Below w.heap.size w w' := by
  have hmm := @run_makeMap Yba.prog
  go_enter Yba.func4, Yba.ntmps4
  go_wp2_with fail
  go_loopw [19] (fun v19 wr => ∃ i : Nat, i ≤ min nk nv ∧ v19 = .int .i64 i ∧ LatP wr w.heap.size i ks vs ∧ Below w.heap.size w wr) (fun v19 _ => min nk nv - (RowKit.intOf v19).toNat)
  case atStart => exact ⟨0, Nat.zero_le _, rfl, LatP.made w ks vs, (Below.refl _ _).alloc (Nat.le_refl _) _⟩
  case round =>
    obtain ⟨i, hi, rfl, hlat, hbel⟩ := hrel
    by_cases hin : i < nk ∧ i < nv
    · obtain ⟨hik, hiv⟩ := hin
      exact absurd hik (by omega)
    · have hm : min nk nv = i := by omega
      have e1 := mem116
      have e2 := mem123
      have e3 := mem195
      have n64 := ne64_same
      have hbs := hid hbel.size
      have hz : ¬ (0 : Int) < (nk : Int) := by omega
      have sW : (wr.alloc (.cells (pendA w.heap.size) 67)).heap.size = wr.heap.size + 1 := by simp
      have hpd := heap_alloc_new wr (.cells (pendA w.heap.size) 67)
      have hlW := hlat.of_block (w' := wr.alloc (.cells (pendA w.heap.size) 67)) (Below.heap_alloc wr _ _ hlat.lt)
      have bW : Below w.heap.size w (wr.alloc (.cells (pendA w.heap.size) 67)) := hbel.alloc hbel.size _
      obtain ⟨⟨i9, r9⟩, hm9, g9⟩ := tail_factsV (wr.alloc (.cells (pendA w.heap.size) 67)) (wr.heap.size + 1) sW false (.pointer (some ⟨wr.heap.size, 0, none⟩)) f s
      have hP9 := (hlW.of_block (g9.block _ hlW.lt (fun h => h))).pend (grSame g9 hpd (fun h => h)) hf
      have CD := hid (defer_free _ _ _ (some ⟨wr.heap.size, 0, none⟩) p f s _ hm9)
      have HM := hid hm9
      have HG := hid g9
      have HBW := hid bW
      unfold tailV memC at i9 r9
      have hik : ¬ (i : Int) < (nk : Int) := by omega
      all_goals
        clear hpd hlW bW hm9 hP9 g9 hlat hbel
        go_wp2_with fail
        refine CD.out.mono ?_
        rintro e w9 ⟨rfl, hd⟩
        have hd : Gr (tailV (wr.alloc (.cells (pendA w.heap.size) 67)) (wr.heap.size + 1) false (.pointer (some ⟨wr.heap.size, 0, none⟩)) f s) w9 (fun _ => False) := hd
        have hm2 := HM.out.gr hd
        have c1 := (cell_is hm2.m hm2.copies).1
        have c2 := (cell_is hm2.m hm2.keys).1
        have c3 := (cell_is hm2.m hm2.peers).1
        have c4 := (cell_is hm2.m hm2.blocked).1
        have c5 := (cell_is hm2.m hm2.pending).1
        have lk := keys_len hm2.map
        have HB := hid ((HG.out.trans hd).below HBW.out (by simp; have := hbs.out; omega) (fun k h => by
          rcases h with h | h <;> exact h.elim))
        clear hm2
        clear hd CD HM HG i9 r9 e1 e2 e3 hmm
        go_wp2_with fail
        go_ret
        exact ⟨by simp, HB.out⟩

set_option maxHeartbeats 4000000 in
set_option maxRecDepth 100000 in
theorem pend_nk0_take (ak av : Option Addr) (bk ok bv ov nk ck nv cv : Nat) (ks : Nat → ByteArray) (vs : Nat → Int) (sel : Nat) (f p : ByteArray) (s : Int) (w : World) (hsel : sel < 256)
    (hka : 0 < nk → ak = some ⟨bk, ok, none⟩) (hva : 0 < nv → av = some ⟨bv, ov, none⟩) (hkc : ∀ i, i < nk → w.cell? ⟨bk, ok + i, none⟩ = some (.string (ks i))) (hvc : ∀ i, i < nv → w.cell? ⟨bv, ov + i, none⟩ = some (.int .u64 (vs i)))
    (hks : ∀ i, i < nk → (ks i).size ≤ maxLen) (hvw : ∀ i, i < nv → (Lit.int .u64 (vs i)).wf = true) (hf : f.size ≤ maxLen) (hp : p.size ≤ maxLen) (hs : (Lit.int .u64 s).wf = true) (h1 : ¬ (1024 : Int) < (nk : Int)) (h2 : ¬ (1024 : Int) < (nv : Int))
    (hw : nk = 0) (hlt : latestF ks vs f (min nk nv) < s) :
    Calls Yba.prog 4 #[.bool true, .bool true, .slice ak nk ck, .slice av nv cv, .int .u8 sel, .string f, .int .u64 s, .string p] w fun e w' => e = .returned (.bool true) ∧ Below w.heap.size w w' := by
  have hmm := @run_makeMap Yba.prog
  go_enter Yba.func4, Yba.ntmps4
  go_wp2_with fail
  go_loopw [19] (fun v19 wr => ∃ i : Nat, i ≤ min nk nv ∧ v19 = .int .i64 i ∧ LatP wr w.heap.size i ks vs ∧ Below w.heap.size w wr) (fun v19 _ => min nk nv - (RowKit.intOf v19).toNat)
  case atStart => exact ⟨0, Nat.zero_le _, rfl, LatP.made w ks vs, (Below.refl _ _).alloc (Nat.le_refl _) _⟩
  case round =>
    obtain ⟨i, hi, rfl, hlat, hbel⟩ := hrel
    by_cases hin : i < nk ∧ i < nv
    · obtain ⟨hik, hiv⟩ := hin
      exact absurd hik (by omega)
    · have hm : min nk nv = i := by omega
      rw [hm] at hlt
      have e1 := mem116
      have e2 := mem123
      have e3 := mem195
      have n64 := ne64_same
      have hbs := hid hbel.size
      have hz : ¬ (0 : Int) < (nk : Int) := by omega
      obtain ⟨kl, hkk⟩ : ∃ kl, keyOf Yba.prog 59 (.agg (keyV p f s 0)) = some kl := ⟨_, key59 p f s 0 hp hf hs (by decide)⟩
      have hdl : decide (latestF ks vs f i < s) = true := decide_eq_true hlt
      have sW : (wr.alloc (.cells (pendA w.heap.size) 67)).heap.size = wr.heap.size + 1 := by simp
      have hpd := heap_alloc_new wr (.cells (pendA w.heap.size) 67)
      have hlW := hlat.of_block (w' := wr.alloc (.cells (pendA w.heap.size) 67)) (Below.heap_alloc wr _ _ hlat.lt)
      have bW : Below w.heap.size w (wr.alloc (.cells (pendA w.heap.size) 67)) := hbel.alloc hbel.size _
      obtain ⟨⟨i9, r9⟩, hm9, g9⟩ := tail_factsV (wr.alloc (.cells (pendA w.heap.size) 67)) (wr.heap.size + 1) sW true (.pointer (some ⟨wr.heap.size, 0, none⟩)) f s
      have hP9 := (hlW.of_block (g9.block _ hlW.lt (fun h => h))).pend (grSame g9 hpd (fun h => h)) hf
      have CD := hid (defer_take _ _ wr.heap.size w.heap.size _ p f s _ _ kl hm9 hP9 hlt hkk)
      have HM := hid hm9
      have HG := hid g9
      have HBW := hid bW
      unfold tailV memC at i9 r9
      have hik : ¬ (i : Int) < (nk : Int) := by omega
      all_goals
        clear hpd hlW bW hm9 hP9 g9 hlat hbel
        go_wp2_with fail
        refine CD.out.mono ?_
        rintro e w9 ⟨rfl, hd⟩
        have hd : AddPost (tailV (wr.alloc (.cells (pendA w.heap.size) 67)) (wr.heap.size + 1) true (.pointer (some ⟨wr.heap.size, 0, none⟩)) f s) w9 _ _ _ := hd
        obtain ⟨c4, c5⟩ := add_facts HM.out hd
        have HB := hid ((HG.out.trans hd.1).below HBW.out (by simp; have := hbs.out; omega) (fun k h => by
          rcases h with h | h | h
          · exact h.elim
          · have := hbs.out; omega
          · have := hbs.out; omega))
        have CL := hid (latest_any ak av bk ok bv ov nk nv ck cv ks vs f w9 hka hva (fun i hi => cell_later HB.out (hkc i hi)) (fun i hi => cell_later HB.out (hvc i hi)) (by omega) (by omega))
        rw [hm, hw] at CL
        clear hd CD HM HG i9 r9 e1 e2 e3 hmm
        go_wp2_with (go_at_call 10; refine CL.out.mono ?_; rintro e w10 ⟨rfl, rfl⟩)
        go_ret
        exact ⟨by simp, HB.out⟩

set_option maxHeartbeats 4000000 in
set_option maxRecDepth 100000 in
theorem pend_nk0_refuse (ak av : Option Addr) (bk ok bv ov nk ck nv cv : Nat) (ks : Nat → ByteArray) (vs : Nat → Int) (sel : Nat) (f p : ByteArray) (s : Int) (w : World) (hsel : sel < 256)
    (hka : 0 < nk → ak = some ⟨bk, ok, none⟩) (hva : 0 < nv → av = some ⟨bv, ov, none⟩) (hkc : ∀ i, i < nk → w.cell? ⟨bk, ok + i, none⟩ = some (.string (ks i))) (hvc : ∀ i, i < nv → w.cell? ⟨bv, ov + i, none⟩ = some (.int .u64 (vs i)))
    (hks : ∀ i, i < nk → (ks i).size ≤ maxLen) (hvw : ∀ i, i < nv → (Lit.int .u64 (vs i)).wf = true) (hf : f.size ≤ maxLen) (hp : p.size ≤ maxLen) (hs : (Lit.int .u64 s).wf = true) (h1 : ¬ (1024 : Int) < (nk : Int)) (h2 : ¬ (1024 : Int) < (nv : Int))
    (hw : nk = 0) (hlt : ¬ latestF ks vs f (min nk nv) < s) :
    Calls Yba.prog 4 #[.bool true, .bool true, .slice ak nk ck, .slice av nv cv, .int .u8 sel, .string f, .int .u64 s, .string p] w fun e w' => e = .returned (.bool true) ∧ Below w.heap.size w w' := by
  have hmm := @run_makeMap Yba.prog
  go_enter Yba.func4, Yba.ntmps4
  go_wp2_with fail
  go_loopw [19] (fun v19 wr => ∃ i : Nat, i ≤ min nk nv ∧ v19 = .int .i64 i ∧ LatP wr w.heap.size i ks vs ∧ Below w.heap.size w wr) (fun v19 _ => min nk nv - (RowKit.intOf v19).toNat)
  case atStart => exact ⟨0, Nat.zero_le _, rfl, LatP.made w ks vs, (Below.refl _ _).alloc (Nat.le_refl _) _⟩
  case round =>
    obtain ⟨i, hi, rfl, hlat, hbel⟩ := hrel
    by_cases hin : i < nk ∧ i < nv
    · obtain ⟨hik, hiv⟩ := hin
      exact absurd hik (by omega)
    · have hm : min nk nv = i := by omega
      rw [hm] at hlt
      have hlt : ¬ latestF ks vs f i < s := by omega
      have e1 := mem116
      have e2 := mem123
      have e3 := mem195
      have n64 := ne64_same
      have hbs := hid hbel.size
      have hz : ¬ (0 : Int) < (nk : Int) := by omega
      have hdl : decide (latestF ks vs f i < s) = false := decide_eq_false hlt
      have sW : (wr.alloc (.cells (pendA w.heap.size) 67)).heap.size = wr.heap.size + 1 := by simp
      have hpd := heap_alloc_new wr (.cells (pendA w.heap.size) 67)
      have hlW := hlat.of_block (w' := wr.alloc (.cells (pendA w.heap.size) 67)) (Below.heap_alloc wr _ _ hlat.lt)
      have bW : Below w.heap.size w (wr.alloc (.cells (pendA w.heap.size) 67)) := hbel.alloc hbel.size _
      obtain ⟨⟨i9, r9⟩, hm9, g9⟩ := tail_factsV (wr.alloc (.cells (pendA w.heap.size) 67)) (wr.heap.size + 1) sW true (.pointer (some ⟨wr.heap.size, 0, none⟩)) f s
      have hP9 := (hlW.of_block (g9.block _ hlW.lt (fun h => h))).pend (grSame g9 hpd (fun h => h)) hf
      have CD := hid (defer_refuse _ _ wr.heap.size w.heap.size _ p f s _ _ hm9 hP9 hlt)
      have HM := hid hm9
      have HG := hid g9
      have HBW := hid bW
      unfold tailV memC at i9 r9
      have hik : ¬ (i : Int) < (nk : Int) := by omega
      all_goals
        clear hpd hlW bW hm9 hP9 g9 hlat hbel
        go_wp2_with fail
        refine CD.out.mono ?_
        rintro e w9 ⟨rfl, hd⟩
        have hd : Gr (tailV (wr.alloc (.cells (pendA w.heap.size) 67)) (wr.heap.size + 1) true (.pointer (some ⟨wr.heap.size, 0, none⟩)) f s) w9 (fun _ => False) := hd
        have hm2 := HM.out.gr hd
        have c1 := (cell_is hm2.m hm2.copies).1
        have c2 := (cell_is hm2.m hm2.keys).1
        have c3 := (cell_is hm2.m hm2.peers).1
        have c4 := (cell_is hm2.m hm2.blocked).1
        have c5 := (cell_is hm2.m hm2.pending).1
        have lk := keys_len hm2.map
        have HB := hid ((HG.out.trans hd).below HBW.out (by simp; have := hbs.out; omega) (fun k h => by
          rcases h with h | h <;> exact h.elim))
        clear hm2
        have CL := hid (latest_any ak av bk ok bv ov nk nv ck cv ks vs f w9 hka hva (fun i hi => cell_later HB.out (hkc i hi)) (fun i hi => cell_later HB.out (hvc i hi)) (by omega) (by omega))
        rw [hm, hw] at CL
        clear hd CD HM HG i9 r9 e1 e2 e3 hmm
        go_wp2_with (go_at_call 10; refine CL.out.mono ?_; rintro e w10 ⟨rfl, rfl⟩)
        go_ret
        exact ⟨by simp, HB.out⟩

set_option maxHeartbeats 4000000 in
set_option maxRecDepth 100000 in
theorem pend_odd_free (ak av : Option Addr) (bk ok bv ov nk ck nv cv : Nat) (ks : Nat → ByteArray) (vs : Nat → Int) (sel : Nat) (f p : ByteArray) (s : Int) (w : World) (hsel : sel < 256)
    (hka : 0 < nk → ak = some ⟨bk, ok, none⟩) (hva : 0 < nv → av = some ⟨bv, ov, none⟩) (hkc : ∀ i, i < nk → w.cell? ⟨bk, ok + i, none⟩ = some (.string (ks i))) (hvc : ∀ i, i < nv → w.cell? ⟨bv, ov + i, none⟩ = some (.int .u64 (vs i)))
    (hks : ∀ i, i < nk → (ks i).size ≤ maxLen) (hvw : ∀ i, i < nv → (Lit.int .u64 (vs i)).wf = true) (hf : f.size ≤ maxLen) (hp : p.size ≤ maxLen) (hs : (Lit.int .u64 s).wf = true) (h1 : ¬ (1024 : Int) < (nk : Int)) (h2 : ¬ (1024 : Int) < (nv : Int))
    (hw : 0 < nk) (ho : sel % 2 = 1) :
    Calls Yba.prog 4 #[.bool false, .bool true, .slice ak nk ck, .slice av nv cv, .int .u8 sel, .string f, .int .u64 s, .string p] w fun e w' => e = .returned (.bool true) ∧ Below w.heap.size w w' := by
  have hmm := @run_makeMap Yba.prog
  go_enter Yba.func4, Yba.ntmps4
  go_wp2_with fail
  go_loopw [19] (fun v19 wr => ∃ i : Nat, i ≤ min nk nv ∧ v19 = .int .i64 i ∧ LatP wr w.heap.size i ks vs ∧ Below w.heap.size w wr) (fun v19 _ => min nk nv - (RowKit.intOf v19).toNat)
  case atStart => exact ⟨0, Nat.zero_le _, rfl, LatP.made w ks vs, (Below.refl _ _).alloc (Nat.le_refl _) _⟩
  case round =>
    obtain ⟨i, hi, rfl, hlat, hbel⟩ := hrel
    by_cases hin : i < nk ∧ i < nv
    · obtain ⟨hik, hiv⟩ := hin
      obtain rfl := hka (by omega)
      obtain rfl := hva (by omega)
      have l1 : (i : Int) < (nk : Int) := by omega
      have l2 : (i : Int) < (nv : Int) := by omega
      have c1 : wr.cell? ⟨bk, ok + i, none⟩ = some (.string (ks i)) := cell_later hbel (hkc i hik)
      have c2 : wr.cell? ⟨bv, ov + i, none⟩ = some (.int .u64 (vs i)) := cell_later hbel (hvc i hiv)
      obtain ⟨w2, hrun, hlat2, hg2⟩ := (hlat.of_block (w' := wr.drew) rfl).store (by omega) (hks i hik) (hvw i hiv)
      have hbel2 : Below w.heap.size w w2 := ((gr_drew' wr).trans (gr_grown hg2)).below hbel hbel.size (fun k hk => by
        rcases hk with hk | hk
        · exact hk.elim
        · have : k = w.heap.size := by simpa using hk
          omega)
      have d1 : w2.cell? ⟨bk, ok + i, none⟩ = some (.string (ks i)) := cell_later hbel2 (hkc i hik)
      have d2 : w2.cell? ⟨bv, ov + i, none⟩ = some (.int .u64 (vs i)) := cell_later hbel2 (hvc i hiv)
      have H2 := hid hlat2
      have HB2 := hid hbel2
      clear hlat hlat2 hbel2 hbel hg2
      as_aux_lemma =>
        go_wp2_with fail
        go_region_held3 (fun w' => w'.cell? ⟨bk, ok + i, none⟩ = some (.string (ks i)) ∧ w'.cell? ⟨bv, ov + i, none⟩ = some (.int .u64 (vs i))) (go_keep) (fail)
        go_wp2_with fail
        go_roundw
        case rel => exact ⟨i + 1, by omega, by go_num, H2.out, HB2.out⟩
        case measure => simp [RowKit.intOf]; omega
    · have hm : min nk nv = i := by omega
      have e1 := mem116
      have e2 := mem123
      have e3 := mem195
      have n64 := ne64_same
      have hbs := hid hbel.size
      have hz : (0 : Int) < (nk : Int) := by omega
      have ho1 : (((sel : Int) % 2) == 0) = false := by
        rw [beq_eq_false_iff_ne]; omega
      have ho2 : (((sel : Int).tmod 2) == 0) = false := by
        rw [Int.tmod_eq_emod_of_nonneg (by omega)]; exact ho1
      obtain rfl := hka hw
      have sW : (wr.alloc (.cells (pendA w.heap.size) 67)).heap.size = wr.heap.size + 1 := by simp
      have hpd := heap_alloc_new wr (.cells (pendA w.heap.size) 67)
      have hlW := hlat.of_block (w' := wr.alloc (.cells (pendA w.heap.size) 67)) (Below.heap_alloc wr _ _ hlat.lt)
      have bW : Below w.heap.size w (wr.alloc (.cells (pendA w.heap.size) 67)) := hbel.alloc hbel.size _
      obtain ⟨⟨i9, r9⟩, hm9, g9⟩ := tail_factsV (wr.alloc (.cells (pendA w.heap.size) 67)) (wr.heap.size + 1) sW false (.pointer (some ⟨wr.heap.size, 0, none⟩)) f s
      have hP9 := (hlW.of_block (g9.block _ hlW.lt (fun h => h))).pend (grSame g9 hpd (fun h => h)) hf
      have CD := hid (defer_free _ _ _ (some ⟨wr.heap.size, 0, none⟩) p f s _ hm9)
      have HM := hid hm9
      have HG := hid g9
      have HBW := hid bW
      unfold tailV memC at i9 r9
      by_cases hik : (i : Int) < (nk : Int)
      case' pos => have hiv : ¬ (i : Int) < (nv : Int) := by omega
      all_goals
        clear hpd hlW bW hm9 hP9 g9 hlat hbel
        go_wp2_with fail
        refine CD.out.mono ?_
        rintro e w9 ⟨rfl, hd⟩
        have hd : Gr (tailV (wr.alloc (.cells (pendA w.heap.size) 67)) (wr.heap.size + 1) false (.pointer (some ⟨wr.heap.size, 0, none⟩)) f s) w9 (fun _ => False) := hd
        have hm2 := HM.out.gr hd
        have c1 := (cell_is hm2.m hm2.copies).1
        have c2 := (cell_is hm2.m hm2.keys).1
        have c3 := (cell_is hm2.m hm2.peers).1
        have c4 := (cell_is hm2.m hm2.blocked).1
        have c5 := (cell_is hm2.m hm2.pending).1
        have lk := keys_len hm2.map
        have HB := hid ((HG.out.trans hd).below HBW.out (by simp; have := hbs.out; omega) (fun k h => by
          rcases h with h | h <;> exact h.elim))
        clear hm2
        clear hd CD HM HG i9 r9 e1 e2 e3 hmm
        go_wp2_with fail
        go_ret
        exact ⟨by simp, HB.out⟩

set_option maxHeartbeats 4000000 in
set_option maxRecDepth 100000 in
theorem pend_odd_take (ak av : Option Addr) (bk ok bv ov nk ck nv cv : Nat) (ks : Nat → ByteArray) (vs : Nat → Int) (sel : Nat) (f p : ByteArray) (s : Int) (w : World) (hsel : sel < 256)
    (hka : 0 < nk → ak = some ⟨bk, ok, none⟩) (hva : 0 < nv → av = some ⟨bv, ov, none⟩) (hkc : ∀ i, i < nk → w.cell? ⟨bk, ok + i, none⟩ = some (.string (ks i))) (hvc : ∀ i, i < nv → w.cell? ⟨bv, ov + i, none⟩ = some (.int .u64 (vs i)))
    (hks : ∀ i, i < nk → (ks i).size ≤ maxLen) (hvw : ∀ i, i < nv → (Lit.int .u64 (vs i)).wf = true) (hf : f.size ≤ maxLen) (hp : p.size ≤ maxLen) (hs : (Lit.int .u64 s).wf = true) (h1 : ¬ (1024 : Int) < (nk : Int)) (h2 : ¬ (1024 : Int) < (nv : Int))
    (hw : 0 < nk) (ho : sel % 2 = 1) (hlt : latestF ks vs f (min nk nv) < s) :
    Calls Yba.prog 4 #[.bool true, .bool true, .slice ak nk ck, .slice av nv cv, .int .u8 sel, .string f, .int .u64 s, .string p] w fun e w' => e = .returned (.bool true) ∧ Below w.heap.size w w' := by
  have hmm := @run_makeMap Yba.prog
  go_enter Yba.func4, Yba.ntmps4
  go_wp2_with fail
  go_loopw [19] (fun v19 wr => ∃ i : Nat, i ≤ min nk nv ∧ v19 = .int .i64 i ∧ LatP wr w.heap.size i ks vs ∧ Below w.heap.size w wr) (fun v19 _ => min nk nv - (RowKit.intOf v19).toNat)
  case atStart => exact ⟨0, Nat.zero_le _, rfl, LatP.made w ks vs, (Below.refl _ _).alloc (Nat.le_refl _) _⟩
  case round =>
    obtain ⟨i, hi, rfl, hlat, hbel⟩ := hrel
    by_cases hin : i < nk ∧ i < nv
    · obtain ⟨hik, hiv⟩ := hin
      obtain rfl := hka (by omega)
      obtain rfl := hva (by omega)
      have l1 : (i : Int) < (nk : Int) := by omega
      have l2 : (i : Int) < (nv : Int) := by omega
      have c1 : wr.cell? ⟨bk, ok + i, none⟩ = some (.string (ks i)) := cell_later hbel (hkc i hik)
      have c2 : wr.cell? ⟨bv, ov + i, none⟩ = some (.int .u64 (vs i)) := cell_later hbel (hvc i hiv)
      obtain ⟨w2, hrun, hlat2, hg2⟩ := (hlat.of_block (w' := wr.drew) rfl).store (by omega) (hks i hik) (hvw i hiv)
      have hbel2 : Below w.heap.size w w2 := ((gr_drew' wr).trans (gr_grown hg2)).below hbel hbel.size (fun k hk => by
        rcases hk with hk | hk
        · exact hk.elim
        · have : k = w.heap.size := by simpa using hk
          omega)
      have d1 : w2.cell? ⟨bk, ok + i, none⟩ = some (.string (ks i)) := cell_later hbel2 (hkc i hik)
      have d2 : w2.cell? ⟨bv, ov + i, none⟩ = some (.int .u64 (vs i)) := cell_later hbel2 (hvc i hiv)
      have H2 := hid hlat2
      have HB2 := hid hbel2
      clear hlat hlat2 hbel2 hbel hg2
      as_aux_lemma =>
        go_wp2_with fail
        go_region_held3 (fun w' => w'.cell? ⟨bk, ok + i, none⟩ = some (.string (ks i)) ∧ w'.cell? ⟨bv, ov + i, none⟩ = some (.int .u64 (vs i))) (go_keep) (fail)
        go_wp2_with fail
        go_roundw
        case rel => exact ⟨i + 1, by omega, by go_num, H2.out, HB2.out⟩
        case measure => simp [RowKit.intOf]; omega
    · have hm : min nk nv = i := by omega
      rw [hm] at hlt
      have e1 := mem116
      have e2 := mem123
      have e3 := mem195
      have n64 := ne64_same
      have hbs := hid hbel.size
      have hz : (0 : Int) < (nk : Int) := by omega
      have ho1 : (((sel : Int) % 2) == 0) = false := by
        rw [beq_eq_false_iff_ne]; omega
      have ho2 : (((sel : Int).tmod 2) == 0) = false := by
        rw [Int.tmod_eq_emod_of_nonneg (by omega)]; exact ho1
      obtain rfl := hka hw
      obtain ⟨kl, hkk⟩ : ∃ kl, keyOf Yba.prog 59 (.agg (keyV p f s 0)) = some kl := ⟨_, key59 p f s 0 hp hf hs (by decide)⟩
      have hdl : decide (latestF ks vs f i < s) = true := decide_eq_true hlt
      have sW : (wr.alloc (.cells (pendA w.heap.size) 67)).heap.size = wr.heap.size + 1 := by simp
      have hpd := heap_alloc_new wr (.cells (pendA w.heap.size) 67)
      have hlW := hlat.of_block (w' := wr.alloc (.cells (pendA w.heap.size) 67)) (Below.heap_alloc wr _ _ hlat.lt)
      have bW : Below w.heap.size w (wr.alloc (.cells (pendA w.heap.size) 67)) := hbel.alloc hbel.size _
      obtain ⟨⟨i9, r9⟩, hm9, g9⟩ := tail_factsV (wr.alloc (.cells (pendA w.heap.size) 67)) (wr.heap.size + 1) sW true (.pointer (some ⟨wr.heap.size, 0, none⟩)) f s
      have hP9 := (hlW.of_block (g9.block _ hlW.lt (fun h => h))).pend (grSame g9 hpd (fun h => h)) hf
      have CD := hid (defer_take _ _ wr.heap.size w.heap.size _ p f s _ _ kl hm9 hP9 hlt hkk)
      have HM := hid hm9
      have HG := hid g9
      have HBW := hid bW
      unfold tailV memC at i9 r9
      by_cases hik : (i : Int) < (nk : Int)
      case' pos => have hiv : ¬ (i : Int) < (nv : Int) := by omega
      all_goals
        clear hpd hlW bW hm9 hP9 g9 hlat hbel
        go_wp2_with fail
        refine CD.out.mono ?_
        rintro e w9 ⟨rfl, hd⟩
        have hd : AddPost (tailV (wr.alloc (.cells (pendA w.heap.size) 67)) (wr.heap.size + 1) true (.pointer (some ⟨wr.heap.size, 0, none⟩)) f s) w9 _ _ _ := hd
        obtain ⟨c4, c5⟩ := add_facts HM.out hd
        have HB := hid ((HG.out.trans hd.1).below HBW.out (by simp; have := hbs.out; omega) (fun k h => by
          rcases h with h | h | h
          · exact h.elim
          · have := hbs.out; omega
          · have := hbs.out; omega))
        have CL := hid (latest_any (some ⟨bk, ok, none⟩) av bk ok bv ov nk nv ck cv ks vs f w9 (fun _ => rfl) hva (fun i hi => cell_later HB.out (hkc i hi)) (fun i hi => cell_later HB.out (hvc i hi)) (by omega) (by omega))
        rw [hm] at CL
        clear hd CD HM HG i9 r9 e1 e2 e3 hmm
        go_wp2_with (go_at_call 10; refine CL.out.mono ?_; rintro e w10 ⟨rfl, rfl⟩)
        go_ret
        exact ⟨by simp, HB.out⟩

set_option maxHeartbeats 4000000 in
set_option maxRecDepth 100000 in
theorem pend_odd_refuse (ak av : Option Addr) (bk ok bv ov nk ck nv cv : Nat) (ks : Nat → ByteArray) (vs : Nat → Int) (sel : Nat) (f p : ByteArray) (s : Int) (w : World) (hsel : sel < 256)
    (hka : 0 < nk → ak = some ⟨bk, ok, none⟩) (hva : 0 < nv → av = some ⟨bv, ov, none⟩) (hkc : ∀ i, i < nk → w.cell? ⟨bk, ok + i, none⟩ = some (.string (ks i))) (hvc : ∀ i, i < nv → w.cell? ⟨bv, ov + i, none⟩ = some (.int .u64 (vs i)))
    (hks : ∀ i, i < nk → (ks i).size ≤ maxLen) (hvw : ∀ i, i < nv → (Lit.int .u64 (vs i)).wf = true) (hf : f.size ≤ maxLen) (hp : p.size ≤ maxLen) (hs : (Lit.int .u64 s).wf = true) (h1 : ¬ (1024 : Int) < (nk : Int)) (h2 : ¬ (1024 : Int) < (nv : Int))
    (hw : 0 < nk) (ho : sel % 2 = 1) (hlt : ¬ latestF ks vs f (min nk nv) < s) :
    Calls Yba.prog 4 #[.bool true, .bool true, .slice ak nk ck, .slice av nv cv, .int .u8 sel, .string f, .int .u64 s, .string p] w fun e w' => e = .returned (.bool true) ∧ Below w.heap.size w w' := by
  have hmm := @run_makeMap Yba.prog
  go_enter Yba.func4, Yba.ntmps4
  go_wp2_with fail
  go_loopw [19] (fun v19 wr => ∃ i : Nat, i ≤ min nk nv ∧ v19 = .int .i64 i ∧ LatP wr w.heap.size i ks vs ∧ Below w.heap.size w wr) (fun v19 _ => min nk nv - (RowKit.intOf v19).toNat)
  case atStart => exact ⟨0, Nat.zero_le _, rfl, LatP.made w ks vs, (Below.refl _ _).alloc (Nat.le_refl _) _⟩
  case round =>
    obtain ⟨i, hi, rfl, hlat, hbel⟩ := hrel
    by_cases hin : i < nk ∧ i < nv
    · obtain ⟨hik, hiv⟩ := hin
      obtain rfl := hka (by omega)
      obtain rfl := hva (by omega)
      have l1 : (i : Int) < (nk : Int) := by omega
      have l2 : (i : Int) < (nv : Int) := by omega
      have c1 : wr.cell? ⟨bk, ok + i, none⟩ = some (.string (ks i)) := cell_later hbel (hkc i hik)
      have c2 : wr.cell? ⟨bv, ov + i, none⟩ = some (.int .u64 (vs i)) := cell_later hbel (hvc i hiv)
      obtain ⟨w2, hrun, hlat2, hg2⟩ := (hlat.of_block (w' := wr.drew) rfl).store (by omega) (hks i hik) (hvw i hiv)
      have hbel2 : Below w.heap.size w w2 := ((gr_drew' wr).trans (gr_grown hg2)).below hbel hbel.size (fun k hk => by
        rcases hk with hk | hk
        · exact hk.elim
        · have : k = w.heap.size := by simpa using hk
          omega)
      have d1 : w2.cell? ⟨bk, ok + i, none⟩ = some (.string (ks i)) := cell_later hbel2 (hkc i hik)
      have d2 : w2.cell? ⟨bv, ov + i, none⟩ = some (.int .u64 (vs i)) := cell_later hbel2 (hvc i hiv)
      have H2 := hid hlat2
      have HB2 := hid hbel2
      clear hlat hlat2 hbel2 hbel hg2
      as_aux_lemma =>
        go_wp2_with fail
        go_region_held3 (fun w' => w'.cell? ⟨bk, ok + i, none⟩ = some (.string (ks i)) ∧ w'.cell? ⟨bv, ov + i, none⟩ = some (.int .u64 (vs i))) (go_keep) (fail)
        go_wp2_with fail
        go_roundw
        case rel => exact ⟨i + 1, by omega, by go_num, H2.out, HB2.out⟩
        case measure => simp [RowKit.intOf]; omega
    · have hm : min nk nv = i := by omega
      rw [hm] at hlt
      have hlt : ¬ latestF ks vs f i < s := by omega
      have e1 := mem116
      have e2 := mem123
      have e3 := mem195
      have n64 := ne64_same
      have hbs := hid hbel.size
      have hz : (0 : Int) < (nk : Int) := by omega
      have ho1 : (((sel : Int) % 2) == 0) = false := by
        rw [beq_eq_false_iff_ne]; omega
      have ho2 : (((sel : Int).tmod 2) == 0) = false := by
        rw [Int.tmod_eq_emod_of_nonneg (by omega)]; exact ho1
      obtain rfl := hka hw
      have hdl : decide (latestF ks vs f i < s) = false := decide_eq_false hlt
      have sW : (wr.alloc (.cells (pendA w.heap.size) 67)).heap.size = wr.heap.size + 1 := by simp
      have hpd := heap_alloc_new wr (.cells (pendA w.heap.size) 67)
      have hlW := hlat.of_block (w' := wr.alloc (.cells (pendA w.heap.size) 67)) (Below.heap_alloc wr _ _ hlat.lt)
      have bW : Below w.heap.size w (wr.alloc (.cells (pendA w.heap.size) 67)) := hbel.alloc hbel.size _
      obtain ⟨⟨i9, r9⟩, hm9, g9⟩ := tail_factsV (wr.alloc (.cells (pendA w.heap.size) 67)) (wr.heap.size + 1) sW true (.pointer (some ⟨wr.heap.size, 0, none⟩)) f s
      have hP9 := (hlW.of_block (g9.block _ hlW.lt (fun h => h))).pend (grSame g9 hpd (fun h => h)) hf
      have CD := hid (defer_refuse _ _ wr.heap.size w.heap.size _ p f s _ _ hm9 hP9 hlt)
      have HM := hid hm9
      have HG := hid g9
      have HBW := hid bW
      unfold tailV memC at i9 r9
      by_cases hik : (i : Int) < (nk : Int)
      case' pos => have hiv : ¬ (i : Int) < (nv : Int) := by omega
      all_goals
        clear hpd hlW bW hm9 hP9 g9 hlat hbel
        go_wp2_with fail
        refine CD.out.mono ?_
        rintro e w9 ⟨rfl, hd⟩
        have hd : Gr (tailV (wr.alloc (.cells (pendA w.heap.size) 67)) (wr.heap.size + 1) true (.pointer (some ⟨wr.heap.size, 0, none⟩)) f s) w9 (fun _ => False) := hd
        have hm2 := HM.out.gr hd
        have c1 := (cell_is hm2.m hm2.copies).1
        have c2 := (cell_is hm2.m hm2.keys).1
        have c3 := (cell_is hm2.m hm2.peers).1
        have c4 := (cell_is hm2.m hm2.blocked).1
        have c5 := (cell_is hm2.m hm2.pending).1
        have lk := keys_len hm2.map
        have HB := hid ((HG.out.trans hd).below HBW.out (by simp; have := hbs.out; omega) (fun k h => by
          rcases h with h | h <;> exact h.elim))
        clear hm2
        have CL := hid (latest_any (some ⟨bk, ok, none⟩) av bk ok bv ov nk nv ck cv ks vs f w9 (fun _ => rfl) hva (fun i hi => cell_later HB.out (hkc i hi)) (fun i hi => cell_later HB.out (hvc i hi)) (by omega) (by omega))
        rw [hm] at CL
        clear hd CD HM HG i9 r9 e1 e2 e3 hmm
        go_wp2_with (go_at_call 10; refine CL.out.mono ?_; rintro e w10 ⟨rfl, rfl⟩)
        go_ret
        exact ⟨by simp, HB.out⟩

set_option maxHeartbeats 4000000 in
set_option maxRecDepth 100000 in
theorem pend_even_free (ak av : Option Addr) (bk ok bv ov nk ck nv cv : Nat) (ks : Nat → ByteArray) (vs : Nat → Int) (sel : Nat) (f p : ByteArray) (s : Int) (w : World) (hsel : sel < 256)
    (hka : 0 < nk → ak = some ⟨bk, ok, none⟩) (hva : 0 < nv → av = some ⟨bv, ov, none⟩) (hkc : ∀ i, i < nk → w.cell? ⟨bk, ok + i, none⟩ = some (.string (ks i))) (hvc : ∀ i, i < nv → w.cell? ⟨bv, ov + i, none⟩ = some (.int .u64 (vs i)))
    (hks : ∀ i, i < nk → (ks i).size ≤ maxLen) (hvw : ∀ i, i < nv → (Lit.int .u64 (vs i)).wf = true) (hf : f.size ≤ maxLen) (hp : p.size ≤ maxLen) (hs : (Lit.int .u64 s).wf = true) (h1 : ¬ (1024 : Int) < (nk : Int)) (h2 : ¬ (1024 : Int) < (nv : Int))
    (hw : 0 < nk) (ho : sel % 2 = 0) :
    Calls Yba.prog 4 #[.bool false, .bool true, .slice ak nk ck, .slice av nv cv, .int .u8 sel, .string f, .int .u64 s, .string p] w fun e w' => e = .returned (.bool true) ∧ Below w.heap.size w w' := by
  have hmm := @run_makeMap Yba.prog
  go_enter Yba.func4, Yba.ntmps4
  go_wp2_with fail
  go_loopw [19] (fun v19 wr => ∃ i : Nat, i ≤ min nk nv ∧ v19 = .int .i64 i ∧ LatP wr w.heap.size i ks vs ∧ Below w.heap.size w wr) (fun v19 _ => min nk nv - (RowKit.intOf v19).toNat)
  case atStart => exact ⟨0, Nat.zero_le _, rfl, LatP.made w ks vs, (Below.refl _ _).alloc (Nat.le_refl _) _⟩
  case round =>
    obtain ⟨i, hi, rfl, hlat, hbel⟩ := hrel
    by_cases hin : i < nk ∧ i < nv
    · obtain ⟨hik, hiv⟩ := hin
      obtain rfl := hka (by omega)
      obtain rfl := hva (by omega)
      have l1 : (i : Int) < (nk : Int) := by omega
      have l2 : (i : Int) < (nv : Int) := by omega
      have c1 : wr.cell? ⟨bk, ok + i, none⟩ = some (.string (ks i)) := cell_later hbel (hkc i hik)
      have c2 : wr.cell? ⟨bv, ov + i, none⟩ = some (.int .u64 (vs i)) := cell_later hbel (hvc i hiv)
      obtain ⟨w2, hrun, hlat2, hg2⟩ := (hlat.of_block (w' := wr.drew) rfl).store (by omega) (hks i hik) (hvw i hiv)
      have hbel2 : Below w.heap.size w w2 := ((gr_drew' wr).trans (gr_grown hg2)).below hbel hbel.size (fun k hk => by
        rcases hk with hk | hk
        · exact hk.elim
        · have : k = w.heap.size := by simpa using hk
          omega)
      have d1 : w2.cell? ⟨bk, ok + i, none⟩ = some (.string (ks i)) := cell_later hbel2 (hkc i hik)
      have d2 : w2.cell? ⟨bv, ov + i, none⟩ = some (.int .u64 (vs i)) := cell_later hbel2 (hvc i hiv)
      have H2 := hid hlat2
      have HB2 := hid hbel2
      clear hlat hlat2 hbel2 hbel hg2
      as_aux_lemma =>
        go_wp2_with fail
        go_region_held3 (fun w' => w'.cell? ⟨bk, ok + i, none⟩ = some (.string (ks i)) ∧ w'.cell? ⟨bv, ov + i, none⟩ = some (.int .u64 (vs i))) (go_keep) (fail)
        go_wp2_with fail
        go_roundw
        case rel => exact ⟨i + 1, by omega, by go_num, H2.out, HB2.out⟩
        case measure => simp [RowKit.intOf]; omega
    · have hm : min nk nv = i := by omega
      have e1 := mem116
      have e2 := mem123
      have e3 := mem195
      have n64 := ne64_same
      have hbs := hid hbel.size
      have hz : (0 : Int) < (nk : Int) := by omega
      have ho1 : (((sel : Int) % 2) == 0) = true := by
        rw [beq_iff_eq]; omega
      have ho2 : (((sel : Int).tmod 2) == 0) = true := by
        rw [Int.tmod_eq_emod_of_nonneg (by omega)]; exact ho1
      obtain ⟨j, hj⟩ : ∃ j, j = sel % nk := ⟨_, rfl⟩
      have hjn : j < nk := by rw [hj]; exact Nat.mod_lt _ hw
      have hji : (j : Int) < (nk : Int) := by omega
      have hrm := fun W => run_rem W sel nk j hw hj.symm
      obtain rfl := hka hw
      clear hj
      have sW : (wr.alloc (.cells (pendA w.heap.size) 67)).heap.size = wr.heap.size + 1 := by simp
      have hpd := heap_alloc_new wr (.cells (pendA w.heap.size) 67)
      have hlW := hlat.of_block (w' := wr.alloc (.cells (pendA w.heap.size) 67)) (Below.heap_alloc wr _ _ hlat.lt)
      have bW : Below w.heap.size w (wr.alloc (.cells (pendA w.heap.size) 67)) := hbel.alloc hbel.size _
      obtain ⟨⟨i9, r9⟩, hm9, g9⟩ := tail_factsV (wr.alloc (.cells (pendA w.heap.size) 67)) (wr.heap.size + 1) sW false (.pointer (some ⟨wr.heap.size, 0, none⟩)) (ks j) s
      have hP9 := (hlW.of_block (g9.block _ hlW.lt (fun h => h))).pend (grSame g9 hpd (fun h => h)) (hks j hjn)
      have CD := hid (defer_free _ _ _ (some ⟨wr.heap.size, 0, none⟩) p (ks j) s _ hm9)
      have HM := hid hm9
      have HG := hid g9
      have HBW := hid bW
      unfold tailV memC at i9 r9
      by_cases hik : (i : Int) < (nk : Int)
      case' pos => have hiv : ¬ (i : Int) < (nv : Int) := by omega
      all_goals
        have cj : (wr.alloc (.cells (pendA w.heap.size) 67)).cell? ⟨bk, ok + j, none⟩ = some (.string (ks j)) := cell_later bW (hkc j hjn)
        clear hpd hlW bW hm9 hP9 g9 hlat hbel
        go_wp2_with fail
        refine CD.out.mono ?_
        rintro e w9 ⟨rfl, hd⟩
        have hd : Gr (tailV (wr.alloc (.cells (pendA w.heap.size) 67)) (wr.heap.size + 1) false (.pointer (some ⟨wr.heap.size, 0, none⟩)) (ks j) s) w9 (fun _ => False) := hd
        have hm2 := HM.out.gr hd
        have c1 := (cell_is hm2.m hm2.copies).1
        have c2 := (cell_is hm2.m hm2.keys).1
        have c3 := (cell_is hm2.m hm2.peers).1
        have c4 := (cell_is hm2.m hm2.blocked).1
        have c5 := (cell_is hm2.m hm2.pending).1
        have lk := keys_len hm2.map
        have HB := hid ((HG.out.trans hd).below HBW.out (by simp; have := hbs.out; omega) (fun k h => by
          rcases h with h | h <;> exact h.elim))
        clear hm2
        clear hd CD HM HG i9 r9 e1 e2 e3 hmm
        go_wp2_with fail
        go_ret
        exact ⟨by simp, HB.out⟩

set_option maxHeartbeats 4000000 in
set_option maxRecDepth 100000 in
theorem pend_even_take (ak av : Option Addr) (bk ok bv ov nk ck nv cv : Nat) (ks : Nat → ByteArray) (vs : Nat → Int) (sel : Nat) (f p : ByteArray) (s : Int) (w : World) (hsel : sel < 256)
    (hka : 0 < nk → ak = some ⟨bk, ok, none⟩) (hva : 0 < nv → av = some ⟨bv, ov, none⟩) (hkc : ∀ i, i < nk → w.cell? ⟨bk, ok + i, none⟩ = some (.string (ks i))) (hvc : ∀ i, i < nv → w.cell? ⟨bv, ov + i, none⟩ = some (.int .u64 (vs i)))
    (hks : ∀ i, i < nk → (ks i).size ≤ maxLen) (hvw : ∀ i, i < nv → (Lit.int .u64 (vs i)).wf = true) (hf : f.size ≤ maxLen) (hp : p.size ≤ maxLen) (hs : (Lit.int .u64 s).wf = true) (h1 : ¬ (1024 : Int) < (nk : Int)) (h2 : ¬ (1024 : Int) < (nv : Int))
    (hw : 0 < nk) (ho : sel % 2 = 0) (hlt : latestF ks vs (ks (sel % nk)) (min nk nv) < s) :
    Calls Yba.prog 4 #[.bool true, .bool true, .slice ak nk ck, .slice av nv cv, .int .u8 sel, .string f, .int .u64 s, .string p] w fun e w' => e = .returned (.bool true) ∧ Below w.heap.size w w' := by
  have hmm := @run_makeMap Yba.prog
  go_enter Yba.func4, Yba.ntmps4
  go_wp2_with fail
  go_loopw [19] (fun v19 wr => ∃ i : Nat, i ≤ min nk nv ∧ v19 = .int .i64 i ∧ LatP wr w.heap.size i ks vs ∧ Below w.heap.size w wr) (fun v19 _ => min nk nv - (RowKit.intOf v19).toNat)
  case atStart => exact ⟨0, Nat.zero_le _, rfl, LatP.made w ks vs, (Below.refl _ _).alloc (Nat.le_refl _) _⟩
  case round =>
    obtain ⟨i, hi, rfl, hlat, hbel⟩ := hrel
    by_cases hin : i < nk ∧ i < nv
    · obtain ⟨hik, hiv⟩ := hin
      obtain rfl := hka (by omega)
      obtain rfl := hva (by omega)
      have l1 : (i : Int) < (nk : Int) := by omega
      have l2 : (i : Int) < (nv : Int) := by omega
      have c1 : wr.cell? ⟨bk, ok + i, none⟩ = some (.string (ks i)) := cell_later hbel (hkc i hik)
      have c2 : wr.cell? ⟨bv, ov + i, none⟩ = some (.int .u64 (vs i)) := cell_later hbel (hvc i hiv)
      obtain ⟨w2, hrun, hlat2, hg2⟩ := (hlat.of_block (w' := wr.drew) rfl).store (by omega) (hks i hik) (hvw i hiv)
      have hbel2 : Below w.heap.size w w2 := ((gr_drew' wr).trans (gr_grown hg2)).below hbel hbel.size (fun k hk => by
        rcases hk with hk | hk
        · exact hk.elim
        · have : k = w.heap.size := by simpa using hk
          omega)
      have d1 : w2.cell? ⟨bk, ok + i, none⟩ = some (.string (ks i)) := cell_later hbel2 (hkc i hik)
      have d2 : w2.cell? ⟨bv, ov + i, none⟩ = some (.int .u64 (vs i)) := cell_later hbel2 (hvc i hiv)
      have H2 := hid hlat2
      have HB2 := hid hbel2
      clear hlat hlat2 hbel2 hbel hg2
      as_aux_lemma =>
        go_wp2_with fail
        go_region_held3 (fun w' => w'.cell? ⟨bk, ok + i, none⟩ = some (.string (ks i)) ∧ w'.cell? ⟨bv, ov + i, none⟩ = some (.int .u64 (vs i))) (go_keep) (fail)
        go_wp2_with fail
        go_roundw
        case rel => exact ⟨i + 1, by omega, by go_num, H2.out, HB2.out⟩
        case measure => simp [RowKit.intOf]; omega
    · have hm : min nk nv = i := by omega
      rw [hm] at hlt
      have e1 := mem116
      have e2 := mem123
      have e3 := mem195
      have n64 := ne64_same
      have hbs := hid hbel.size
      have hz : (0 : Int) < (nk : Int) := by omega
      have ho1 : (((sel : Int) % 2) == 0) = true := by
        rw [beq_iff_eq]; omega
      have ho2 : (((sel : Int).tmod 2) == 0) = true := by
        rw [Int.tmod_eq_emod_of_nonneg (by omega)]; exact ho1
      obtain ⟨j, hj⟩ : ∃ j, j = sel % nk := ⟨_, rfl⟩
      have hjn : j < nk := by rw [hj]; exact Nat.mod_lt _ hw
      have hji : (j : Int) < (nk : Int) := by omega
      have hrm := fun W => run_rem W sel nk j hw hj.symm
      obtain rfl := hka hw
      rw [← hj] at hlt
      clear hj
      obtain ⟨kl, hkk⟩ : ∃ kl, keyOf Yba.prog 59 (.agg (keyV p (ks j) s 0)) = some kl := ⟨_, key59 p (ks j) s 0 hp (hks j hjn) hs (by decide)⟩
      have hdl : decide (latestF ks vs (ks j) i < s) = true := decide_eq_true hlt
      have sW : (wr.alloc (.cells (pendA w.heap.size) 67)).heap.size = wr.heap.size + 1 := by simp
      have hpd := heap_alloc_new wr (.cells (pendA w.heap.size) 67)
      have hlW := hlat.of_block (w' := wr.alloc (.cells (pendA w.heap.size) 67)) (Below.heap_alloc wr _ _ hlat.lt)
      have bW : Below w.heap.size w (wr.alloc (.cells (pendA w.heap.size) 67)) := hbel.alloc hbel.size _
      obtain ⟨⟨i9, r9⟩, hm9, g9⟩ := tail_factsV (wr.alloc (.cells (pendA w.heap.size) 67)) (wr.heap.size + 1) sW true (.pointer (some ⟨wr.heap.size, 0, none⟩)) (ks j) s
      have hP9 := (hlW.of_block (g9.block _ hlW.lt (fun h => h))).pend (grSame g9 hpd (fun h => h)) (hks j hjn)
      have CD := hid (defer_take _ _ wr.heap.size w.heap.size _ p (ks j) s _ _ kl hm9 hP9 hlt hkk)
      have HM := hid hm9
      have HG := hid g9
      have HBW := hid bW
      unfold tailV memC at i9 r9
      by_cases hik : (i : Int) < (nk : Int)
      case' pos => have hiv : ¬ (i : Int) < (nv : Int) := by omega
      all_goals
        have cj : (wr.alloc (.cells (pendA w.heap.size) 67)).cell? ⟨bk, ok + j, none⟩ = some (.string (ks j)) := cell_later bW (hkc j hjn)
        clear hpd hlW bW hm9 hP9 g9 hlat hbel
        go_wp2_with fail
        refine CD.out.mono ?_
        rintro e w9 ⟨rfl, hd⟩
        have hd : AddPost (tailV (wr.alloc (.cells (pendA w.heap.size) 67)) (wr.heap.size + 1) true (.pointer (some ⟨wr.heap.size, 0, none⟩)) (ks j) s) w9 _ _ _ := hd
        obtain ⟨c4, c5⟩ := add_facts HM.out hd
        have HB := hid ((HG.out.trans hd.1).below HBW.out (by simp; have := hbs.out; omega) (fun k h => by
          rcases h with h | h | h
          · exact h.elim
          · have := hbs.out; omega
          · have := hbs.out; omega))
        have CL := hid (latest_any (some ⟨bk, ok, none⟩) av bk ok bv ov nk nv ck cv ks vs (ks j) w9 (fun _ => rfl) hva (fun i hi => cell_later HB.out (hkc i hi)) (fun i hi => cell_later HB.out (hvc i hi)) (by omega) (by omega))
        rw [hm] at CL
        clear hd CD HM HG i9 r9 e1 e2 e3 hmm
        go_wp2_with (go_at_call 10; refine CL.out.mono ?_; rintro e w10 ⟨rfl, rfl⟩)
        go_ret
        exact ⟨by simp, HB.out⟩

set_option maxHeartbeats 4000000 in
set_option maxRecDepth 100000 in
theorem pend_even_refuse (ak av : Option Addr) (bk ok bv ov nk ck nv cv : Nat) (ks : Nat → ByteArray) (vs : Nat → Int) (sel : Nat) (f p : ByteArray) (s : Int) (w : World) (hsel : sel < 256)
    (hka : 0 < nk → ak = some ⟨bk, ok, none⟩) (hva : 0 < nv → av = some ⟨bv, ov, none⟩) (hkc : ∀ i, i < nk → w.cell? ⟨bk, ok + i, none⟩ = some (.string (ks i))) (hvc : ∀ i, i < nv → w.cell? ⟨bv, ov + i, none⟩ = some (.int .u64 (vs i)))
    (hks : ∀ i, i < nk → (ks i).size ≤ maxLen) (hvw : ∀ i, i < nv → (Lit.int .u64 (vs i)).wf = true) (hf : f.size ≤ maxLen) (hp : p.size ≤ maxLen) (hs : (Lit.int .u64 s).wf = true) (h1 : ¬ (1024 : Int) < (nk : Int)) (h2 : ¬ (1024 : Int) < (nv : Int))
    (hw : 0 < nk) (ho : sel % 2 = 0) (hlt : ¬ latestF ks vs (ks (sel % nk)) (min nk nv) < s) :
    Calls Yba.prog 4 #[.bool true, .bool true, .slice ak nk ck, .slice av nv cv, .int .u8 sel, .string f, .int .u64 s, .string p] w fun e w' => e = .returned (.bool true) ∧ Below w.heap.size w w' := by
  have hmm := @run_makeMap Yba.prog
  go_enter Yba.func4, Yba.ntmps4
  go_wp2_with fail
  go_loopw [19] (fun v19 wr => ∃ i : Nat, i ≤ min nk nv ∧ v19 = .int .i64 i ∧ LatP wr w.heap.size i ks vs ∧ Below w.heap.size w wr) (fun v19 _ => min nk nv - (RowKit.intOf v19).toNat)
  case atStart => exact ⟨0, Nat.zero_le _, rfl, LatP.made w ks vs, (Below.refl _ _).alloc (Nat.le_refl _) _⟩
  case round =>
    obtain ⟨i, hi, rfl, hlat, hbel⟩ := hrel
    by_cases hin : i < nk ∧ i < nv
    · obtain ⟨hik, hiv⟩ := hin
      obtain rfl := hka (by omega)
      obtain rfl := hva (by omega)
      have l1 : (i : Int) < (nk : Int) := by omega
      have l2 : (i : Int) < (nv : Int) := by omega
      have c1 : wr.cell? ⟨bk, ok + i, none⟩ = some (.string (ks i)) := cell_later hbel (hkc i hik)
      have c2 : wr.cell? ⟨bv, ov + i, none⟩ = some (.int .u64 (vs i)) := cell_later hbel (hvc i hiv)
      obtain ⟨w2, hrun, hlat2, hg2⟩ := (hlat.of_block (w' := wr.drew) rfl).store (by omega) (hks i hik) (hvw i hiv)
      have hbel2 : Below w.heap.size w w2 := ((gr_drew' wr).trans (gr_grown hg2)).below hbel hbel.size (fun k hk => by
        rcases hk with hk | hk
        · exact hk.elim
        · have : k = w.heap.size := by simpa using hk
          omega)
      have d1 : w2.cell? ⟨bk, ok + i, none⟩ = some (.string (ks i)) := cell_later hbel2 (hkc i hik)
      have d2 : w2.cell? ⟨bv, ov + i, none⟩ = some (.int .u64 (vs i)) := cell_later hbel2 (hvc i hiv)
      have H2 := hid hlat2
      have HB2 := hid hbel2
      clear hlat hlat2 hbel2 hbel hg2
      as_aux_lemma =>
        go_wp2_with fail
        go_region_held3 (fun w' => w'.cell? ⟨bk, ok + i, none⟩ = some (.string (ks i)) ∧ w'.cell? ⟨bv, ov + i, none⟩ = some (.int .u64 (vs i))) (go_keep) (fail)
        go_wp2_with fail
        go_roundw
        case rel => exact ⟨i + 1, by omega, by go_num, H2.out, HB2.out⟩
        case measure => simp [RowKit.intOf]; omega
    · have hm : min nk nv = i := by omega
      rw [hm] at hlt
      have hlt : ¬ latestF ks vs (ks (sel % nk)) i < s := by omega
      have e1 := mem116
      have e2 := mem123
      have e3 := mem195
      have n64 := ne64_same
      have hbs := hid hbel.size
      have hz : (0 : Int) < (nk : Int) := by omega
      have ho1 : (((sel : Int) % 2) == 0) = true := by
        rw [beq_iff_eq]; omega
      have ho2 : (((sel : Int).tmod 2) == 0) = true := by
        rw [Int.tmod_eq_emod_of_nonneg (by omega)]; exact ho1
      obtain ⟨j, hj⟩ : ∃ j, j = sel % nk := ⟨_, rfl⟩
      have hjn : j < nk := by rw [hj]; exact Nat.mod_lt _ hw
      have hji : (j : Int) < (nk : Int) := by omega
      have hrm := fun W => run_rem W sel nk j hw hj.symm
      obtain rfl := hka hw
      rw [← hj] at hlt
      clear hj
      have hdl : decide (latestF ks vs (ks j) i < s) = false := decide_eq_false hlt
      have sW : (wr.alloc (.cells (pendA w.heap.size) 67)).heap.size = wr.heap.size + 1 := by simp
      have hpd := heap_alloc_new wr (.cells (pendA w.heap.size) 67)
      have hlW := hlat.of_block (w' := wr.alloc (.cells (pendA w.heap.size) 67)) (Below.heap_alloc wr _ _ hlat.lt)
      have bW : Below w.heap.size w (wr.alloc (.cells (pendA w.heap.size) 67)) := hbel.alloc hbel.size _
      obtain ⟨⟨i9, r9⟩, hm9, g9⟩ := tail_factsV (wr.alloc (.cells (pendA w.heap.size) 67)) (wr.heap.size + 1) sW true (.pointer (some ⟨wr.heap.size, 0, none⟩)) (ks j) s
      have hP9 := (hlW.of_block (g9.block _ hlW.lt (fun h => h))).pend (grSame g9 hpd (fun h => h)) (hks j hjn)
      have CD := hid (defer_refuse _ _ wr.heap.size w.heap.size _ p (ks j) s _ _ hm9 hP9 hlt)
      have HM := hid hm9
      have HG := hid g9
      have HBW := hid bW
      unfold tailV memC at i9 r9
      by_cases hik : (i : Int) < (nk : Int)
      case' pos => have hiv : ¬ (i : Int) < (nv : Int) := by omega
      all_goals
        have cj : (wr.alloc (.cells (pendA w.heap.size) 67)).cell? ⟨bk, ok + j, none⟩ = some (.string (ks j)) := cell_later bW (hkc j hjn)
        clear hpd hlW bW hm9 hP9 g9 hlat hbel
        go_wp2_with fail
        refine CD.out.mono ?_
        rintro e w9 ⟨rfl, hd⟩
        have hd : Gr (tailV (wr.alloc (.cells (pendA w.heap.size) 67)) (wr.heap.size + 1) true (.pointer (some ⟨wr.heap.size, 0, none⟩)) (ks j) s) w9 (fun _ => False) := hd
        have hm2 := HM.out.gr hd
        have c1 := (cell_is hm2.m hm2.copies).1
        have c2 := (cell_is hm2.m hm2.keys).1
        have c3 := (cell_is hm2.m hm2.peers).1
        have c4 := (cell_is hm2.m hm2.blocked).1
        have c5 := (cell_is hm2.m hm2.pending).1
        have lk := keys_len hm2.map
        have HB := hid ((HG.out.trans hd).below HBW.out (by simp; have := hbs.out; omega) (fun k h => by
          rcases h with h | h <;> exact h.elim))
        clear hm2
        have CL := hid (latest_any (some ⟨bk, ok, none⟩) av bk ok bv ov nk nv ck cv ks vs (ks j) w9 (fun _ => rfl) hva (fun i hi => cell_later HB.out (hkc i hi)) (fun i hi => cell_later HB.out (hvc i hi)) (by omega) (by omega))
        rw [hm] at CL
        clear hd CD HM HG i9 r9 e1 e2 e3 hmm
        go_wp2_with (go_at_call 10; refine CL.out.mono ?_; rintro e w10 ⟨rfl, rfl⟩)
        go_ret
        exact ⟨by simp, HB.out⟩

end Go.Proofs.Ybulkctac
