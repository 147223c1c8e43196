/-
  (*resender).keep, the list made anew
-/
import Derived.Test.YbulkctacKeepFn
namespace Go.Proofs.Ybulkctac
open Go.RowKit
open Go.Maps (Keyed)
set_option linter.unusedVariables false
set_option linter.unusedSimpArgs false
attribute [local go_sem ↓ high] execOp_load49
attribute [local go_sem high] run_load49op

theorem keep_map2 {w w1 w2 wn : World} {R U M b m n0 sz0 n1 sz1 L : Nat} {v0 : Value} {t f : ByteArray} {s k : Int} {f0 f1 : Lit → Option Nat} {kl kt : Lit}
    (h2 : KeepAt w2 R U M b v0 (m + 1) t f s k m) (g1 : Gr w w1 (fun k => k = U ∨ k = R)) (g2 : Gr w1 w2 (fun x => x = b))
    (hm02 : ∀ f' : Lit → Option Nat, f' kl = some U → (∀ x, x ≠ kl → f' x = f0 x) → MapP w2 59 b (n0 + 1) f' (if (f0 kl).isSome then sz0 else sz0 + 1)) (hm12 : MapP w2 9 (b + 1) n1 f1 sz1)
    (hn1 : n1 < maxLen) (hkt : keyOf Yba.prog 9 (.string t) = some kt) (hf1 : f1 kt = none) (gA : Gr w2 wn (fun _ => False)) (hL : wn.heap[L]? = some (.cells #[.slice none 0 0, .int .i64 0, .int .u64 0] 61 (0, 0))) (hLs : L = w2.heap.size) :
    ∃ w3, (Instr.mapUpdate 24 (.map (some (b + 1))) (.string t) (.pointer (some ⟨L, 0, none⟩))).run Yba.prog wn.drew = .ok () w3 ∧
      (w3.cell? ⟨R, 1, none⟩ = some (.map (some (b + 1))) ∧ w3.cell? ⟨U, 0, none⟩ = some (.string t)) ∧
      Calls Yba.prog 14 #[.pointer (some ⟨L, 0, none⟩), .pointer (some ⟨U, 0, none⟩)] w3 fun e w' => e = .returned (.tuple #[]) ∧ w.heap.size ≤ L ∧ KeepPost w w' R U M b v0 m t f s k n0 sz0 f0 kl L none [] ∧ ∀ f' : Lit → Option Nat, f' kt = some L → (∀ x, x ≠ kt → f' x = f1 x) → MapP w' 9 (b + 1) (n1 + 1) f' (sz1 + 1) := by
  have gD : Gr w2 wn.drew (fun _ => False) := (gA.trans (gr_drew wn)).mono fun x _ h => by rcases h with h | h <;> exact h
  obtain ⟨w3, hrun, hg, hm⟩ := (hm12.gr gD (fun h => h)).update law9 Yba.underlying24 hn1 hkt L
  rw [hf1] at hm
  have g3 : Gr w2 w3 (fun x => x = b + 1) := (gD.trans (gr_grown hg)).mono fun x _ h => by
    rcases h with h | h
    · exact h.elim
    · simpa using h
  have h3 : KeepAt w3 R U M b v0 (m + 1) t f s k m := h2.gr g3 (hm12.ne h2.r) (hm12.ne h2.u) (hm12.ne h2.msg)
  have hL3 : w3.heap[L]? = some (.cells #[.slice none 0 0, .int .i64 0, .int .u64 0] 61 (0, 0)) := (gr_grown hg).same (w := wn.drew) hL (fun e => by
    have : L = b + 1 := by simpa using e
    have := hm12.lt
    omega)
  refine ⟨w3, hrun, ⟨heap_cell h3.r 1, heap_cell h3.u 0⟩, ?_⟩
  refine (push_any hL3 h3.u (.inl ⟨rfl, rfl, rfl⟩) (.inl rfl) (by simp)).mono ?_
  rintro e w' ⟨he, v', g', p1, p2, p3, p4, p5⟩
  have hbb : ∀ f', f' kl = some U → (∀ x, x ≠ kl → f' x = f0 x) → MapP w3 59 b (n0 + 1) f' (if (f0 kl).isSome then sz0 else sz0 + 1) := fun f' ha hb => (hm02 f' ha hb).gr g3 (fun e => by omega)
  have hsz : w.heap.size ≤ w2.heap.size := Nat.le_trans g1.size g2.size
  refine ⟨he, by omega, ⟨p5.same h3.r ?_, p5.same h3.msg ?_, p2, fun f' ha hb => ?_, ⟨v', g', p1, p3, ?_⟩, ?_⟩, fun f' ha hb => ?_⟩
  · rintro (e | e | e)
    · exact ne_obj h3.r hL3 (by simp) e
    · exact ne_obj h3.r h3.u (by simp) e
    · cases e
  · rintro (e | e | e)
    · exact ne_obj h3.msg hL3 (by simp) e
    · exact ne_obj h3.msg h3.u (by simp) e
    · cases e
  · have hm := hbb f' ha hb
    refine hm.gr p5 ?_
    rintro (e | e | e)
    · exact hm.ne hL3 e.symm
    · exact hm.ne h3.u e.symm
    · cases e
  · rcases p4 with h | h
    · exact .inl h
    · exact .inr (Nat.le_trans hsz (Nat.le_trans g3.size h))
  · refine (((g1.trans g2).trans g3).trans p5).mono fun x _ h => ?_
    rcases h with (((h | h) | h) | h) | (h | h | h)
    · exact .inr (.inl h)
    · exact .inl h
    · exact .inr (.inr (.inl h))
    · exact .inr (.inr (.inr (.inl h)))
    · exact .inr (.inr (.inr (.inr (.inl h))))
    · exact .inr (.inl h)
    · exact .inr (.inr (.inr (.inr (.inr h))))
  · have hm := hm f' ha hb
    refine MapP.gr (by simpa using hm) p5 ?_
    rintro (e | e | e)
    · exact hm.ne hL3 e.symm
    · exact hm.ne h3.u e.symm
    · cases e

set_option maxHeartbeats 4000000 in
set_option maxRecDepth 100000 in
theorem keep_new (w : World) (R U M b m n0 sz0 n1 sz1 : Nat) (v0 : Value) (t f : ByteArray) (s k : Int) (f0 f1 : Lit → Option Nat) (kl kt : Lit)
    (h : KeepAt w R U M b v0 m t f s k 0) (hm : m ≤ 100000) (hkl : keyOf Yba.prog 59 (.agg (keyV t f s k)) = some kl) (hkt : keyOf Yba.prog 9 (.string t) = some kt)
    (hm0 : MapP w 59 b n0 f0 sz0) (hm1 : MapP w 9 (b + 1) n1 f1 sz1) (hn0 : n0 < maxLen) (hn1 : n1 < maxLen) (hf1 : f1 kt = none) :
    Calls Yba.prog 7 #[pv R, pv U] w fun e w' => e = .returned (.tuple #[]) ∧ ∃ L, w.heap.size ≤ L ∧ KeepPost w w' R U M b v0 m t f s k n0 sz0 f0 kl L none [] ∧ ∀ f' : Lit → Option Nat, f' kt = some L → (∀ x, x ≠ kt → f' x = f1 x) → MapP w' 9 (b + 1) (n1 + 1) f' (sz1 + 1) := by
  have hwr : IntKind.u64.wrap ((m : Int) + 1) = (m : Int) + 1 := IntWalk.u64_in _ (by omega)
  have hRU : R ≠ U := ne_obj h.r h.u (by simp)
  have hUR : U ≠ R := hRU.symm
  have cR3 : w.cell? ⟨R, 3, none⟩ = some (.int .u64 m) := heap_cell h.r 3
  have cU6 : w.cell? ⟨U, 6, none⟩ = some (.int .u64 0) := heap_cell h.u 6
  have fR3 := heap_frozen h.r 3
  have fU6 := heap_frozen h.u 6
  have g1 := kept1_gr w R U m
  have h1 := kept1_at h
  have hm01 := hm0.gr g1 (fun e => by rcases e with e | e; · exact hm0.ne h.u e.symm
                                      · exact hm0.ne h.r e.symm)
  have hm11 := hm1.gr g1 (fun e => by rcases e with e | e; · exact hm1.ne h.u e.symm
                                      · exact hm1.ne h.r e.symm)
  obtain ⟨w1, hw1⟩ : ∃ x, x = kept1 w R U m := ⟨_, rfl⟩
  rw [← hw1] at g1 h1 hm01 hm11
  obtain ⟨w2, hrun0, g2, hm02⟩ := keep_map (f := f) U hm01 hn0 hkl
  have hrun : (Instr.mapUpdate 23 (.map (some b)) (.agg (keyV t f s k)) (.pointer (some ⟨U, 0, none⟩))).run Yba.prog (((w1.alloc (.cells (msgA f s k) 49)).alloc (.cells (keyV t f s k) 59)).drew) = .ok () w2 := hrun0
  have h2 : KeepAt w2 R U M b v0 (m + 1) t f s k m := h1.gr g2 (hm01.ne h1.r) (hm01.ne h1.u) (hm01.ne h1.msg)
  have hm12 := hm11.gr g2 (fun e => by omega)
  have c1R0 : w1.cell? ⟨R, 0, none⟩ = some (.map (some b)) := heap_cell h1.r 0
  have c1U0 : w1.cell? ⟨U, 0, none⟩ = some (.string t) := heap_cell h1.u 0
  have c1U1 : w1.cell? ⟨U, 1, none⟩ = some (.pointer (some ⟨M, 0, none⟩)) := heap_cell h1.u 1
  have c1M : IsMsg w1 (.pointer (some ⟨M, 0, none⟩)) := isMsg_of h1.msg
  have d1M : rowOf w1 (.pointer (some ⟨M, 0, none⟩)) = msgA f s k := rowOf_of h1.msg
  have c2R0 : w2.cell? ⟨R, 0, none⟩ = some (.map (some b)) := heap_cell h2.r 0
  have c2R1 : w2.cell? ⟨R, 1, none⟩ = some (.map (some (b + 1))) := heap_cell h2.r 1
  have c2U0 : w2.cell? ⟨U, 0, none⟩ = some (.string t) := heap_cell h2.u 0
  have c2U1 : w2.cell? ⟨U, 1, none⟩ = some (.pointer (some ⟨M, 0, none⟩)) := heap_cell h2.u 1
  have c2M : IsMsg w2 (.pointer (some ⟨M, 0, none⟩)) := isMsg_of h2.msg
  have d2M : rowOf w2 (.pointer (some ⟨M, 0, none⟩)) = msgA f s k := rowOf_of h2.msg
  have hlk : ∀ q, (Instr.lookup 24 (.map (some (b + 1))) (.string t) false).run Yba.prog (w2.drewN q) = .ok (.pointer none) (w2.drewN q) := fun q => by
    have := (hm12.of_block (w' := w2.drewN q) rfl).lookup law9 Yba.underlying24 (zero51 _) hkt
    rw [hf1] at this
    exact this
  have HW1 := hid hw1
  have HH := hid h2
  have HG := hid g2
  have HG1 := hid g1
  have HM0 := hid hm02
  have HM1 := hid hm12
  clear h1 h2 hw1 hm0 hm1 hm01 g1 hrun0 hm02 hm11 hm12 g2 h
  unfold pv
  go_enter Yba.func7, Yba.ntmps7
  go_wp2_with fail
  have e1 : (w.setCell ⟨U, 6, none⟩ (.int .u64 m)).setCell ⟨R, 3, none⟩ (.int .u64 ((m : Int) + 1)) = w1 := HW1.out.symm
  rw [e1]
  clear e1 cR3 cU6 fR3 fU6
  go_region_held3 (fun w' => w'.cell? ⟨R, 0, none⟩ = some (.map (some b)) ∧ w'.cell? ⟨U, 0, none⟩ = some (.string t) ∧ w'.cell? ⟨U, 1, none⟩ = some (.pointer (some ⟨M, 0, none⟩)) ∧ IsMsg w' (.pointer (some ⟨M, 0, none⟩)) ∧ rowOf w' (.pointer (some ⟨M, 0, none⟩)) = msgA f s k) (simp [*, isMsg_drew, isMsg_drewN, rowOf_drew, rowOf_drewN, World.cell?_alloc_some, isMsg_alloc, rowOf_alloc])
    (first | (go_at_call 13; refine (keyOf_any t f s k _).mono ?_; rintro e w' ⟨rfl, rfl⟩))
  go_wp2_with fail
  go_quiet (fail)
  go_wp2_with fail
  obtain ⟨L, hLs⟩ : ∃ L, L = w2.heap.size := ⟨_, rfl⟩
  have hnew := heap_alloc_new (w2.drewN nq) (.cells #[.slice none 0 0, .int .i64 0, .int .u64 0] 61)
  have gA := (gr_drewN w2 nq).trans (gr_alloc (w2.drewN nq) (.cells #[.slice none 0 0, .int .i64 0, .int .u64 0] 61))
  generalize ((w2.drewN nq).alloc (.cells #[.slice none 0 0, .int .i64 0, .int .u64 0] 61)) = wn at hnew gA ⊢
  have hnew2 : wn.heap[L]? = some (.cells #[.slice none 0 0, .int .i64 0, .int .u64 0] 61 (0, 0)) := by rw [hLs]; exact hnew
  have gA2 : Gr w2 wn (fun _ => False) := gA.mono fun x _ h => by rcases h with h | h <;> exact h
  obtain ⟨w3, hrun3, HC⟩ := keep_map2 (kt := kt) (t := t) HH.out HG1.out HG.out HM0.out HM1.out hn1 hkt hf1 gA2 hnew2 hLs
  rw [← hLs]
  have k1R : wn.cell? ⟨R, 1, none⟩ = some (.map (some (b + 1))) := heap_cell (gA2.same HH.out.r (fun h => h)) 1
  have k1U : wn.cell? ⟨U, 0, none⟩ = some (.string t) := heap_cell (gA2.same HH.out.u (fun h => h)) 0
  obtain ⟨⟨k2R, k2U⟩, CP⟩ := HC
  have HCP := hid CP
  clear hnew gA hnew2 gA2 CP hLs
  go_region_held3 (fun w' => w'.cell? ⟨R, 1, none⟩ = some (.map (some (b + 1))) ∧ w'.cell? ⟨U, 0, none⟩ = some (.string t)) (go_keep) (fail)
  go_wp2_with fail
  refine HCP.out.mono ?_
  rintro e w' ⟨rfl, hp⟩
  have HP := hid hp
  clear hp
  go_wp2_with fail
  go_end0
  exact ⟨rfl, L, HP.out⟩
end Go.Proofs.Ybulkctac
