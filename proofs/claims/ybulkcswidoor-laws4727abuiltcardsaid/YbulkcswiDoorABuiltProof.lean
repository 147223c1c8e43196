/-
  LawS4727ABuilt: the row and the tied card.
-/
import Derived.Test.YbulkcswiDoorABuilt
import Derived.Test.YbulkcswiDoorOpen
import Derived.Test.YbulkcswiDoorCards
import Derived.Test.YbulkcswiDoorTie
import Derived.Lib.SmallJoins
import Derived.Stop.Joined
import Derived.SevenTiedAt
namespace Go.Proofs.YbulkcswiDoor.ABuilt
open Go.ChangeShapes Go.WideShapes Go.ChangeAt Go.RowKit Go.Lib Go.Joins

abbrev laid : List (String × DataW Unit) := Rows.lawS4727ABuiltRow.laid

theorem g0 : Ybad.prog.globalNamed (laid[0]).1 = some 0 := by kernel_rfl
theorem g1 : Ybad.prog.globalNamed (laid[1]).1 = some 1 := by kernel_rfl
theorem g2 : Ybad.prog.globalNamed (laid[2]).1 = some 2 := by kernel_rfl
theorem t0 : (Ybad.prog.globals[0]?).map (·.type) = some 22 := by kernel_rfl
theorem t1 : (Ybad.prog.globals[1]?).map (·.type) = some 22 := by kernel_rfl
theorem t2 : (Ybad.prog.globals[2]?).map (·.type) = some 22 := by kernel_rfl

theorem door_met (os : Os) (args : Array Value) : laidMetH Ybad.prog laid ((World.doorLaid Ybad.prog 29 os).forCall (fun _ _ => 0) ⟨#[], args, []⟩).memory :=
  laidMetH_of_parts3 (fuel := 8) (laidMet_of_run' 8 (by kernel_rfl) (by kernel_rfl)) (by kernel_rfl) (by kernel_rfl)

theorem of_laid {W : World} (h : laidMetH Ybad.prog laid W) : Globs W := by
  rw [MakeChecks.laidMetH_plain _ _ _ (by kernel_rfl)] at h
  obtain ⟨ps, ⟨h0, u0, cs0, f0, p0, q0, hg0, ht0, hv0, hd0, ⟨h1, u1, cs1, f1, p1, q1, hg1, ht1, hv1, hd1, ⟨h2, u2, cs2, f2, p2, q2, hg2, ht2, hv2, hd2, _, _⟩, _⟩, _⟩, _, _⟩ := h
  obtain rfl := Option.some.inj (g0.symm.trans hg0)
  obtain rfl := Option.some.inj (g1.symm.trans hg1)
  obtain rfl := Option.some.inj (g2.symm.trans hg2)
  obtain rfl := Option.some.inj (t0.symm.trans ht0)
  obtain rfl := Option.some.inj (t1.symm.trans ht1)
  obtain rfl := Option.some.inj (t2.symm.trans ht2)
  exact ⟨glob_of (ks := [66, 105, 110, 100, 35]) hg0 hv0 hd0, glob_of (ks := [98, 105, 110, 100, 32]) hg1 hv1 hd1, glob_of (ks := [118, 97, 108, 117, 101, 61]) hg2 hv2 hd2⟩

theorem array5 {α : Type} {cs : Array α} (h : cs.size = 5) : ∃ c0 c1 c2 c3 c4, cs = #[c0, c1, c2, c3, c4] := by
  obtain ⟨l⟩ := cs
  match l, h with
  | [c0, c1, c2, c3, c4], _ => exact ⟨c0, c1, c2, c3, c4, rfl⟩

theorem cells30 : Ybad.prog.cellsOf 30 = 5 := by kernel_rfl
theorem cells4 : Ybad.prog.cellsOf 4 = 1 := by kernel_rfl
theorem cells22 : Ybad.prog.cellsOf 22 = 1 := by kernel_rfl

theorem open_line {H : Type} {enc : TypeId × Value → H} {W : World} {base : Nat} {v : Value} {d : DataW H} {p : List MemPlace} (hv : Value.okWide Ybad.prog W .any base 30 v)
    (h : DataW.Trod enc Ybad.prog W 0 (fun _ => true) true 30 v d p) :
    ∃ (out : Bool) (ind tabs sel : Nat) (a : Option Addr) (c : Nat) (s : ByteArray), v = .agg #[.bool out, .int .u8 ind, .int .u8 tabs, .int .u8 sel, .slice a s.size c] ∧ ind ≤ 255 ∧ tabs ≤ 255 ∧ sel ≤ 255 ∧ Seg W a s := by
  obtain ⟨cs, rfl, hsz⟩ := okWide_struct Ybad.underlying30 hv
  obtain ⟨c0, c1, c2, c3, c4, rfl⟩ := array5 (hsz.trans cells30)
  obtain ⟨fuel, hf⟩ := h
  obtain ⟨xs, n, _, _, _, hlen, hx⟩ := DataW.trod_struct Ybad.underlying30 hf
  match xs, hlen, hx with
  | [y0, y1, y2, y3, y4], _, hx =>
    have h0 := hx 0 _ rfl
    have h1 := hx 1 _ rfl
    have h2 := hx 2 _ rfl
    have h3 := hx 3 _ rfl
    have h4 := hx 4 _ rfl
    obtain ⟨out, e0, _⟩ := DataW.trod_bool Ybad.underlying4 (h0.trans rfl)
    obtain ⟨ind, e1, _, w1⟩ := DataW.trod_int Ybad.underlying5 (h1.trans rfl)
    obtain ⟨tabs, e2, _, w2⟩ := DataW.trod_int Ybad.underlying5 (h2.trans rfl)
    obtain ⟨sel, e3, _, w3⟩ := DataW.trod_int Ybad.underlying5 (h3.trans rfl)
    simp [cells4, cells5, Value.cells] at e0 e1 e2 e3
    subst e0 e1 e2 e3
    have b1 := bounds_u8 w1
    have b2 := bounds_u8 w2
    have b3 := bounds_u8 w3
    obtain ⟨i1, rfl⟩ := Int.eq_ofNat_of_zero_le b1.1
    obtain ⟨i2, rfl⟩ := Int.eq_ofNat_of_zero_le b2.1
    obtain ⟨i3, rfl⟩ := Int.eq_ofNat_of_zero_le b3.1
    rcases open_ints Ybad.underlying22 Ybad.underlying5 cells5 (h4.trans rfl) with ⟨hcs, _⟩ | ⟨x, l, c, zs, hcs, _, hl, hm, hz, _, hcell, hwz⟩
    · simp [cells22, Value.cells] at hcs
      subst hcs
      exact ⟨out, i1, i2, i3, none, 0, ByteArray.empty, rfl, by omega, by omega, by omega, fun h => absurd h (by decide)⟩
    · simp [cells22, Value.cells] at hcs
      subst hcs
      obtain ⟨s1, s2⟩ := seg_of_cells hl (by simpa using hz) hcell hwz
      exact ⟨out, i1, i2, i3, some x, c, strOfNums (zs.take l), by rw [s1], by omega, by omega, by omega, s2⟩

theorem walk (out : Bool) (ind tabs sel : Nat) (h1 : ind ≤ 255) (h2 : tabs ≤ 255) (h3 : sel ≤ 255) (a : Option Addr) (s : ByteArray) (c : Nat) (w : World) (hseg : Seg w a s) (hg : Globs w) :
    Calls Ybad.prog 4 #[.agg #[.bool out, .int .u8 ind, .int .u8 tabs, .int .u8 sel, .slice a s.size c]] w fun e w' => e = .returned (.bool true) ∧ Below w.heap.size w w' := by
  by_cases h : (1024 : Int) < (s.size : Int)
  · exact built_long out ind tabs sel a s.size c w h
  · exact built_walk out ind tabs sel h1 h2 h3 a s c w h hseg hg

set_option maxRecDepth 100000 in
theorem lifted (os : Os) (started : os.Started) (H : Type) (enc : TypeId × Value → H) :
    ReturnsInHanded {} Ybad.checked os 4 .any (fun w args => (Rows.lawS4727ABuiltSpec.pre enc Ybad.prog Ybad.f4 [] false w args ∧ laidMetH Ybad.prog laid w) ∧ sizedMet enc Ybad.prog Ybad.f4 (OpenSpec.ofChange Rows.lawS4727ABuiltSpec) false w args)
      (Rows.lawS4727ABuiltSpec.post enc Ybad.prog Ybad.f4 false true false false) := by
  refine returnsInHanded_of_change_and (C := Ybad.checked) (X := fun w _ => laidMetH Ybad.prog laid w) (fun _ _ _ hh h => h.of_heap hh) own started (by kernel_rfl) Ybad.func4
    (ChangeSpec.witness_shaped (enc := enc) (C := Ybad.checked) (os := os) (X := fun w _ => laidMetH Ybad.prog laid w) false (World.doorLaid Ybad.prog 29 os) #[.agg #[.bool false, .int .u8 0, .int .u8 0, .int .u8 0, .slice none 0 0]] 8 rfl (World.shaped_of_RefB (by kernel_rfl) (by kernel_rfl)) (by kernel_rfl) (by kernel_rfl) (by kernel_rfl) (door_met os _)) ?_
  intro W base args ds gs before hval0 hW _ _ hL _
  have hval : ∀ (j : Nat) t v, Ybad.f4.params[j]? = some t → args[j]? = some v → Value.okWide Ybad.prog W .any base t v := hval0
  have hW' := hW
  obtain ⟨p, q, hA0, hV, rfl, hfz, hnd⟩ := hW
  have hA : DataW.TrodAll enc Ybad.prog W 0 (fun _ => true) true Ybad.f4.params.toList args.toList ds p := hA0
  rw [Ybad.params4] at hA hval
  obtain ⟨v0, d0, rfl, rfl, h0⟩ := trodAll_one hA
  have lt0 : ∀ x ∈ p, x.block < W.heap.size := by obtain ⟨m, hm⟩ := h0; exact DataW.trod_lt m _ _ _ hm
  obtain ⟨out, ind, tabs, sel, a, c, s, rfl, b1, b2, b3, hseg⟩ := open_line (hval 0 30 v0 rfl rfl) h0
  have hg := of_laid hL
  clear hA0 hval0
  obtain ⟨x1, x2, x3, rfl⟩ : ∃ x1 x2 x3, gs = [x1, x2, x3] := by
    match gs, hV with
    | [x1, x2, x3], _ => exact ⟨x1, x2, x3, rfl⟩
    | [], h => exact h.elim
    | [_], h => obtain ⟨_, _, _, _, _, _, _, _, _, _, h, _⟩ := h; exact h.elim
    | [_, _], h => obtain ⟨_, _, _, _, _, _, _, _, _, _, ⟨_, _, _, _, _, _, _, _, _, _, h, _⟩, _⟩ := h; exact h.elim
    | _ :: _ :: _ :: _ :: _, h => obtain ⟨_, _, _, _, _, _, _, _, _, _, ⟨_, _, _, _, _, _, _, _, _, _, ⟨_, _, _, _, _, _, _, _, _, _, h, _⟩, _⟩, _⟩ := h; exact h.elim
  refine (walk out ind tabs sel b1 b2 b3 a s c W hseg hg).mono fun e W' ⟨he, bel⟩ => ?_
  subst he
  exact ⟨_, rfl, _, _, _, [], _, q, hW', trodAll_mk1 (shut_bool Ybad.underlying4 _), (trodAll_cons_mk (Below.trod laidOut (by kernel_rfl) (of_decide_eq_true (by kernel_rfl)) h0 bel lt0) trodAll_mk0), Below.trodVars laidOut bel (by kernel_rfl) hV, bel.frame _, fun h => by cases h⟩

theorem law_holds : Rows.LawS4727ABuiltSaid :=
  OpenClaim.holds_of_wide 4 Ybad.f4 rfl rfl rfl rfl rfl rfl rfl ⟨rfl, rfl, rfl, rfl, rfl⟩ rfl rfl rfl rfl rfl (by kernel_rfl) Ybad.func4 (by kernel_rfl)
    (of_decide_eq_true (by kernel_rfl)) (by unfold Func.isWrapper; first | (rw [if_pos (by decide +kernel)]; kernel_rfl) | (rw [if_neg (by decide +kernel)]; exact ⟨rfl, rfl⟩))
    (fun os started H enc _ => lifted os started H enc)

/-- THE STATEMENT: the tied card. -/
theorem proved : Rows.LawS4727ABuiltCardSaid :=
  Claim7.holds_tied_plain_at .later [] [.widerDeep, .widerDeep, .widerDeep] true Rows.lawS4727ABuiltCard.stood.harness false
    law_holds (fun _ h => by cases h) (by kernel_rfl) (fun _ h => by cases h) lawS4727ABuilt_row_tie rfl ⟨rfl, rfl⟩ (by kernel_rfl) rfl
    (fun f fn hf hfn => by
      obtain rfl : f = 4 := Option.some.inj ((show Ybad.prog.funcNamed Rows.lawS4727ABuiltRow.func = some 4 by kernel_rfl).symm.trans hf) |>.symm
      obtain rfl : fn = Ybad.f4 := (Option.some.inj (Ybad.func4.symm.trans hfn)).symm
      exact ⟨by kernel_rfl, fun j t ht => by
        rw [Ybad.params4] at ht
        have hm : t ∈ [30] := by simpa using Array.mem_of_getElem? ht
        have hall : ([30].all fun u => !Ybad.prog.wantsStandIn u) = true := by kernel_rfl
        exact (show Ybad.prog.wantsStandIn t = false by simpa using List.all_eq_true.1 hall t hm)⟩)
    (by kernel_rfl)
#print axioms proved
end Go.Proofs.YbulkcswiDoor.ABuilt
