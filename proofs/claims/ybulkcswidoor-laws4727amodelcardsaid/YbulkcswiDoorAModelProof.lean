/-
  LawS4727AModel: the row and the tied card.
-/
import Derived.Test.YbulkcswiDoorAModel
import Derived.Test.YbulkcswiDoorOpen
import Derived.Test.YbulkcswiDoorCards
import Derived.Test.YbulkcswiDoorTie
import Derived.Stop.Joined
import Derived.SevenTiedAt
namespace Go.Proofs.YbulkcswiDoor.AModel
open Go.ChangeShapes Go.WideShapes Go.ChangeAt Go.RowKit Go.Lib

abbrev laid : List (String × DataW Unit) := Rows.lawS4727AModelRow.laid

theorem g0 : Ybad.prog.globalNamed (laid[0]).1 = some 0 := by kernel_rfl
theorem g1 : Ybad.prog.globalNamed (laid[1]).1 = some 1 := by kernel_rfl
theorem g2 : Ybad.prog.globalNamed (laid[2]).1 = some 2 := by kernel_rfl
theorem t0 : (Ybad.prog.globals[0]?).map (·.type) = some 22 := by kernel_rfl
theorem t1 : (Ybad.prog.globals[1]?).map (·.type) = some 22 := by kernel_rfl
theorem t2 : (Ybad.prog.globals[2]?).map (·.type) = some 22 := by kernel_rfl

theorem door_met (os : Os) (args : Array Value) : laidMetH Ybad.prog laid ((World.doorLaid Ybad.prog 29 os).forCall (fun _ _ => 0) ⟨#[], args, []⟩).memory :=
  laidMetH_of_parts3 (fuel := 8) (laidMet_of_run' 8 (by kernel_rfl) (by kernel_rfl)) (by kernel_rfl) (by kernel_rfl)

theorem of_laid {W : World} (h : laidMetH Ybad.prog laid W) : Globs W := by
  rw [MakeChecks.laidMetH_plain _ _ _ (by kernel_rfl)] at h
  obtain ⟨ps, ⟨h0, u0, cs0, f0, p0, q0, hg0, ht0, hv0, hd0, ⟨h1, u1, cs1, f1, p1, q1, hg1, ht1, hv1, hd1, ⟨h2, u2, cs2, f2, p2, q2, hg2, ht2, hv2, hd2, _, _⟩, _⟩, _⟩, _, _⟩ := h
  obtain rfl := Option.some.inj (g0.symm.trans hg0)
  obtain rfl := Option.some.inj (g1.symm.trans hg1)
  obtain rfl := Option.some.inj (g2.symm.trans hg2)
  obtain rfl := Option.some.inj (t0.symm.trans ht0)
  obtain rfl := Option.some.inj (t1.symm.trans ht1)
  obtain rfl := Option.some.inj (t2.symm.trans ht2)
  exact ⟨glob_of (ks := [66, 105, 110, 100, 35]) hg0 hv0 hd0, glob_of (ks := [98, 105, 110, 100, 32]) hg1 hv1 hd1, glob_of (ks := [118, 97, 108, 117, 101, 61]) hg2 hv2 hd2⟩

/-- The law, whatever the line. -/
theorem walk (a : Option Addr) (s : ByteArray) (c : Nat) (w : World) (hs : s.size ≤ c) (hcm : c ≤ maxLen) (hseg : Seg w a s) (hg : Globs w) :
    Calls Ybad.prog 3 #[.slice a s.size c] w fun e w' => e = .returned (.bool true) ∧ Below w.heap.size w w' := by
  by_cases hl : (1048576 : Int) < (s.size : Int)
  · exact model_long a s.size c w hl
  · cases ho : outside s
    · exact model_in a s c w hl hs hcm hseg hg ho
    · refine model_out a s c w hl hs hcm hseg hg ?_ ho
      by_cases h : 0 < s.size
      · exact h
      · unfold outside at ho; rw [dif_neg h] at ho; cases ho

set_option maxRecDepth 100000 in
theorem lifted (os : Os) (started : os.Started) (H : Type) (enc : TypeId × Value → H) :
    ReturnsInHanded {} Ybad.checked os 3 .any (fun w args => (Rows.lawS4727AModelSpec.pre enc Ybad.prog Ybad.f3 [] false w args ∧ laidMetH Ybad.prog laid w) ∧ sizedMet enc Ybad.prog Ybad.f3 (OpenSpec.ofChange Rows.lawS4727AModelSpec) false w args)
      (Rows.lawS4727AModelSpec.post enc Ybad.prog Ybad.f3 false true false false) := by
  refine returnsInHanded_of_change_and (C := Ybad.checked) (X := fun w _ => laidMetH Ybad.prog laid w) (fun _ _ _ hh h => h.of_heap hh) own started (by kernel_rfl) Ybad.func3
    (ChangeSpec.witness_shaped (enc := enc) (C := Ybad.checked) (os := os) (X := fun w _ => laidMetH Ybad.prog laid w) false (World.doorLaid Ybad.prog 29 os) #[.slice none 0 0] 8 rfl (World.shaped_of_RefB (by kernel_rfl) (by kernel_rfl)) (by kernel_rfl) (by kernel_rfl) (by kernel_rfl) (door_met os _)) ?_
  intro W base args ds gs before hval0 hW _ _ hL _
  have hval : ∀ (j : Nat) t v, Ybad.f3.params[j]? = some t → args[j]? = some v → Value.okWide Ybad.prog W .any base t v := hval0
  have hW' := hW
  obtain ⟨p, q, hA0, hV, rfl, hfz, hnd⟩ := hW
  have hA : DataW.TrodAll enc Ybad.prog W 0 (fun _ => true) true Ybad.f3.params.toList args.toList ds p := hA0
  rw [Ybad.params3] at hA hval
  obtain ⟨v0, d0, rfl, rfl, h0⟩ := trodAll_one hA
  have lt0 : ∀ x ∈ p, x.block < W.heap.size := by obtain ⟨m, hm⟩ := h0; exact DataW.trod_lt m _ _ _ hm
  obtain ⟨a, c, s, rfl, hsc, hcm, hseg, _⟩ := open_bytes (hval 0 22 v0 rfl rfl) h0
  have hg := of_laid hL
  clear hA0 hval0
  obtain ⟨x1, x2, x3, rfl⟩ : ∃ x1 x2 x3, gs = [x1, x2, x3] := by
    match gs, hV with
    | [x1, x2, x3], _ => exact ⟨x1, x2, x3, rfl⟩
    | [], h => exact h.elim
    | [_], h => obtain ⟨_, _, _, _, _, _, _, _, _, _, h, _⟩ := h; exact h.elim
    | [_, _], h => obtain ⟨_, _, _, _, _, _, _, _, _, _, ⟨_, _, _, _, _, _, _, _, _, _, h, _⟩, _⟩ := h; exact h.elim
    | _ :: _ :: _ :: _ :: _, h => obtain ⟨_, _, _, _, _, _, _, _, _, _, ⟨_, _, _, _, _, _, _, _, _, _, ⟨_, _, _, _, _, _, _, _, _, _, h, _⟩, _⟩, _⟩ := h; exact h.elim
  refine (walk a s c W hsc hcm hseg hg).mono fun e W' ⟨he, bel⟩ => ?_
  subst he
  exact ⟨_, rfl, _, _, _, [], _, q, hW', trodAll_mk1 (shut_bool Ybad.underlying4 _), (trodAll_cons_mk (Below.trod laidOut (by kernel_rfl) (of_decide_eq_true (by kernel_rfl)) h0 bel lt0) trodAll_mk0), Below.trodVars laidOut bel (by kernel_rfl) hV, bel.frame _, fun h => by cases h⟩

theorem law_holds : Rows.LawS4727AModelSaid :=
  OpenClaim.holds_of_wide 3 Ybad.f3 rfl rfl rfl rfl rfl rfl rfl ⟨rfl, rfl, rfl, rfl, rfl⟩ rfl rfl rfl rfl rfl (by kernel_rfl) Ybad.func3 (by kernel_rfl)
    (of_decide_eq_true (by kernel_rfl)) (by unfold Func.isWrapper; first | (rw [if_pos (by decide +kernel)]; kernel_rfl) | (rw [if_neg (by decide +kernel)]; exact ⟨rfl, rfl⟩))
    (fun os started H enc _ => lifted os started H enc)

/-- THE STATEMENT: the tied card. -/
theorem proved : Rows.LawS4727AModelCardSaid :=
  Claim7.holds_tied_plain_at .later [] [.widerDeep, .widerDeep, .widerDeep] true Rows.lawS4727AModelCard.stood.harness false
    law_holds (fun _ h => by cases h) (by kernel_rfl) (fun _ h => by cases h) lawS4727AModel_row_tie rfl ⟨rfl, rfl⟩ (by kernel_rfl) rfl
    (fun f fn hf hfn => by
      obtain rfl : f = 3 := Option.some.inj ((show Ybad.prog.funcNamed Rows.lawS4727AModelRow.func = some 3 by kernel_rfl).symm.trans hf) |>.symm
      obtain rfl : fn = Ybad.f3 := (Option.some.inj (Ybad.func3.symm.trans hfn)).symm
      exact ⟨by kernel_rfl, fun j t ht => by
        rw [Ybad.params3] at ht
        have hm : t ∈ [22] := by simpa using Array.mem_of_getElem? ht
        have hall : ([22].all fun u => !Ybad.prog.wantsStandIn u) = true := by kernel_rfl
        exact (show Ybad.prog.wantsStandIn t = false by simpa using List.all_eq_true.1 hall t hm)⟩)
    (by kernel_rfl)
#print axioms proved

end Go.Proofs.YbulkcswiDoor.AModel
