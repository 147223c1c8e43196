/-
  LawS4727BWindow: the row and the tied card.
-/
import Derived.Test.YbulkcswiDoorBWindow
import Derived.Test.YbulkcswiDoorOpenB
import Derived.Test.YbulkcswiDoorCards
import Derived.Test.YbulkcswiDoorTie
import Derived.Stop.Joined
import Derived.SevenTiedAt
namespace Go.Proofs.YbulkcswiDoor.BWindow
open Go.ChangeShapes Go.WideShapes Go.ChangeAt Go.RowKit Go.Lib

theorem walk (a a2 : Option Addr) (s s2 : ByteArray) (c c2 : Nat) (k : Nat) (hk : k ≤ 255) (w : World) (hseg : Seg w a s) (hseg2 : Seg w a2 s2) (hg : Glob w 3 kEnd) :
    Calls Ybad.prog 7 #[.slice a s.size c, .slice a2 s2.size c2, .int .u8 (k : Int)] w fun e w' => e = .returned (.bool true) ∧ Below w.heap.size w w' := by
  by_cases h : (256 : Int) < (s.size : Int) ∨ (256 : Int) < (s2.size : Int)
  · exact window_long a a2 s.size c s2.size c2 k w h
  · exact window_walk a a2 s s2 c c2 k hk w (fun e => h (.inl e)) (fun e => h (.inr e)) hseg hseg2 hg

set_option maxRecDepth 100000 in
theorem lifted (os : Os) (started : os.Started) (H : Type) (enc : TypeId × Value → H) :
    ReturnsInHanded {} Ybad.checked os 7 .any (fun w args => (Rows.lawS4727BWindowSpec.pre enc Ybad.prog Ybad.f7 [] false w args ∧ laidMetH Ybad.prog laidB w) ∧ sizedMet enc Ybad.prog Ybad.f7 (OpenSpec.ofChange Rows.lawS4727BWindowSpec) false w args)
      (Rows.lawS4727BWindowSpec.post enc Ybad.prog Ybad.f7 false true false false) := by
  refine returnsInHanded_of_change_and (C := Ybad.checked) (X := fun w _ => laidMetH Ybad.prog laidB w) (fun _ _ _ hh h => h.of_heap hh) own started (by kernel_rfl) Ybad.func7
    (ChangeSpec.witness_shaped (enc := enc) (C := Ybad.checked) (os := os) (X := fun w _ => laidMetH Ybad.prog laidB w) false (World.doorLaid Ybad.prog 29 os) #[.slice none 0 0, .slice none 0 0, .int .u8 0] 8 rfl (World.shaped_of_RefB (by kernel_rfl) (by kernel_rfl)) (by kernel_rfl) (by kernel_rfl) (by kernel_rfl) (door_metB os _)) ?_
  intro W base args ds gs before hval0 hW _ _ hL _
  have hval : ∀ (j : Nat) t v, Ybad.f7.params[j]? = some t → args[j]? = some v → Value.okWide Ybad.prog W .any base t v := hval0
  have hW' := hW
  obtain ⟨p, q, hA0, hV, rfl, hfz, hnd⟩ := hW
  have hA : DataW.TrodAll enc Ybad.prog W 0 (fun _ => true) true Ybad.f7.params.toList args.toList ds p := hA0
  rw [Ybad.params7] at hA hval
  obtain ⟨v0, v1, v2, d0, d1, d2, p0, p1, p2, rfl, rfl, rfl, h0, h1, h2⟩ := trodAll_three hA
  have lt0 : ∀ x ∈ p0, x.block < W.heap.size := by obtain ⟨m, hm⟩ := h0; exact DataW.trod_lt m _ _ _ hm
  have lt1 : ∀ x ∈ p1, x.block < W.heap.size := by obtain ⟨m, hm⟩ := h1; exact DataW.trod_lt m _ _ _ hm
  have lt2 : ∀ x ∈ p2, x.block < W.heap.size := by obtain ⟨m, hm⟩ := h2; exact DataW.trod_lt m _ _ _ hm
  obtain ⟨a, c, s, rfl, _, _, hseg, _⟩ := open_bytes (hval 0 22 v0 rfl rfl) h0
  obtain ⟨a2, c2, s2, rfl, _, _, hseg2, _⟩ := open_bytes (hval 1 22 v1 rfl rfl) h1
  have k2 := h2
  obtain ⟨kk, rfl, rfl, rfl, wk⟩ := open_int Ybad.underlying5 (hval 2 5 v2 rfl rfl) h2
  have bk := bounds_u8 wk
  obtain ⟨k, rfl⟩ := Int.eq_ofNat_of_zero_le bk.1
  have hg := of_laidB hL
  clear hA0 hval0
  obtain ⟨x1, rfl⟩ : ∃ x1, gs = [x1] := by
    match gs, hV with
    | [x1], _ => exact ⟨x1, rfl⟩
    | [], h => exact h.elim
    | _ :: _ :: _, h => obtain ⟨_, _, _, _, _, _, _, _, _, _, h, _⟩ := h; exact h.elim
  refine (walk a a2 s s2 c c2 k (by omega) W hseg hseg2 hg).mono fun e W' ⟨he, bel⟩ => ?_
  subst he
  exact ⟨_, rfl, _, _, _, [], _, q, hW', trodAll_mk1 (shut_bool Ybad.underlying4 _), (trodAll_cons_mk (Below.trod laidOut (by kernel_rfl) (of_decide_eq_true (by kernel_rfl)) h0 bel lt0) (trodAll_cons_mk (Below.trod laidOut (by kernel_rfl) (of_decide_eq_true (by kernel_rfl)) h1 bel lt1) (trodAll_cons_mk (Below.trod laidOut (by kernel_rfl) (of_decide_eq_true (by kernel_rfl)) k2 bel lt2) trodAll_mk0))), Below.trodVars laidOut bel (by kernel_rfl) hV, bel.frame _, fun h => by cases h⟩

theorem law_holds : Rows.LawS4727BWindowSaid :=
  OpenClaim.holds_of_wide 7 Ybad.f7 rfl rfl rfl rfl rfl rfl rfl ⟨rfl, rfl, rfl, rfl, rfl⟩ rfl rfl rfl rfl rfl (by kernel_rfl) Ybad.func7 (by kernel_rfl)
    (of_decide_eq_true (by kernel_rfl)) (by unfold Func.isWrapper; first | (rw [if_pos (by decide +kernel)]; kernel_rfl) | (rw [if_neg (by decide +kernel)]; exact ⟨rfl, rfl⟩))
    (fun os started H enc _ => lifted os started H enc)

/-- THE STATEMENT: the tied card. -/
theorem proved : Rows.LawS4727BWindowCardSaid :=
  Claim7.holds_tied_plain_at .later [] [.widerDeep] true Rows.lawS4727BWindowCard.stood.harness false
    law_holds (fun _ h => by cases h) (by kernel_rfl) (fun _ h => by cases h) lawS4727BWindow_row_tie rfl ⟨rfl, rfl⟩ (by kernel_rfl) rfl
    (fun f fn hf hfn => by
      obtain rfl : f = 7 := Option.some.inj ((show Ybad.prog.funcNamed Rows.lawS4727BWindowRow.func = some 7 by kernel_rfl).symm.trans hf) |>.symm
      obtain rfl : fn = Ybad.f7 := (Option.some.inj (Ybad.func7.symm.trans hfn)).symm
      exact ⟨by kernel_rfl, fun j t ht => by
        rw [Ybad.params7] at ht
        have hm : t ∈ [22, 22, 5] := by simpa using Array.mem_of_getElem? ht
        have hall : ([22, 22, 5].all fun u => !Ybad.prog.wantsStandIn u) = true := by kernel_rfl
        exact (show Ybad.prog.wantsStandIn t = false by simpa using List.all_eq_true.1 hall t hm)⟩)
    (by kernel_rfl)
#print axioms proved
end Go.Proofs.YbulkcswiDoor.BWindow
