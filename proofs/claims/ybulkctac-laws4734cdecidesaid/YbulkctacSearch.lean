/-
  slices.BinarySearch and slices.Insert on a nil slice of strings
-/
import Derived.Test.YbulkctacPush
namespace Go.Proofs.Ybulkctac
open Go.RowKit
set_option linter.unusedVariables false
set_option linter.unusedSimpArgs false

theorem info9 : (Yba.prog.info? 9).map (fun i => (i.zero, i.size, i.bytes)) = some (some (.string ⟨#[]⟩), 1, 16) := by kernel_rfl

set_option maxHeartbeats 2000000 in
set_option maxRecDepth 100000 in
theorem search_nil (p : ByteArray) (w : World) : Calls Yba.prog 19 #[.slice none 0 0, .string p] w fun e w' => e = .returned (.tuple #[.int .i64 0, .bool false]) ∧ w = w' := by
  go_enter Yba.func19, Yba.ntmps19
  go_wp2_with fail
  go_loop [7, 8] (fun v7 v8 => v7 = .int .i64 0 ∧ v8 = .int .i64 0) (fun _ _ => 0)
  case atStart => exact ⟨rfl, rfl⟩
  case round =>
    obtain ⟨rfl, rfl⟩ := hrel
    go_wp2_with fail
    go_ret2
    exact ⟨rfl, rfl⟩

/-- append(nil, one string) -/
theorem app_str (w : World) (g : Nat) (p : ByteArray) (hg : w.cell? ⟨g, 0, none⟩ = some (.string p)) (ty : TypeId) (c : Nat) :
    ∃ cap w', (Builtin.append_ #[40, 40] ty #[.slice none 0 0, .slice (some ⟨g, 0, none⟩) 1 c]).run Yba.prog w = .ok (.slice (some ⟨w.heap.size, 0, none⟩) 1 cap) w' ∧ Gr w w' (fun _ => False) := by
  obtain ⟨i, hi, hz, hsz, hb⟩ := info_parts info9
  have hr := run_append_nil (P := Yba.prog) w 40 ty 9 i _ Yba.underlying40 hi hz ⟨g, 0, none⟩ 1 c [.string p] (by rw [hsz]; rfl) (fun j v hj => by
    match j, hj with
    | 0, hj => simp at hj; subst hj; simpa [Addr.add] using hg) (by omega) (by omega) (by rw [hb]; omega)
  exact ⟨_, _, hr, ⟨rfl, rfl, rfl, by simp, fun k hk _ => Below.heap_alloc w.drew _ k hk⟩⟩

section
variable {w : World} {ops : Array Oper} {rest : List Oper} {o : Oper} {a : Act} {Q : Exit → Act → World → Prop}
theorem wp_appS (hgd : o.guard = none) (s x : Operand) (ho : o.op = .call { callee := .builtin .append, args := #[s, x], argTypes := #[40, 40] })
    (hs : a.eval s = .slice none 0 0) (g c : Nat) (p : ByteArray) (hx : a.eval x = .slice (some ⟨g, 0, none⟩) 1 c) (hu : w.cell? ⟨g, 0, none⟩ = some (.string p))
    (h : ∀ cap w', Gr w w' (fun _ => False) → wpList Yba.prog ops Q rest (a.put o.dst (.slice (some ⟨w.heap.size, 0, none⟩) 1 cap)) w') : wpList Yba.prog ops Q (o :: rest) a w := by
  obtain ⟨cap, w', hrun, h1⟩ := app_str w g p hu o.type c
  refine wpList_plain hgd fun K hK => ?_
  unfold Oper.wp
  simp [execOp, ho, resolve, invoke, builtin, hs, hx, hrun, Result.andThen]
  exact hK _ _ (h cap w' h1)
end

set_option maxHeartbeats 2000000 in
set_option maxRecDepth 100000 in
theorem insert_nil (g c : Nat) (p : ByteArray) (w : World) (hg : w.cell? ⟨g, 0, none⟩ = some (.string p)) : Calls Yba.prog 20 #[.slice none 0 0, .int .i64 0, .slice (some ⟨g, 0, none⟩) 1 c] w fun e w' => ∃ x cap, e = .returned (.slice (some ⟨x, 0, none⟩) 1 cap) ∧ Gr w w' (fun _ => False) := by
  have HG := hid hg
  go_enter Yba.func20, Yba.ntmps20
  go_wp2_with (at_builtin; refine wp_appS rfl (.tmp 23) (.tmp 24) rfl rfl g c p rfl HG.out ?_)
  intro cap w' hgr
  go_wp2_with fail
  go_ret
  exact ⟨_, _, rfl, hgr⟩
end Go.Proofs.Ybulkctac
