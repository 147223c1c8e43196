/-
  zzs4734clatest
-/
import Derived.Test.YbulkctacBase
namespace Go.Proofs.Ybulkctac
open Go.RowKit
set_option linter.unusedVariables false

/-- the last value that stands beside the name f among the first i -/
def latestF (ks : Nat → ByteArray) (vs : Nat → Int) (f : ByteArray) : Nat → Int
  | 0 => 0
  | i + 1 => if ((ks i).toList == f.toList) = true then vs i else latestF ks vs f i

set_option maxHeartbeats 2000000 in
set_option maxRecDepth 100000 in
theorem latest_any (ak av : Option Addr) (bk ok bv ov nk nv ck cv : Nat) (ks : Nat → ByteArray) (vs : Nat → Int) (f : ByteArray) (w : World) (hk : 0 < nk → ak = some ⟨bk, ok, none⟩) (hv : 0 < nv → av = some ⟨bv, ov, none⟩)
    (h1 : ∀ i, i < nk → w.cell? ⟨bk, ok + i, none⟩ = some (.string (ks i))) (h2 : ∀ i, i < nv → w.cell? ⟨bv, ov + i, none⟩ = some (.int .u64 (vs i))) (hnk : nk ≤ 1024) (hnv : nv ≤ 1024) :
    Calls Yba.prog 10 #[.slice ak nk ck, .slice av nv cv, .string f] w fun e w' => e = .returned (.int .u64 (latestF ks vs f (min nk nv))) ∧ w = w' := by
  go_enter Yba.func10, Yba.ntmps10
  go_wp2_with fail
  go_loop [7, 8] (fun v7 v8 => ∃ i : Nat, i ≤ min nk nv ∧ v8 = .int .i64 i ∧ v7 = .int .u64 (latestF ks vs f i)) (fun _ v8 => min nk nv - (RowKit.intOf v8).toNat)
  case atStart => exact ⟨0, Nat.zero_le _, rfl, rfl⟩
  case round =>
    obtain ⟨i, hi, rfl, rfl⟩ := hrel
    by_cases hlk : (i : Int) < (nk : Int)
    · by_cases hlv : (i : Int) < (nv : Int)
      · obtain rfl := hk (by omega)
        obtain rfl := hv (by omega)
        have c1 := h1 i (by omega)
        have c2 := h2 i (by omega)
        by_cases he : ((ks i).toList == f.toList) = true
        · have hl : latestF ks vs f (i + 1) = vs i := by simp only [latestF, he, if_true]
          go_wp2_with fail
          go_round
          case rel => exact ⟨i + 1, by omega, by go_num, by rw [hl]⟩
          case measure => simp [RowKit.intOf]; omega
        · have he : ((ks i).toList == f.toList) = false := by simpa using he
          have hl : latestF ks vs f (i + 1) = latestF ks vs f i := by simp [latestF, he]
          go_wp2_with fail
          go_round
          case rel => exact ⟨i + 1, by omega, by go_num, by rw [hl]⟩
          case measure => simp [RowKit.intOf]; omega
      · have hm : min nk nv = i := by omega
        rw [hm]
        have hd : decide ((i : Int) < (nv : Int)) = false := decide_eq_false hlv
        go_wp2_with fail
        go_ret
        exact ⟨rfl, rfl⟩
    · have hm : min nk nv = i := by omega
      rw [hm]
      have hd : decide ((i : Int) < (nk : Int)) = false := decide_eq_false hlk
      go_wp2_with fail
      go_ret
      exact ⟨rfl, rfl⟩
end Go.Proofs.Ybulkctac
