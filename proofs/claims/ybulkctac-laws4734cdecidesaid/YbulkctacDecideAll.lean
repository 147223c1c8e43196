/-
  LawS4734CDecide: all ways joined.
-/
import Derived.Test.YbulkctacDecideP
import Derived.Test.YbulkctacOpenC
namespace Go.Proofs.Ybulkctac
open Go.RowKit
set_option linter.unusedVariables false

theorem decide_walk (bl hpn : Bool) (ak av : Option Addr) (nk ck nv cv : Nat) (sel : Nat) (f p : ByteArray) (s : Int) (w : World) (hK : IsStrings w ak nk) (hV : IsU64s w av nv) (hsel : sel < 256) (hf : f.size ≤ maxLen) (hs : (Lit.int .u64 s).wf = true) (hp : p.size ≤ maxLen) :
    Calls Yba.prog 4 #[.bool bl, .bool hpn, .slice ak nk ck, .slice av nv cv, .int .u8 sel, .string f, .int .u64 s, .string p] w fun e w' => e = .returned (.bool true) ∧ Below w.heap.size w w' := by
  by_cases h1 : (1024 : Int) < (nk : Int)
  · exact decide_long _ _ _ _ _ _ _ _ _ _ _ _ _ (Or.inl h1)
  by_cases h2 : (1024 : Int) < (nv : Int)
  · exact decide_long _ _ _ _ _ _ _ _ _ _ _ _ _ (Or.inr h2)
  cases hpn with
  | false =>
    cases bl with
    | false => exact decide_free _ _ _ _ _ _ _ _ _ _ _ h1 h2
    | true => exact decide_nil _ _ _ _ _ _ _ _ _ _ _ _ (key59 p f s 0 hp hf hs (by decide)) h1 h2
  | true =>
    obtain ⟨bk, ok, ks, hka, hkc, hks⟩ := hK
    obtain ⟨bv, ov, vs, hva, hvc, hvw⟩ := hV
    by_cases hz : nk = 0
    · cases bl with
      | false => exact pend_nk0_free ak av bk ok bv ov nk ck nv cv ks vs sel f p s w hsel hka hva hkc hvc hks hvw hf hp hs h1 h2 hz
      | true =>
        by_cases hlt : latestF ks vs f (min nk nv) < s
        · exact pend_nk0_take ak av bk ok bv ov nk ck nv cv ks vs sel f p s w hsel hka hva hkc hvc hks hvw hf hp hs h1 h2 hz hlt
        · exact pend_nk0_refuse ak av bk ok bv ov nk ck nv cv ks vs sel f p s w hsel hka hva hkc hvc hks hvw hf hp hs h1 h2 hz hlt
    · have hz : 0 < nk := by omega
      by_cases ho : sel % 2 = 0
      · cases bl with
        | false => exact pend_even_free ak av bk ok bv ov nk ck nv cv ks vs sel f p s w hsel hka hva hkc hvc hks hvw hf hp hs h1 h2 hz ho
        | true =>
          by_cases hlt : latestF ks vs (ks (sel % nk)) (min nk nv) < s
          · exact pend_even_take ak av bk ok bv ov nk ck nv cv ks vs sel f p s w hsel hka hva hkc hvc hks hvw hf hp hs h1 h2 hz ho hlt
          · exact pend_even_refuse ak av bk ok bv ov nk ck nv cv ks vs sel f p s w hsel hka hva hkc hvc hks hvw hf hp hs h1 h2 hz ho hlt
      · have ho : sel % 2 = 1 := by omega
        cases bl with
        | false => exact pend_odd_free ak av bk ok bv ov nk ck nv cv ks vs sel f p s w hsel hka hva hkc hvc hks hvw hf hp hs h1 h2 hz ho
        | true =>
          by_cases hlt : latestF ks vs f (min nk nv) < s
          · exact pend_odd_take ak av bk ok bv ov nk ck nv cv ks vs sel f p s w hsel hka hva hkc hvc hks hvw hf hp hs h1 h2 hz ho hlt
          · exact pend_odd_refuse ak av bk ok bv ov nk ck nv cv ks vs sel f p s w hsel hka hva hkc hvc hks hvw hf hp hs h1 h2 hz ho hlt
end Go.Proofs.Ybulkctac
