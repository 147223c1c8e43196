/-
  From what a row hands over to what the walks ask: a []byte that came in; the listed variables.
-/
import Derived.Test.YbulkcswiDoorBind
import Derived.ProofKit
import Derived.LaidMore
import Derived.OpenShut
import Derived.OpenVars
import Derived.MakeChecks
namespace Go.Proofs.YbulkcswiDoor
open Go.ChangeShapes Go.WideShapes Go.ChangeAt Go.RowKit Go.Lib

theorem own : ownKnob Ybad.prog.godebug = none := by kernel_rfl
theorem laidOut : laidOutB Ybad.prog = true := by kernel_rfl
theorem cells5 : Ybad.prog.cellsOf 5 = 1 := by kernel_rfl

theorem seg_of_cells {W : World} {a : Addr} {len cap : Nat} {zs : List Int} (hl : len ≤ cap) (hz : zs.length = cap) (hcell : ∀ i, i < zs.length → W.cell? (a.add i) = some (.int .u8 (zs.getD i 0))) (hw : ∀ n ∈ zs, (Lit.int .u8 n).wf = true) :
    (strOfNums (zs.take len)).size = len ∧ Seg W (some a) (strOfNums (zs.take len)) := by
  have hsz : (strOfNums (zs.take len)).size = len := by rw [strOfNums_size]; simp; omega
  refine ⟨hsz, fun h0 => ?_⟩
  rw [hsz] at h0
  obtain ⟨b, o, e, hc⟩ := ints_at hcell (by omega)
  refine ⟨b, o, by rw [e], bytes_of_nums (n := len) (by simp; omega) (fun x hx => ?_) (fun i hi => ?_)⟩
  · have := bounds_u8 (hw x (List.mem_of_mem_take hx)); omega
  · rw [hc i (by omega)]
    simp [List.getD, hi]

/-- A []byte that came in: its address, its capacity, its bytes. -/
theorem open_bytes {H : Type} {enc : TypeId × Value → H} {W : World} {base : Nat} {v : Value} {d : DataW H} {p : List MemPlace} (hv : Value.okWide Ybad.prog W .any base 22 v)
    (h : DataW.Trod enc Ybad.prog W 0 (fun _ => true) true 22 v d p) : ∃ a c s, v = .slice a s.size c ∧ s.size ≤ c ∧ c ≤ maxLen ∧ Seg W a s ∧ (a = none → c = 0) := by
  obtain ⟨a0, len0, cap0, rfl⟩ := okWide_slice Ybad.underlying22 hv
  obtain ⟨fuel, hf⟩ := h
  rcases open_ints Ybad.underlying22 Ybad.underlying5 cells5 hf with ⟨hcs, _⟩ | ⟨x, l, c, zs, hcs, _, hl, hm, hz, _, hcell, hwz⟩
  · simp [Value.cells] at hcs
    obtain ⟨rfl, rfl, rfl⟩ := hcs
    exact ⟨none, 0, ByteArray.empty, rfl, Nat.le_refl _, Nat.zero_le _, fun h => absurd h (by decide), fun _ => rfl⟩
  · simp [Value.cells] at hcs
    obtain ⟨rfl, rfl, rfl⟩ := hcs
    obtain ⟨h1, h2⟩ := seg_of_cells hl (by simpa using hz) hcell hwz
    exact ⟨some x, _, strOfNums (zs.take len0), by rw [h1], by omega, hm, h2, fun e => by cases e⟩

/-- A listed variable that holds a slice of bytes. -/
theorem glob_of {W : World} {g fuel : Nat} {cs : Array Value} {ks : List Int} {p : List MemPlace} {n : String} (hg : Ybad.prog.globalNamed n = some g) (hv : W.var? Ybad.prog n = some cs) {H : Type} {enc : TypeId × Value → H} {base : Nat} {held : Bool}
    (hd : DataW.trod enc Ybad.prog W base (fun _ => true) held fuel 22 cs.toList = some (.slice (ChangeShapes.lits .u8 ks) [], p)) : Glob W g (strOfNums ks) := by
  rcases open_ints Ybad.underlying22 Ybad.underlying5 cells5 hd with ⟨_, hx⟩ | ⟨x, l, c, zs, hcs, _, hl, hm, hz, hx, hcell, hwz⟩
  · simp at hx
  · simp only [Prod.mk.injEq, DataW.slice.injEq] at hx
    obtain ⟨⟨h1, h2⟩, _⟩ := hx
    have hz' : zs.length = c := by simpa using hz
    obtain ⟨s1, s2⟩ := seg_of_cells hl hz' hcell hwz
    have hks : zs.take l = ks := by
      have : Function.Injective (fun n : Int => (DataW.lit (.int .u8 n) : DataW H)) := fun a b h => by simpa using h
      exact ((List.map_inj_right (fun a b h => this h)).1 h1).symm
    rw [hks] at s1 s2
    refine ⟨some x, c, ?_, s2⟩
    have := World.var?_cell hg hv 0
    rw [Array.eq_one_of_toList hcs] at this
    rw [s1]
    simpa using this
end Go.Proofs.YbulkcswiDoor
