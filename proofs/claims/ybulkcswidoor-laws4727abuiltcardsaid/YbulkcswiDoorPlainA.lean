/-
  LawS4727ABuilt: the plain law: what a line built of a first byte, blanks, a prefix and a tail reads as.
-/
import Derived.Test.YbulkcswiDoorBind
namespace Go.Proofs.YbulkcswiDoor
open Go.RowKit Go.Lib

def pfx (k : Nat) : ByteArray := match k with
  | 0 => kBind
  | 1 => kOld
  | 2 => kValue
  | 3 => ⟨#[86, 97, 108, 117, 101, 61]⟩
  | 4 => ⟨#[98, 105, 110, 100]⟩
  | 5 => ⟨#[118, 65, 108, 117, 101, 61]⟩
  | _ => ⟨#[35]⟩

def Blk (l : List UInt8) : Prop := ∀ x ∈ l, blank x = true
theorem Blk.snoc {l : List UInt8} (h : Blk l) (y : UInt8) (hy : blank y = true) : Blk (l ++ [y]) := fun x hx => by
  rcases List.mem_append.1 hx with hx | hx
  · exact h x hx
  · have : x = y := by simpa using hx
    rw [this]; exact hy
def firstB (out : Bool) : UInt8 := if out then 120 else 32
def NoSp (l : List UInt8) : Prop := ∀ x ∈ l, x ≠ 32

theorem pfx_size (m : Nat) (hm : m < 7) : (pfx m).size ≤ 6 := by
  match m, hm with
  | 0, _ => decide
  | 1, _ => decide
  | 2, _ => decide
  | 3, _ => decide
  | 4, _ => decide
  | 5, _ => decide
  | 6, _ => decide

theorem dropBlk (p : UInt8 → Bool) : ∀ (l m : List UInt8), (∀ x ∈ l, p x = true) → (l ++ m).dropWhile p = m.dropWhile p
  | [], m, _ => rfl
  | x :: l, m, h => by
    rw [List.cons_append, List.dropWhile_cons_of_pos (h x (by simp))]
    exact dropBlk p l m (fun y hy => h y (by simp [hy]))

theorem outside_of (L : List UInt8) (F : UInt8) (R : List UInt8) (hL : L = F :: R) : outside ⟨L.toArray⟩ = (F != 32) := by
  subst hL
  unfold outside
  rw [dif_pos (by simp [ByteArray.size])]
  rfl

theorem trim_of (L F R : List UInt8) (hL : L = F ++ R) (hb : Blk F) (x : UInt8) (R' : List UInt8) (hR : R = x :: R') (hx : blank x = false) : trimB ⟨L.toArray⟩ = ⟨R.toArray⟩ := by
  apply ext_of_list
  unfold trimB
  subst hL
  simp only [dropBlk blank F R hb]
  subst hR
  simp [hx]

theorem pre_list (R p : List UInt8) : preB ⟨R.toArray⟩ ⟨p.toArray⟩ = p.isPrefixOf R := rfl

theorem pfx_head (m : Nat) (hm : m < 7) : ∃ x R, (pfx m).data.toList = x :: R ∧ blank x = false := by
  match m, hm with
  | 0, _ => exact ⟨66, [105, 110, 100, 35], rfl, rfl⟩
  | 1, _ => exact ⟨98, [105, 110, 100, 32], rfl, rfl⟩
  | 2, _ => exact ⟨118, [97, 108, 117, 101, 61], rfl, rfl⟩
  | 3, _ => exact ⟨86, [97, 108, 117, 101, 61], rfl, rfl⟩
  | 4, _ => exact ⟨98, [105, 110, 100], rfl, rfl⟩
  | 5, _ => exact ⟨118, [65, 108, 117, 101, 61], rfl, rfl⟩
  | 6, _ => exact ⟨35, [], rfl, rfl⟩

/-- which of the three heads the rest of the line bears -/
theorem heads (m : Nat) (hm : m < 7) (l : List UInt8) (hl : NoSp l) :
    preB ⟨((pfx m).data.toList ++ l).toArray⟩ kBind = decide (m = 0) ∧ preB ⟨((pfx m).data.toList ++ l).toArray⟩ kOld = decide (m = 1) ∧ preB ⟨((pfx m).data.toList ++ l).toArray⟩ kValue = decide (m = 2) := by
  match m, hm with
  | 0, _ => exact ⟨by simp [preB, pfx, kBind, List.isPrefixOf], by simp [preB, pfx, kBind, kOld, List.isPrefixOf], by simp [preB, pfx, kBind, kValue, List.isPrefixOf]⟩
  | 1, _ => exact ⟨by simp [preB, pfx, kBind, kOld, List.isPrefixOf], by simp [preB, pfx, kOld, List.isPrefixOf], by simp [preB, pfx, kOld, kValue, List.isPrefixOf]⟩
  | 2, _ => exact ⟨by simp [preB, pfx, kBind, kValue, List.isPrefixOf], by simp [preB, pfx, kOld, kValue, List.isPrefixOf], by simp [preB, pfx, kValue, List.isPrefixOf]⟩
  | 3, _ => exact ⟨by simp [preB, pfx, kBind, List.isPrefixOf], by simp [preB, pfx, kOld, List.isPrefixOf], by simp [preB, pfx, kValue, List.isPrefixOf]⟩
  | 4, _ =>
    refine ⟨by simp [preB, pfx, kBind, List.isPrefixOf], ?_, by simp [preB, pfx, kValue, List.isPrefixOf]⟩
    cases l with
    | nil => rfl
    | cons x l =>
      have : x ≠ 32 := hl x (by simp)
      simp [preB, pfx, kOld, List.isPrefixOf]
      exact fun e => this e.symm
  | 5, _ => exact ⟨by simp [preB, pfx, kBind, List.isPrefixOf], by simp [preB, pfx, kOld, List.isPrefixOf], by simp [preB, pfx, kValue, List.isPrefixOf]⟩
  | 6, _ => exact ⟨by simp [preB, pfx, kBind, List.isPrefixOf], by simp [preB, pfx, kOld, List.isPrefixOf], by simp [preB, pfx, kValue, List.isPrefixOf]⟩

theorem drop6 (l : List UInt8) : (ByteArray.mk ((pfx 2).data.toList ++ l).toArray).extract 6 (ByteArray.mk ((pfx 2).data.toList ++ l).toArray).size = ⟨l.toArray⟩ := by
  apply ext_of_list
  rw [extract_end]
  simp [pfx, kValue]

theorem built_bind {w : World} {out : Bool} {F : UInt8} {bl l L : List UInt8} {m : Nat} {v : Value} (hF : F = firstB out) (hb : Blk bl) (hl : NoSp l) (hm : m < 7) (hL : L = F :: bl ++ (pfx m).data.toList ++ l) (hr : BindRes w ⟨L.toArray⟩ v) :
    (out = true → v = .tuple #[.int .u8 0, .slice none 0 0]) ∧
    (out = false → ((m = 0 ∨ m = 1) ∧ v = .tuple #[.int .u8 2, .slice none 0 0]) ∨ (m = 2 ∧ ∃ a c, v = .tuple #[.int .u8 3, .slice (some a) l.length c] ∧ Seg w (some a) ⟨l.toArray⟩) ∨ (3 ≤ m ∧ v = .tuple #[.int .u8 1, .slice none 0 0])) := by
  have ho : outside ⟨L.toArray⟩ = (F != 32) := outside_of L F (bl ++ (pfx m).data.toList ++ l) (by rw [hL]; simp)
  cases out
  · refine ⟨fun h => (by cases h), fun _ => ?_⟩
    have hF' : F = 32 := hF
    subst hF'
    have ho' : outside ⟨L.toArray⟩ = false := ho
    obtain ⟨x, R, hx, hxb⟩ := pfx_head m hm
    have ht : trimB ⟨L.toArray⟩ = ⟨((pfx m).data.toList ++ l).toArray⟩ := trim_of L (32 :: bl) ((pfx m).data.toList ++ l) (by rw [hL]; simp) (fun y hy => by
      rcases List.mem_cons.1 hy with h | h
      · rw [h]; rfl
      · exact hb y h) x (R ++ l) (by rw [hx]; rfl) hxb
    obtain ⟨h0, h1, h2⟩ := heads m hm l hl
    unfold BindRes at hr
    rw [ht, h0, h1, h2] at hr
    rcases hr with ⟨h, _⟩ | ⟨_, h, e⟩ | ⟨_, h, h', a, c, e, hs⟩ | ⟨_, h, h', e⟩
    · rw [ho'] at h; cases h
    · exact .inl ⟨by simpa using h, e⟩
    · have hm2 : m = 2 := by simpa using h'
      subst hm2
      refine .inr (.inl ⟨rfl, a, c, ?_, ?_⟩)
      · rw [e]
        have : (ByteArray.mk ((pfx 2).data.toList ++ l).toArray).size - 6 = l.length := by simp [ByteArray.size, pfx, kValue]
        rw [this]
      · rw [drop6] at hs; exact hs
    · refine .inr (.inr ⟨?_, e⟩)
      have : ¬ m = 2 := by simpa using h'
      have h3 : ¬ (m = 0 ∨ m = 1) := by simpa using h
      omega
  · refine ⟨fun _ => ?_, fun h => by cases h⟩
    have hF' : F = 120 := hF
    subst hF'
    have ho' : outside ⟨L.toArray⟩ = true := ho
    rcases hr with ⟨_, e⟩ | ⟨h, _⟩ | ⟨h, _⟩ | ⟨h, _⟩
    · exact e
    all_goals rw [ho'] at h; cases h

theorem built_cases {w : World} {out : Bool} {F : UInt8} {bl l L : List UInt8} {m : Nat} {kk : Int} {av : Option Addr} {nv cv : Nat} (hF : F = firstB out) (hb : Blk bl) (hl : NoSp l) (hm : m < 7) (hL : L = F :: bl ++ (pfx m).data.toList ++ l)
    (hr : BindRes w ⟨L.toArray⟩ (.tuple #[.int .u8 kk, .slice av nv cv])) :
    (out = true ∧ kk = 0 ∧ av = none ∧ nv = 0 ∧ cv = 0) ∨ (out = false ∧ (m = 0 ∨ m = 1) ∧ kk = 2 ∧ av = none ∧ nv = 0 ∧ cv = 0) ∨
    (out = false ∧ m = 2 ∧ kk = 3 ∧ nv = l.length ∧ ∃ x, av = some x ∧ Seg w (some x) ⟨l.toArray⟩) ∨ (out = false ∧ 3 ≤ m ∧ kk = 1 ∧ av = none ∧ nv = 0 ∧ cv = 0) := by
  obtain ⟨h1, h2⟩ := built_bind hF hb hl hm hL hr
  cases out
  · rcases h2 rfl with ⟨h, e⟩ | ⟨h, x, c, e, hs⟩ | ⟨h, e⟩
    · exact .inr (.inl ⟨rfl, h, by simpa using e⟩)
    · simp at e
      obtain ⟨rfl, rfl, rfl, rfl⟩ := e
      exact .inr (.inr (.inl ⟨rfl, h, rfl, rfl, x, rfl, hs⟩))
    · exact .inr (.inr (.inr ⟨rfl, h, by simpa using e⟩))
  · exact .inl ⟨rfl, by simpa using h1 rfl⟩
theorem bind_shape {w : World} {s : ByteArray} {v : Value} (hr : BindRes w s v) : ∃ k av nv cv, v = .tuple #[.int .u8 k, .slice av nv cv] := by
  rcases hr with ⟨_, rfl⟩ | ⟨_, _, rfl⟩ | ⟨_, _, _, x, y, rfl, _⟩ | ⟨_, _, _, rfl⟩ <;> exact ⟨_, _, _, _, rfl⟩
theorem read_at (a : Option Addr) (n c : Nat) (s : ByteArray) (w : World) (hn : s.size = n) (hs : s.size ≤ c) (hcm : c ≤ maxLen) (hseg : Seg w a s) (hg : Globs w) :
    Calls Ybad.prog 8 #[.slice a n c] w fun e w' => ∃ v, e = .returned v ∧ BindRes w s v ∧ ∃ q, w' = w.drewN q := by
  subst hn; exact read_any a c s w hs hcm hseg hg
end Go.Proofs.YbulkcswiDoor
