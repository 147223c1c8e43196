/-
  ReadBindLine: what it computes.
-/
import Derived.Test.YbulkcswiDoorBase
namespace Go.Proofs.YbulkcswiDoor
open Go.RowKit Go.Lib

def blank (x : UInt8) : Bool := x == 32 || x == 9
def trimB (s : ByteArray) : ByteArray := ⟨(s.data.toList.dropWhile blank).toArray⟩

theorem ext_of_list {s t : ByteArray} (h : s.data.toList = t.data.toList) : s = t := by
  apply ByteArray.ext; exact Array.toList_inj.1 h

theorem extract_end (s : ByteArray) (a : Nat) : (s.extract a s.size).data.toList = s.data.toList.drop a := by
  rw [extract_data, List.take_of_length_le]
  rw [List.length_drop, ← size_eq]
  exact Nat.le_refl _

theorem list_head (s : ByteArray) (h : 0 < s.size) : s.data.toList = s[0] :: (s.extract 1 s.size).data.toList := by
  have hl : 0 < s.data.toList.length := by simpa using h
  rw [extract_end]
  have := List.drop_eq_getElem_cons hl
  rw [List.drop_zero, Go.Proofs.byte_at' s 0 h] at this
  exact this

theorem trim_step (s : ByteArray) (h : 0 < s.size) (hb : blank s[0] = true) : trimB (s.extract 1 s.size) = trimB s := by
  apply ext_of_list
  unfold trimB
  rw [list_head s h]
  simp [hb]
theorem trim_stop (s : ByteArray) (h : 0 < s.size) (hb : blank s[0] = false) : trimB s = s := by
  apply ext_of_list
  unfold trimB
  rw [list_head s h]
  simp [hb]
theorem trim_nil (s : ByteArray) (h : s.size = 0) : trimB s = s := by
  rw [empty_of_size h]; rfl

theorem trim_size (s : ByteArray) : (trimB s).size ≤ s.size := by
  unfold trimB
  have := (List.dropWhile_suffix (p := blank) (l := s.data.toList)).length_le
  rw [size_eq, size_eq]
  exact this

theorem drop_while_of (p : UInt8 → Bool) : ∀ (l : List UInt8) (k : Nat), k ≤ l.length → (∀ j (h : j < l.length), j < k → p l[j] = true) → (∀ h : k < l.length, p l[k] = false) → l.dropWhile p = l.drop k
  | [], k, hk, _, _ => by simp
  | x :: l, 0, _, _, h2 => by
    have := h2 (by simp)
    simp at this
    simp [this]
  | x :: l, k + 1, hk, h1, h2 => by
    have hx := h1 0 (by simp) (by omega)
    simp at hx
    rw [List.dropWhile_cons_of_pos hx, List.drop_succ_cons]
    exact drop_while_of p l k (by simpa using hk) (fun j hj hjk => h1 (j + 1) (by simpa using hj) (by omega)) (fun h => h2 (by simpa using h))

theorem trim_at (s : ByteArray) (k : Nat) (hk : k ≤ s.size) (h1 : ∀ j (h : j < s.size), j < k → blank s[j] = true) (h2 : ∀ h : k < s.size, blank s[k] = false) : trimB s = s.extract k s.size := by
  apply ext_of_list
  rw [extract_end]
  unfold trimB
  show List.dropWhile blank s.data.toList = _
  apply drop_while_of
  · simpa using hk
  · intro j hj hjk
    have hj' : j < s.size := by simpa using hj
    rw [Go.Proofs.byte_at' s j hj']; exact h1 j hj' hjk
  · intro h
    have hj' : k < s.size := by simpa using h
    rw [Go.Proofs.byte_at' s k hj']; exact h2 hj'

theorem blank_true {x : UInt8} (h : ((x.toNat : Int) == 32) = true ∨ ((x.toNat : Int) == 9) = true) : blank x = true := by
  unfold blank
  rcases h with h | h
  · have : x = 32 := UInt8.toNat_inj.1 (by simp at h; simp; omega)
    simp [this]
  · have : x = 9 := UInt8.toNat_inj.1 (by simp at h; simp; omega)
    simp [this]
theorem blank_false {x : UInt8} (h : ((x.toNat : Int) == 32) = false) (h2 : ((x.toNat : Int) == 9) = false) : blank x = false := by
  unfold blank
  simp at h h2
  simp only [Bool.or_eq_false_iff, beq_eq_false_iff_ne]
  constructor
  · intro e; subst e; simp at h
  · intro e; subst e; simp at h2

theorem blank_cases {x : UInt8} (h : blank x = true) : ((x.toNat : Int) == 32) = true ∨ (((x.toNat : Int) == 32) = false ∧ ((x.toNat : Int) == 9) = true) := by
  unfold blank at h
  rcases Bool.or_eq_true_iff.1 h with h | h
  · left; have := eq_of_beq h; subst this; rfl
  · right; have := eq_of_beq h; subst this; exact ⟨rfl, rfl⟩
theorem not_blank {x : UInt8} (h : blank x = false) : ((x.toNat : Int) == 32) = false ∧ ((x.toNat : Int) == 9) = false := by
  constructor
  · rw [Bool.eq_false_iff]; intro e; rw [blank_true (.inl e)] at h; cases h
  · rw [Bool.eq_false_iff]; intro e; rw [blank_true (.inr e)] at h; cases h

def kBind : ByteArray := ⟨#[66, 105, 110, 100, 35]⟩
def kOld : ByteArray := ⟨#[98, 105, 110, 100, 32]⟩
def kValue : ByteArray := ⟨#[118, 97, 108, 117, 101, 61]⟩

/-- the variable g holds a slice of the bytes s -/
def Glob (w : World) (g : Nat) (s : ByteArray) : Prop := ∃ a c, w.cell? ⟨g, 0, none⟩ = some (.slice a s.size c) ∧ Seg w a s
structure Globs (w : World) : Prop where
  g0 : Glob w 0 kBind
  g1 : Glob w 1 kOld
  g2 : Glob w 2 kValue
theorem Glob.later {w w' : World} {g : Nat} {s : ByteArray} (h : Glob w g s) (hb : Below w.heap.size w w') : Glob w' g s := by
  obtain ⟨a, c, h1, h2⟩ := h
  exact ⟨a, c, cell_later hb h1, h2.later hb⟩
theorem Globs.later {w w' : World} (h : Globs w) (hb : Below w.heap.size w w') : Globs w' := ⟨h.g0.later hb, h.g1.later hb, h.g2.later hb⟩

/-- a line past the block -/
def outside (s : ByteArray) : Bool := if h : 0 < s.size then s[0] != 32 else false

/-- what ReadBindLine returns of the line s: the value lies at some address with the bytes behind value= -/
def BindRes (w : World) (s : ByteArray) (v : Value) : Prop :=
  (outside s = true ∧ v = .tuple #[.int .u8 0, .slice none 0 0]) ∨
  (outside s = false ∧ (preB (trimB s) kBind || preB (trimB s) kOld) = true ∧ v = .tuple #[.int .u8 2, .slice none 0 0]) ∨
  (outside s = false ∧ (preB (trimB s) kBind || preB (trimB s) kOld) = false ∧ preB (trimB s) kValue = true ∧ ∃ a c, v = .tuple #[.int .u8 3, .slice (some a) ((trimB s).size - 6) c] ∧ Seg w (some a) ((trimB s).extract 6 (trimB s).size)) ∨
  (outside s = false ∧ (preB (trimB s) kBind || preB (trimB s) kOld) = false ∧ preB (trimB s) kValue = false ∧ v = .tuple #[.int .u8 1, .slice none 0 0])

theorem bind_other {w : World} {s t : ByteArray} (ho : outside s = false) (ht : t = trimB s) (h0 : preB t kBind = false) (h1 : preB t kOld = false) (h2 : preB t kValue = false) : BindRes w s (.tuple #[.int .u8 1, .slice none 0 0]) := by
  subst ht; exact .inr (.inr (.inr ⟨ho, by rw [h0, h1]; rfl, h2, rfl⟩))
theorem bind_start {w : World} {s t : ByteArray} (ho : outside s = false) (ht : t = trimB s) (h0 : preB t kBind = true ∨ preB t kOld = true) : BindRes w s (.tuple #[.int .u8 2, .slice none 0 0]) := by
  subst ht; exact .inr (.inl ⟨ho, Bool.or_eq_true_iff.2 h0, rfl⟩)
theorem bind_value {w : World} {s t : ByteArray} {a : Option Addr} {c c' : Nat} (ho : outside s = false) (ht : t = trimB s) (h0 : preB t kBind = false) (h1 : preB t kOld = false) (h2 : preB t kValue = true) (hst : Seg w a t) (htc : t.size ≤ c) : BindRes w s (.tuple #[.int .u8 3, .slice (tailA a c 6) (t.size - 6) c']) := by
  subst ht
  have hz := preB_size h2
  rw [show kValue.size = 6 from rfl] at hz
  obtain ⟨b, o, e, _⟩ := hst (by omega)
  have hm := hst.mid c 6 (trimB s).size (Nat.le_refl _) htc
  subst e
  have hx : ∃ x, tailA (some ⟨b, o, none⟩) c 6 = some x := by unfold tailA; split <;> exact ⟨_, rfl⟩
  obtain ⟨x, hx⟩ := hx
  rw [hx] at hm ⊢
  exact .inr (.inr (.inl ⟨ho, by rw [h0, h1]; rfl, h2, x, c', rfl, hm⟩))

def lenOf : Value → Nat | .slice _ n _ => n | _ => 0

set_option maxHeartbeats 1000000 in
theorem read_outside (b o c : Nat) (s : ByteArray) (w : World) (h0 : 0 < s.size) (hc : w.cell? ⟨b, o, none⟩ = some (.int .u8 (s[0].toNat : Int))) (hb : ((s[0].toNat : Int) != 32) = true) :
    Calls Ybad.prog 8 #[.slice (some ⟨b, o, none⟩) s.size c] w fun e w' => e = .returned (.tuple #[.int .u8 0, .slice none 0 0]) ∧ w' = w := by
  go_enter Ybad.func8, Ybad.ntmps8
  go_wp2
  go_ret2
  exact ⟨rfl, rfl⟩

theorem outside_byte {s : ByteArray} (ho : outside s = false) (h0 : 0 < s.size) : ((s[0].toNat : Int) != 32) = false := by
  unfold outside at ho
  rw [dif_pos h0] at ho
  simp at ho
  rw [ho]; rfl

set_option maxHeartbeats 2000000 in
/-- behind the first test -/
theorem read_in (a : Option Addr) (c : Nat) (s : ByteArray) (w : World) (hs : s.size ≤ c) (hcm : c ≤ maxLen) (hseg : Seg w a s) (hg : Globs w) (ho : outside s = false) :
    Calls Ybad.prog 8 #[.slice a s.size c] w fun e w' => ∃ v, e = .returned v ∧ BindRes w s v ∧ ∃ q, w' = w.drewN q := by
  unfold maxLen at hcm
  obtain ⟨ga, gc, gl0, gs0⟩ := hg.g0
  obtain ⟨ga1, gc1, gl1, gs1⟩ := hg.g1
  obtain ⟨ga2, gc2, gl2, gs2⟩ := hg.g2
  rw [show kBind.size = 5 from rfl] at gl0
  rw [show kOld.size = 5 from rfl] at gl1
  rw [show kValue.size = 6 from rfl] at gl2
  have Ho : Hid (outside s = false) := ho
  clear hg
  by_cases h0 : 0 < s.size
  case' pos =>
    have hb := outside_byte ho h0
    clear ho
    obtain ⟨b, o, rfl, hc⟩ := hseg h0
    have hc0 := hc 0 h0
    rw [Nat.add_zero] at hc0
    go_enter Ybad.func8, Ybad.ntmps8
    go_wp2
    clear hc0 hb hc
  case' neg =>
    clear ho
    go_enter Ybad.func8, Ybad.ntmps8
    go_wp2
  all_goals
    go_loop [0] (fun v => ∃ a' t c', v = .slice a' t.size c' ∧ t.size ≤ c' ∧ c' ≤ 9223372036854775807 ∧ Seg w a' t ∧ Hid (trimB t = trimB s)) (fun v => lenOf v)
    case atStart => exact ⟨_, s, c, rfl, hs, by omega, hseg, rfl⟩
    case round =>
      obtain ⟨a', t, c', rfl, htc, hcm', hst, htr⟩ := hrel
      by_cases hx : ∃ h : 0 < t.size, blank t[0] = true
      · obtain ⟨ht, hbl⟩ := hx
        have Htr : Hid (trimB (t.extract 1 t.size) = trimB s) := (trim_step t ht hbl).trans htr
        have hsz : (t.extract 1 t.size).size = t.size - 1 := by simp [ByteArray.size_extract]
        have hs1 := hst.mid c' 1 t.size (Nat.le_refl _) htc
        have hcs := blank_cases hbl
        clear hbl
        obtain ⟨b', o', rfl, hct⟩ := hst ht
        have hct0 := hct 0 ht
        rw [Nat.add_zero] at hct0
        have hsl := fun w => slice_tail w (some ⟨b', o', none⟩) t.size c' 1 (by omega)
        rw [show ((1 : Nat) : Int) = 1 from rfl] at hsl
        rcases hcs with h1 | ⟨h1, h2⟩
        all_goals
          go_wp2
          go_round
          case rel => exact ⟨_, t.extract 1 t.size, c' - 1, by rw [hsz], by omega, by omega, hs1, Htr⟩
          case measure => simp [lenOf]; omega
      · have Hfin : Hid (t = trimB s) := by
          by_cases ht : 0 < t.size
          · exact (trim_stop t ht (by rw [Bool.eq_false_iff]; intro e; exact hx ⟨ht, e⟩)).symm.trans htr
          · exact (trim_nil t (by omega)).symm.trans htr
        clear htr
        by_cases ht : 0 < t.size
        case' pos =>
          have hnb := not_blank (x := t[0]) (by rw [Bool.eq_false_iff]; intro e; exact hx ⟨ht, e⟩)
          obtain ⟨hn1, hn2⟩ := hnb
          obtain ⟨b', o', rfl, hct⟩ := hst ht
          have hct0 := hct 0 ht
          rw [Nat.add_zero] at hct0
          clear hx
          go_wp2_with fail
        case' neg =>
          clear hx
          go_wp2_with fail
        all_goals
          refine (hasPrefix_any _ _ t kBind _ _ _ _ rfl rfl _ htc hst gs0).mono ?_
          rintro e w' ⟨rfl, rfl⟩
          cases hp0 : preB t kBind
          · go_wp2_with fail
            refine (hasPrefix_any _ _ t kOld _ _ _ _ rfl rfl _ htc hst gs1).mono ?_
            rintro e w' ⟨rfl, rfl⟩
            cases hp1 : preB t kOld
            · go_wp2_with fail
              refine (hasPrefix_any _ _ t kValue _ _ _ _ rfl rfl _ htc hst gs2).mono ?_
              rintro e w' ⟨rfl, rfl⟩
              cases hp2 : preB t kValue
              · go_wp2_with fail
                go_ret2
                exact ⟨.tuple #[.int .u8 1, .slice none 0 0], rfl, bind_other Ho.out Hfin.out hp0 hp1 hp2, 0, rfl⟩
              · have hsz := preB_size hp2
                rw [show kValue.size = 6 from rfl] at hsz
                have hv := fun c0 => bind_value (c' := c0) Ho.out Hfin.out hp0 hp1 hp2 hst htc
                have hsl := fun w a => slice_tail w a t.size c' 6 hsz
                rw [show ((6 : Nat) : Int) = 6 from rfl] at hsl
                go_wp2_with fail
                go_quiet (fail)
                go_wp2_with fail
                go_ret2
                exact ⟨.tuple #[.int .u8 3, .slice (tailA _ c' 6) (t.size - 6) (c' - 6)], rfl, hv _, _, rfl⟩
            · go_wp2_with fail
              go_ret2
              exact ⟨.tuple #[.int .u8 2, .slice none 0 0], rfl, bind_start Ho.out Hfin.out (.inr hp1), 0, rfl⟩
          · go_wp2_with fail
            go_ret2
            exact ⟨.tuple #[.int .u8 2, .slice none 0 0], rfl, bind_start Ho.out Hfin.out (.inl hp0), 0, rfl⟩

/-- ReadBindLine, whole. -/
theorem read_any (a : Option Addr) (c : Nat) (s : ByteArray) (w : World) (hs : s.size ≤ c) (hcm : c ≤ maxLen) (hseg : Seg w a s) (hg : Globs w) :
    Calls Ybad.prog 8 #[.slice a s.size c] w fun e w' => ∃ v, e = .returned v ∧ BindRes w s v ∧ ∃ q, w' = w.drewN q := by
  cases ho : outside s
  · exact read_in a c s w hs hcm hseg hg ho
  · have h0 : 0 < s.size := by
      by_cases h : 0 < s.size
      · exact h
      · unfold outside at ho; rw [dif_neg h] at ho; cases ho
    obtain ⟨b, o, rfl, hc⟩ := hseg h0
    have hc0 := hc 0 h0
    rw [Nat.add_zero] at hc0
    have hb : ((s[0].toNat : Int) != 32) = true := by
      unfold outside at ho
      rw [dif_pos h0] at ho
      rw [bne_iff_ne]
      intro e
      have : s[0] = 32 := UInt8.toNat_inj.1 (by simp; omega)
      rw [this] at ho
      cases ho
    refine (read_outside b o c s w h0 hc0 hb).mono ?_
    rintro e w' ⟨rfl, rfl⟩
    exact ⟨_, rfl, .inl ⟨ho, rfl⟩, 0, rfl⟩
end Go.Proofs.YbulkcswiDoor
