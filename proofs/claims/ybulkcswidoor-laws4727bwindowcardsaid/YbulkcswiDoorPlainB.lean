/-
  The plain law of cut: where the part ends. No Go in sight.
-/
import Derived.Test.YbulkcswiDoorRK
namespace Go.Proofs.YbulkcswiDoor
open Go.RowKit Go.Lib

def kEnd : ByteArray := ⟨#[69, 78, 68, 32, 79, 70, 32, 83, 84, 77, 84]⟩
def endL : List UInt8 := kEnd.data.toList

/-- an END OF STMT line starts at p: where the part behind it ends -/
def hit (L : List UInt8) (p : Nat) : Option Nat :=
  if (p = 0 ∨ L[p - 1]? = some 10) ∧ occAt L endL p = true then
    (if L[p + 11]? = some 10 then some (p + 12) else if L[p + 11]? = some 13 ∧ L[p + 12]? = some 10 then some (p + 13) else none)
  else none

/-- the last hit among the places from 'f' on and below k -/
def search (L : List UInt8) (f : Nat) : Nat → Option Nat
  | 0 => none
  | k + 1 => if f ≤ k then (match hit L k with | some r => some r | none => search L f k) else none

/-- where the part ends -/
def cutOf (o : Option Nat) (d : Int) : Int := match o with
  | some r => (r : Int)
  | none => d
def cutN (L : List UInt8) : Int := cutOf (search L (L.length - 65536) (L.length - 10)) (lastAt L 10 L.length + 1)

theorem search_hit (L : List UInt8) (f k r : Nat) (hf : f ≤ k) (h : hit L k = some r) : search L f (k + 1) = some r := by
  rw [search, if_pos hf, h]
theorem search_miss (L : List UInt8) (f k : Nat) (h : hit L k = none) : search L f (k + 1) = search L f k := by
  by_cases hf : f ≤ k
  · rw [search, if_pos hf, h]
  · rw [search, if_neg hf]
    cases k with
    | zero => rfl
    | succ k => rw [search, if_neg (by omega)]
theorem search_below (L : List UInt8) (f : Nat) : ∀ k, k ≤ f → search L f k = none
  | 0, _ => rfl
  | k + 1, h => by rw [search, if_neg (by omega)]

/-- no hit from j on and below k -/
theorem search_skip (L : List UInt8) (f : Nat) : ∀ (d j : Nat), (∀ p, j ≤ p → p < j + d → hit L p = none) → search L f (j + d) = search L f j
  | 0, j, _ => rfl
  | d + 1, j, h => by
    rw [← Nat.add_assoc, search_miss L f (j + d) (h _ (by omega) (by omega))]
    exact search_skip L f d j (fun p h1 h2 => h p h1 (by omega))

theorem hit_none_of_occ {L : List UInt8} {p : Nat} (h : occAt L endL p = false) : hit L p = none := by
  unfold hit; rw [if_neg]; rintro ⟨_, h'⟩; rw [h] at h'; cases h'

theorem hit_le {L : List UInt8} {p r : Nat} (h : hit L p = some r) : r ≤ L.length ∧ 1 ≤ r ∧ L[r - 1]? = some 10 := by
  unfold hit at h
  split at h
  · split at h
    · rename_i h1
      obtain rfl := Option.some.inj h
      obtain ⟨h2, _⟩ := List.getElem?_eq_some_iff.1 h1
      exact ⟨by omega, by omega, h1⟩
    · split at h
      · rename_i h1
        obtain rfl := Option.some.inj h
        obtain ⟨h2, _⟩ := List.getElem?_eq_some_iff.1 h1.2
        exact ⟨by omega, by omega, h1.2⟩
      · cases h
  · cases h

theorem search_le {L : List UInt8} {f : Nat} : ∀ {k r : Nat}, search L f k = some r → r ≤ L.length ∧ 1 ≤ r ∧ L[r - 1]? = some 10
  | 0, r, h => by cases h
  | k + 1, r, h => by
    rw [search] at h
    split at h
    · cases hh : hit L k with
      | none => rw [hh] at h; exact search_le h
      | some r' => rw [hh] at h; obtain rfl := Option.some.inj h; exact hit_le hh
    · cases h

theorem lastAt_spec (L : List UInt8) (x : UInt8) : ∀ k, lastAt L x k = -1 ∨ ∃ i : Nat, i < k ∧ lastAt L x k = i ∧ L[i]? = some x
  | 0 => .inl rfl
  | k + 1 => by
    rw [lastAt]
    split
    · rename_i h; exact .inr ⟨k, by omega, rfl, h⟩
    · rcases lastAt_spec L x k with h | ⟨i, hi, h, hx⟩
      · exact .inl h
      · exact .inr ⟨i, by omega, h, hx⟩

/-- the shape of the answer -/
theorem cutN_shape (L : List UInt8) : ∃ r : Nat, cutN L = r ∧ r ≤ L.length ∧ (r = 0 ∨ L[r - 1]? = some 10) := by
  unfold cutN
  cases h : search L (L.length - 65536) (L.length - 10) with
  | some r => obtain ⟨h1, h2, h3⟩ := search_le h; exact ⟨r, rfl, h1, .inr h3⟩
  | none =>
    rcases lastAt_spec L 10 L.length with h | ⟨i, hi, h, hx⟩
    · exact ⟨0, by simp only [h]; rfl, by omega, .inl rfl⟩
    · exact ⟨i + 1, by simp only [h, cutOf]; omega, by omega, .inr (by simpa using hx)⟩

/-- END OF STMT does not lie across itself -/
theorem occ_get {L : List UInt8} {p : Nat} (hp : p + 11 ≤ L.length) (h : occAt L endL p = true) (d : Nat) (hd : d < 11) : L[p + d]? = endL[d]? := by
  have e : endL.length = 11 := rfl
  rw [RK.occAt_win _ _ _ (by omega)] at h
  have h2 : RK.win L p 11 = endL := eq_of_beq h
  rw [← h2]
  unfold RK.win
  rw [List.getElem?_take_of_lt hd, List.getElem?_drop]

theorem occ_apart {L : List UInt8} {p i : Nat} (hi : i + 11 ≤ L.length) (h1 : occAt L endL p = true) (h2 : occAt L endL i = true) (hpi : p < i) : p + 11 ≤ i := by
  by_cases hc : p + 11 ≤ i
  · exact hc
  · have a := occ_get (by omega) h1 (i - p) (by omega)
    have b := occ_get hi h2 0 (by omega)
    rw [show p + (i - p) = i + 0 by omega, b] at a
    have hd : i - p = 1 ∨ i - p = 2 ∨ i - p = 3 ∨ i - p = 4 ∨ i - p = 5 ∨ i - p = 6 ∨ i - p = 7 ∨ i - p = 8 ∨ i - p = 9 ∨ i - p = 10 := by omega
    rcases hd with e | e | e | e | e | e | e | e | e | e <;> (rw [e] at a; exact absurd a (by decide))

theorem win_part (L : List UInt8) (f e j : Nat) (hj : f + j + 11 ≤ e) (he : e ≤ L.length) : occAt ((L.drop f).take (e - f)) endL j = occAt L endL (f + j) := by
  have e11 : endL.length = 11 := rfl
  rw [RK.occAt_win _ _ _ (by simp; omega), RK.occAt_win _ _ _ (by omega)]
  congr 1
  unfold RK.win
  rw [e11, List.drop_take, List.drop_drop, List.take_take]
  congr 1
  omega

/-- no instance between f and e: the search finds nothing there -/
theorem search_of_none (L : List UInt8) (f e : Nat) (he : e ≤ L.length) (h : Lib.lastIndex ((L.drop f).take (e - f)) endL < 0) : search L f (e - 10) = none := by
  have e11 : endL.length = 11 := rfl
  have hlen : ((L.drop f).take (e - f)).length = e - f := by simp; omega
  by_cases hs : f + 11 ≤ e
  · unfold Lib.lastIndex at h
    rw [if_pos (by omega)] at h
    rcases lastOcc_spec ((L.drop f).take (e - f)) endL (((L.drop f).take (e - f)).length - endL.length + 1) with ⟨_, hn⟩ | ⟨i, _, hi, _⟩
    · have := search_skip L f (e - 10 - f) f (fun p h1 h2 => hit_none_of_occ (by
        have hp := hn (p - f) (by omega)
        rw [win_part L f e (p - f) (by omega) he, show f + (p - f) = p by omega] at hp
        exact hp))
      rw [show f + (e - 10 - f) = e - 10 by omega] at this
      rw [this]
      exact search_below L f f (Nat.le_refl _)
    · rw [hi] at h; omega
  · exact search_below L f (e - 10) (by omega)

/-- the last instance between f and e, at f + i: the search goes on from there -/
theorem search_of_some (L : List UInt8) (f e : Nat) (he : e ≤ L.length) (h : 0 ≤ Lib.lastIndex ((L.drop f).take (e - f)) endL) :
    ∃ i : Nat, Lib.lastIndex ((L.drop f).take (e - f)) endL = i ∧ f + i + 11 ≤ e ∧ occAt L endL (f + i) = true ∧ search L f (e - 10) = search L f (f + i + 1) := by
  have e11 : endL.length = 11 := rfl
  have hlen : ((L.drop f).take (e - f)).length = e - f := by simp; omega
  by_cases hs : f + 11 ≤ e
  · have hx : Lib.lastIndex ((L.drop f).take (e - f)) endL = lastOcc ((L.drop f).take (e - f)) endL (((L.drop f).take (e - f)).length - endL.length + 1) := by
      unfold Lib.lastIndex
      rw [if_pos (by omega)]
    rw [hx] at h ⊢
    rcases lastOcc_spec ((L.drop f).take (e - f)) endL (((L.drop f).take (e - f)).length - endL.length + 1) with ⟨h1, _⟩ | ⟨i, hik, hi, hoc, hn⟩
    · rw [h1] at h; omega
    · refine ⟨i, hi, by omega, ?_, ?_⟩
      · rw [← win_part L f e i (by omega) he]; exact hoc
      · have := search_skip L f (e - 10 - (f + i + 1)) (f + i + 1) (fun p h1 h2 => hit_none_of_occ (by
          have hp := hn (p - f) (by omega) (by omega)
          rw [win_part L f e (p - f) (by omega) he, show f + (p - f) = p by omega] at hp
          exact hp))
        rw [show f + i + 1 + (e - 10 - (f + i + 1)) = e - 10 by omega] at this
        exact this
  · unfold Lib.lastIndex at h
    rw [if_neg (by omega)] at h
    omega

/-- behind an instance that is no line: from its place on down -/
theorem search_next (L : List UInt8) (f i : Nat) (hi : i + 11 ≤ L.length) (ho : occAt L endL i = true) (hh : hit L i = none) : search L f (i + 1) = search L f (i - 10) := by
  rw [search_miss L f i hh]
  have := search_skip L f (i - (i - 10)) (i - 10) (fun p h1 h2 => hit_none_of_occ (by
    rw [Bool.eq_false_iff]
    intro hp
    have := occ_apart hi hp ho (by omega)
    omega))
  rw [show i - 10 + (i - (i - 10)) = i by omega] at this
  exact this
end Go.Proofs.YbulkcswiDoor
