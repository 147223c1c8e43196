/-
  LawS4734AKeep: the plain law.
-/
import Derived.Test.YbulkctacKeepFn2
namespace Go.Proofs.Ybulkctac
open Go.RowKit
open Go.Maps (Keyed)
set_option linter.unusedVariables false

/-- what was kept: the member, the message's sender, number and kind; the unacked's block, the message's -/
structure Ent where
  to : Nat
  fr : Nat
  sq : Nat
  kd : Nat
  g : Nat
  m : Nat

abbrev Key := Nat × Nat × Nat × Nat
def Ent.key (e : Ent) : Key := (e.to, e.fr, e.sq, e.kd)
def okK (x : Key) : Prop := x.1 < 3 ∧ x.2.1 < 3 ∧ x.2.2.1 < 3 ∧ x.2.2.2 < 4

def klS (x : Key) : Lit := klit (nm x.1) (nm x.2.1) x.2.2.1 x.2.2.2
def ktS (t : Nat) : Lit := .string (nm t).data.toList

theorem nm_size (x : Nat) : (nm x).size ≤ maxLen := by
  have : (nm x).size = 1 := rfl
  rw [this]; decide
theorem nm_inj {x y : Nat} (hx : x < 3) (hy : y < 3) (h : nm x = nm y) : x = y := by
  have hx3 : x = 0 ∨ x = 1 ∨ x = 2 := by omega
  have hy3 : y = 0 ∨ y = 1 ∨ y = 2 := by omega
  rcases hx3 with rfl | rfl | rfl <;> rcases hy3 with rfl | rfl | rfl <;> first | rfl | exact absurd h (by decide)
theorem nm_eq (x y : Nat) (hx : x < 3) (hy : y < 3) : (nm x = nm y) = (x = y) := propext ⟨nm_inj hx hy, fun h => by rw [h]⟩

theorem wf_sq {n : Nat} (h : n < 3) : (Lit.int .u64 (n : Int)).wf = true := by
  have : n = 0 ∨ n = 1 ∨ n = 2 := by omega
  rcases this with rfl | rfl | rfl <;> decide
theorem wf_kd {n : Nat} (h : n < 4) : (Lit.int .u8 (n : Int)).wf = true := by
  have : n = 0 ∨ n = 1 ∨ n = 2 ∨ n = 3 := by omega
  rcases this with rfl | rfl | rfl | rfl <;> decide

theorem keyS {x : Key} (h : okK x) : keyOf Yba.prog 59 (.agg (keyV (nm x.1) (nm x.2.1) x.2.2.1 x.2.2.2)) = some (klS x) :=
  key59 _ _ _ _ (nm_size _) (nm_size _) (wf_sq h.2.2.1) (wf_kd h.2.2.2)
theorem klS_inj {x y : Key} (hx : okK x) (hy : okK y) (h : klS x = klS y) : x = y := by
  obtain ⟨h1, h2, h3, h4⟩ := klit_inj (nm_size _) (nm_size _) (wf_sq hx.2.2.1) (wf_kd hx.2.2.2) (nm_size _) (nm_size _) (wf_sq hy.2.2.1) (wf_kd hy.2.2.2) h
  have e1 := nm_inj hx.1 hy.1 h1
  have e2 := nm_inj hx.2.1 hy.2.1 h2
  have e3 := Int.ofNat_inj.1 h3
  have e4 := Int.ofNat_inj.1 h4
  obtain ⟨a, b, c, d⟩ := x
  obtain ⟨a', b', c', d'⟩ := y
  simp only at e1 e2 e3 e4
  rw [e1, e2, e3, e4]
theorem ktS_inj {t t' : Nat} (h : t < 3) (h' : t' < 3) (e : ktS t = ktS t') : t = t' := by
  have := law9.inj (key9 (nm t) (nm_size _)) ((show Lit.string (nm t).data.toList = Lit.string (nm t').data.toList from e) ▸ key9 (nm t') (nm_size _))
  exact nm_inj h h' (by simpa using this)

/-- how many differ -/
def cntL {α : Type} [DecidableEq α] : List α → Nat
  | [] => 0
  | x :: l => (if x ∈ l then 0 else 1) + cntL l

theorem cntL_snoc {α : Type} [DecidableEq α] (x : α) : ∀ l : List α, cntL (l ++ [x]) = (if x ∈ l then cntL l else cntL l + 1)
  | [] => by simp [cntL]
  | y :: l => by
    have ih := cntL_snoc x l
    simp only [List.cons_append, cntL, List.mem_append, List.mem_cons, ih]
    by_cases h1 : x ∈ l
    · by_cases h2 : y ∈ l
      · simp [h1, h2]
      · have : y ≠ x := fun e => h2 (e ▸ h1)
        simp [h1, h2, this]
    · by_cases h2 : y ∈ l
      · have : x ≠ y := fun e => h1 (e ▸ h2)
        simp [h1, h2, this]
      · by_cases h3 : y = x
        · subst h3; simp [h1]; omega
        · have : x ≠ y := fun e => h3 e.symm
          simp [h1, h2, h3, this]; omega

def lastE (z : List Ent) (x : Key) : Option Nat := ((z.filter (fun e => e.key == x)).getLast?).map Ent.g
def rowsE (z : List Ent) (t : Nat) : List Nat := (z.filter (fun e => e.to == t)).map Ent.g
def keysE (z : List Ent) : List Key := z.map Ent.key
def tosE (z : List Ent) : List Nat := z.map Ent.to

theorem lastE_snoc_same (z : List Ent) (e : Ent) : lastE (z ++ [e]) e.key = some e.g := by
  simp [lastE, List.filter_append]
theorem lastE_snoc_other (z : List Ent) (e : Ent) {x : Key} (h : e.key ≠ x) : lastE (z ++ [e]) x = lastE z x := by
  simp [lastE, List.filter_append, h]
theorem lastE_isSome (z : List Ent) (x : Key) : (lastE z x).isSome = decide (x ∈ keysE z) := by
  have : (lastE z x).isSome = !(z.filter (fun e => e.key == x)).isEmpty := by
    unfold lastE
    cases z.filter (fun e => e.key == x) with
    | nil => rfl
    | cons a l => simp [List.getLast?_cons]
  rw [this]
  by_cases h : x ∈ keysE z
  · obtain ⟨e, he, hx⟩ := List.mem_map.1 h
    have : e ∈ z.filter (fun e => e.key == x) := List.mem_filter.2 ⟨he, by simp [hx]⟩
    simp only [h, decide_true]
    cases hz : z.filter (fun e => e.key == x) with
    | nil => rw [hz] at this; simp at this
    | cons a l => rfl
  · simp only [h, decide_false]
    have : z.filter (fun e => e.key == x) = [] := List.filter_eq_nil_iff.2 fun e he => by
      simp only [beq_iff_eq]
      exact fun hx => h (List.mem_map.2 ⟨e, he, hx⟩)
    rw [this]; rfl
theorem lastE_at {a c : List Ent} {e : Ent} (h : e.key ∉ keysE c) : lastE (a ++ e :: c) e.key = some e.g := by
  have : c.filter (fun x => x.key == e.key) = [] := List.filter_eq_nil_iff.2 fun x hx => by
    simp only [beq_iff_eq]
    exact fun hk => h (List.mem_map.2 ⟨x, hx, hk⟩)
  simp [lastE, List.filter_append, this]

theorem rowsE_snoc_same (z : List Ent) (e : Ent) : rowsE (z ++ [e]) e.to = rowsE z e.to ++ [e.g] := by simp [rowsE, List.filter_append]
theorem rowsE_snoc_other (z : List Ent) (e : Ent) {t : Nat} (h : e.to ≠ t) : rowsE (z ++ [e]) t = rowsE z t := by simp [rowsE, List.filter_append, h]
theorem rowsE_length (z : List Ent) (t : Nat) : (rowsE z t).length = (tosE z).count t := by
  induction z with
  | nil => rfl
  | cons e z ih =>
    simp only [rowsE, tosE, List.map_cons, List.filter_cons, List.count_cons] at ih ⊢
    by_cases h : e.to = t
    · simp [h, ih]
    · simp [h, ih]
theorem rowsE_cons (e : Ent) (c : List Ent) : rowsE (e :: c) e.to = e.g :: rowsE c e.to := by simp [rowsE]
theorem rowsE_append (a c : List Ent) (t : Nat) : rowsE (a ++ c) t = rowsE a t ++ rowsE c t := by simp [rowsE, List.filter_append]
theorem rowsE_at (a c : List Ent) (e : Ent) : (rowsE (a ++ e :: c) e.to)[(tosE a).count e.to]? = some e.g := by
  rw [rowsE_append, rowsE_cons, ← rowsE_length]
  simp
theorem rowsE_len (a c : List Ent) (e : Ent) : (rowsE (a ++ e :: c) e.to).length = (tosE a).count e.to + 1 + (rowsE c e.to).length := by
  rw [rowsE_append, rowsE_cons, List.length_append, rowsE_length a, List.length_cons]
  omega
theorem rowsE_none {c : List Ent} {t : Nat} (h : t ∉ tosE c) : rowsE c t = [] := by
  unfold rowsE
  rw [List.filter_eq_nil_iff.2 fun x hx => by
    simp only [beq_iff_eq]
    exact fun hk => h (List.mem_map.2 ⟨x, hx, hk⟩)]
  rfl
theorem rowsE_ne {z : List Ent} {t : Nat} (h : t ∈ tosE z) : rowsE z t ≠ [] := by
  obtain ⟨e, he, hx⟩ := List.mem_map.1 h
  intro hn
  have : e.g ∈ rowsE z t := List.mem_map.2 ⟨e, List.mem_filter.2 ⟨he, by simp [hx]⟩, rfl⟩
  rw [hn] at this
  simp at this
theorem rowsE_le (z : List Ent) (t : Nat) : (rowsE z t).length ≤ z.length := by
  simpa [rowsE] using List.length_filter_le _ z
theorem split_at {z : List Ent} {i : Nat} {e : Ent} (h : z[i]? = some e) : z = z.take i ++ e :: z.drop (i + 1) := by
  obtain ⟨hlt, rfl⟩ := List.getElem?_eq_some_iff.1 h
  simp
end Go.Proofs.Ybulkctac
