/-
  LawS4734AKeep: the state behind some keeps.
-/
import Derived.Test.YbulkctacPlain
namespace Go.Proofs.Ybulkctac
open Go.RowKit
open Go.Maps (Keyed)
set_option linter.unusedVariables false

theorem MapP.mono {w : World} {k : TypeId} {b n n' sz : Nat} {f : Lit → Option Nat} (h : MapP w k b n f sz) (hn : n ≤ n') : MapP w k b n' f sz := by
  obtain ⟨D, h1, h2⟩ := h
  exact ⟨D, h1.mono hn, h2⟩

def Ent.ok (e : Ent) : Prop := okK e.key
noncomputable def setK (f : Lit → Option Nat) (k : Lit) (g : Nat) : Lit → Option Nat := fun x => @ite _ (x = k) (Classical.propDecidable _) (some g) (f x)
theorem setK_same (f : Lit → Option Nat) (k : Lit) (g : Nat) : setK f k g k = some g := by simp [setK]
theorem setK_other (f : Lit → Option Nat) (k : Lit) (g : Nat) {x : Lit} (h : x ≠ k) : setK f k g x = f x := by simp [setK, h]
def upd (L : Nat → Nat) (t x : Nat) : Nat → Nat := fun y => if y = t then x else L y

structure KSt (w0 w : World) (B R b : Nat) (v0 v4 : Value) (z : List Ent) (L A : Nat → Nat) (Au : Nat) (zu : List Nat) : Prop where
  below : Below B w0 w
  size : B ≤ w.heap.size
  bR : B ≤ R
  bb : B ≤ b
  bL : ∀ t, B ≤ L t
  bA : ∀ t, B ≤ A t
  bAu : B ≤ Au
  ok : ∀ e ∈ z, e.ok
  r : w.heap[R]? = some (.cells (resA b v0 z.length) 31 (0, 0))
  queue : w.heap[b + 2]? = some (.cells #[.slice none 0 0, v0] 57 (0, 0))
  rtt : w.heap[b + 3]? = some (.map #[] 0)
  un : ∀ (i : Nat) (e : Ent), z[i]? = some e → w.heap[e.g]? = some (.cells (unA (nm e.to) e.m i (pv (L e.to)) ((tosE (z.take i)).count e.to : Nat)) 53 (0, 0)) ∧ w.heap[e.m]? = some (.cells (msgA (nm e.fr) e.sq e.kd) 49 (0, 0))
  m0 : ∃ f0, MapP w 59 b z.length f0 (cntL (keysE z)) ∧ ∀ x, okK x → f0 (klS x) = lastE z x
  m1 : ∃ f1, MapP w 9 (b + 1) z.length f1 (cntL (tosE z)) ∧ ∀ t, t < 3 → f1 (ktS t) = if t ∈ tosE z then some (L t) else none
  lst : ∀ t, t ∈ tosE z → ∃ v, w.heap[L t]? = some (.cells #[v, .int .i64 0, .int .u64 0] 61 (0, 0)) ∧ RowP w v (some (A t)) (rowsE z t)
  dis : ∀ t t', t ∈ tosE z → t' ∈ tosE z → t ≠ t' → L t ≠ L t' ∧ A t ≠ A t'
  disu : ∀ t, t ∈ tosE z → A t ≠ Au
  us : RowP w v4 (some Au) zu

/-- nothing of the state is written -/
theorem KSt.gr {w0 w w' : World} {B R b : Nat} {v0 v4 : Value} {z : List Ent} {L A : Nat → Nat} {Au : Nat} {zu : List Nat} (h : KSt w0 w B R b v0 v4 z L A Au zu) (hg : Gr w w' (fun _ => False)) : KSt w0 w' B R b v0 v4 z L A Au zu := by
  refine ⟨hg.below h.below h.size (fun _ h => h.elim), Nat.le_trans h.size hg.size, h.bR, h.bb, h.bL, h.bA, h.bAu, h.ok, hg.same h.r (fun h => h), hg.same h.queue (fun h => h), hg.same h.rtt (fun h => h), fun i e he => ⟨hg.same (h.un i e he).1 (fun h => h), hg.same (h.un i e he).2 (fun h => h)⟩, ?_, ?_, fun t ht => ?_, h.dis, h.disu, h.us.gr hg (fun _ _ h => h)⟩
  · obtain ⟨f0, h1, h2⟩ := h.m0
    exact ⟨f0, h1.gr hg (fun h => h), h2⟩
  · obtain ⟨f1, h1, h2⟩ := h.m1
    exact ⟨f1, h1.gr hg (fun h => h), h2⟩
  · obtain ⟨v, h1, h2⟩ := h.lst t ht
    exact ⟨v, hg.same h1 (fun h => h), h2.gr hg (fun _ _ h => h)⟩

/-- one more unacked in us -/
theorem KSt.app {w0 w w' : World} {B R b : Nat} {v0 v4 v4' : Value} {z : List Ent} {L A : Nat → Nat} {Au Au' u : Nat} {zu : List Nat} (h : KSt w0 w B R b v0 v4 z L A Au zu) (hrow : RowP w' v4' (some Au') (zu ++ [u])) (hA : some Au' = some Au ∨ Au' = w.heap.size) (hgr : w.grownBy w' (some Au)) : KSt w0 w' B R b v0 v4' z L A Au' (zu ++ [u]) := by
  have hg : Gr w w' (fun k => k = Au) := (gr_grown hgr).mono fun x _ h => by simpa using h
  obtain ⟨cur, hcur⟩ := h.us.block
  have hnot : ∀ {j : Nat} {o : Obj}, w.heap[j]? = some o → (∀ c, o ≠ .cells c 50 (0, 0)) → w'.heap[j]? = some o := fun {j o} hj ho => hg.same hj (fun e => by
    subst e
    rw [hj] at hcur
    exact ho cur (by simpa using hcur))
  have hAu' : B ≤ Au' ∧ ∀ t, t ∈ tosE z → A t ≠ Au' := by
    rcases hA with hA | hA
    · have : Au' = Au := by simpa using hA
      subst this
      exact ⟨h.bAu, h.disu⟩
    · refine ⟨by rw [hA]; exact h.size, fun t ht e => ?_⟩
      obtain ⟨v, h1, h2⟩ := h.lst t ht
      obtain ⟨c, hc⟩ := h2.block
      have := heap_lt hc
      omega
  refine ⟨hg.below h.below h.size (fun k hk => by rw [hk]; exact h.bAu), Nat.le_trans h.size hg.size, h.bR, h.bb, h.bL, h.bA, hAu'.1, h.ok, hnot h.r (by simp), hnot h.queue (by simp), hnot h.rtt (by simp), fun i e he => ⟨hnot (h.un i e he).1 (by simp), hnot (h.un i e he).2 (by simp)⟩, ?_, ?_, fun t ht => ?_, h.dis, hAu'.2, hrow⟩
  · obtain ⟨f0, h1, h2⟩ := h.m0
    exact ⟨f0, h1.gr hg (fun e => h1.ne hcur e.symm), h2⟩
  · obtain ⟨f1, h1, h2⟩ := h.m1
    exact ⟨f1, h1.gr hg (fun e => h1.ne hcur e.symm), h2⟩
  · obtain ⟨v, h1, h2⟩ := h.lst t ht
    exact ⟨v, hnot h1 (by simp), h2.gr hg (fun g hgg e => by cases hgg; exact h.disu t ht e)⟩

theorem take_snoc {z : List Ent} {e : Ent} {i : Nat} (h : i ≤ z.length) : (z ++ [e]).take i = z.take i := by rw [List.take_append_of_le_length h]

/-- one more keep -/
theorem KSt.keep {w0 w w' : World} {B R b : Nat} {v0 v4 : Value} {z : List Ent} {L A : Nat → Nat} {Au : Nat} {zu : List Nat} {e : Ent} {f0 f1 : Lit → Option Nat} {Lt : Nat} {og : Option Nat} {v : Value}
    (h : KSt w0 w B R b v0 v4 z L A Au zu) (he : e.ok) (hU : w.heap[e.g]? = some (.cells (unA (nm e.to) e.m 0 (.pointer none) 0) 53 (0, 0))) (hMg : w.heap[e.m]? = some (.cells (msgA (nm e.fr) e.sq e.kd) 49 (0, 0))) (hfresh : ∀ e' ∈ z, e'.g ≠ e.g) (hUB : B ≤ e.g)
    (hf0 : ∀ x, okK x → f0 (klS x) = lastE z x) (hf1 : ∀ t, t < 3 → f1 (ktS t) = if t ∈ tosE z then some (L t) else none)
    (hold : (e.to ∈ tosE z ∧ Lt = L e.to ∧ og = some (A e.to)) ∨ (e.to ∉ tosE z ∧ w.heap.size ≤ Lt ∧ og = none))
    (hp : KeepPost w w' R e.g e.m b v0 z.length (nm e.to) (nm e.fr) e.sq e.kd z.length (cntL (keysE z)) f0 (klS e.key) Lt og (rowsE z e.to))
    (hm1 : ∀ f' : Lit → Option Nat, f' (ktS e.to) = some Lt → (∀ x, x ≠ ktS e.to → f' x = f1 x) → MapP w' 9 (b + 1) (z.length + 1) f' (if e.to ∈ tosE z then cntL (tosE z) else cntL (tosE z) + 1)) :
    ∃ A', KSt w0 w' B R b v0 v4 (z ++ [e]) (upd L e.to Lt) A' Au zu := by
  obtain ⟨v', g', l1, l2, l3⟩ := hp.list
  have gr := hp.gr
  obtain ⟨F0, M0, _⟩ := h.m0
  obtain ⟨F1, M1, _⟩ := h.m1
  have hLt : ∀ {j : Nat} {o : Obj}, w.heap[j]? = some o → (∀ c, o ≠ .cells c 61 (0, 0)) → j ≠ Lt := fun {j o} hj ho ej => by
    rcases hold with ⟨h1, h2, _⟩ | ⟨_, h2, _⟩
    · obtain ⟨vv, hl, _⟩ := h.lst _ h1
      rw [ej, h2, hl] at hj
      exact ho _ (by simpa using hj.symm)
    · have := heap_lt hj
      omega
  have hOg : ∀ {j : Nat} {o : Obj}, w.heap[j]? = some o → (∀ c, o ≠ .cells c 50 (0, 0)) → some j ≠ og := fun {j o} hj ho ej => by
    rcases hold with ⟨h1, _, h2⟩ | ⟨_, _, h2⟩
    · obtain ⟨vv, _, hr⟩ := h.lst _ h1
      obtain ⟨c, hc⟩ := hr.block
      rw [h2] at ej
      have : j = A e.to := by simpa using ej
      rw [this, hc] at hj
      exact ho _ (by simpa using hj.symm)
    · rw [h2] at ej
      cases ej
  have kB : ∀ {j : Nat} {o : Obj}, w.heap[j]? = some o → (∀ c, o ≠ .cells c 31 (0, 0)) → j ≠ Lt → some j ≠ og → j ≠ e.g → j ≠ b → j ≠ b + 1 → w'.heap[j]? = some o := fun {j o} hj h31 h61 h50 hg hb1 hb2 => gr.same hj (by
    rintro (x | x | x | x | x | x)
    · rw [x, h.r] at hj
      exact h31 _ (by simpa using hj.symm)
    · exact hg x
    · exact hb1 x
    · exact hb2 x
    · exact h61 x
    · exact h50 x)
  have bLt : B ≤ Lt := by
    rcases hold with ⟨_, h2, _⟩ | ⟨_, h2, _⟩
    · rw [h2]; exact h.bL _
    · exact Nat.le_trans h.size h2
  have bog : ∀ k, some k = og → B ≤ k := fun k hk => by
    rcases hold with ⟨_, _, h2⟩ | ⟨_, _, h2⟩
    · rw [h2] at hk
      have : k = A e.to := by simpa using hk
      rw [this]; exact h.bA _
    · rw [h2] at hk; cases hk
  have bg' : B ≤ g' := by
    rcases l3 with h1 | h1
    · exact bog g' h1
    · exact Nat.le_trans h.size h1
  have hUb : ∀ {j : Nat} {c : Array Value} {t : TypeId}, w.heap[j]? = some (.cells c t (0, 0)) → t ≠ 53 → j ≠ e.g := fun {j c t} hj ht ej => by
    rw [ej, hU] at hj
    simp at hj
    exact ht hj.2.symm
  have hto3 : e.to < 3 := he.1
  have hz3 : ∀ t, t ∈ tosE z → t < 3 := fun t ht => by
    obtain ⟨e', he', rfl⟩ := List.mem_map.1 ht
    exact (h.ok e' he').1
  have hN : ∀ t, t ∈ tosE z → t ≠ e.to → L t ≠ Lt ∧ A t ≠ g' := fun t ht hk => by
    obtain ⟨vv, q1, q2⟩ := h.lst t ht
    obtain ⟨c, hc⟩ := q2.block
    have s1 := heap_lt q1
    have s2 := heap_lt hc
    constructor
    · intro ek
      rcases hold with ⟨h1, h2, _⟩ | ⟨_, h2, _⟩
      · exact (h.dis t e.to ht h1 hk).1 (ek.trans h2)
      · omega
    · intro ek
      rcases l3 with h3 | h3
      · rcases hold with ⟨h1, _, h2⟩ | ⟨_, _, h2⟩
        · rw [h2] at h3
          exact (h.dis t e.to ht h1 hk).2 (ek.trans (by simpa using h3))
        · rw [h2] at h3; cases h3
      · omega
  have hNu : g' ≠ Au := fun ek => by
    obtain ⟨c, hc⟩ := h.us.block
    have s2 := heap_lt hc
    rcases l3 with h3 | h3
    · rcases hold with ⟨h1, _, h2⟩ | ⟨_, _, h2⟩
      · rw [h2] at h3
        have : g' = A e.to := by simpa using h3
        exact h.disu e.to h1 (this.symm.trans ek)
      · rw [h2] at h3; cases h3
    · omega
  have hin : ∀ t, t ∈ tosE z ++ [e.to] → t ≠ e.to → t ∈ tosE z := fun t ht hk => by
    rcases List.mem_append.1 ht with ht | ht
    · exact ht
    · exact absurd (by simpa using ht) hk
  have htos : tosE (z ++ [e]) = tosE z ++ [e.to] := by simp [tosE]
  have hkeys : keysE (z ++ [e]) = keysE z ++ [e.key] := by simp [keysE]
  have hlenz : (z ++ [e]).length = z.length + 1 := by simp
  refine ⟨upd A e.to g', ⟨?_, Nat.le_trans h.size gr.size, h.bR, h.bb, fun t => ?_, fun t => ?_, h.bAu, fun x hx => ?_, ?_, ?_, ?_, fun i x hx => ?_, ?_, ?_, fun t ht => ?_, fun t t' ht ht' hne => ?_, fun t ht => ?_, ?_⟩⟩
  · refine gr.below h.below h.size ?_
    rintro k (x | x | x | x | x | x)
    · rw [x]; exact h.bR
    · rw [x]; exact hUB
    · rw [x]; exact h.bb
    · rw [x]; have := h.bb; omega
    · rw [x]; exact bLt
    · exact bog k x
  · unfold upd; split
    · exact bLt
    · exact h.bL t
  · unfold upd; split
    · exact bg'
    · exact h.bA t
  · rcases List.mem_append.1 hx with hx | hx
    · exact h.ok x hx
    · have : x = e := by simpa using hx
      rw [this]; exact he
  · rw [hlenz]; exact hp.r
  · exact kB h.queue (by simp) (hLt h.queue (by simp)) (hOg h.queue (by simp)) (hUb h.queue (by decide)) (by omega) (by omega)
  · refine kB h.rtt (by simp) (hLt h.rtt (by simp)) (hOg h.rtt (by simp)) (fun ej => ?_) (by omega) (by omega)
    have := h.rtt
    rw [ej, hU] at this
    cases this
  · by_cases hi : i < z.length
    · rw [List.getElem?_append_left hi] at hx
      obtain ⟨u1, u2⟩ := h.un i x hx
      have hmem : x ∈ z := List.mem_of_getElem? hx
      have hL : upd L e.to Lt x.to = L x.to := by
        unfold upd
        split
        · rename_i hxt
          rcases hold with ⟨h1, h2, _⟩ | ⟨h1, _, _⟩
          · rw [h2, hxt]
          · exact absurd (hxt ▸ List.mem_map.2 ⟨x, hmem, rfl⟩) h1
        · rfl
      rw [hL, take_snoc (Nat.le_of_lt hi)]
      exact ⟨kB u1 (by simp) (hLt u1 (by simp)) (hOg u1 (by simp)) (hfresh x hmem) (M0.ne u1) (M1.ne u1), kB u2 (by simp) (hLt u2 (by simp)) (hOg u2 (by simp)) (hUb u2 (by decide)) (M0.ne u2) (M1.ne u2)⟩
    · have hi2 : i = z.length := by
        have := (List.getElem?_eq_some_iff.1 hx).1
        simp at this; omega
      subst hi2
      obtain rfl : e = x := by simpa using hx
      have e1 : (z ++ [e]).take z.length = z := by simp
      rw [e1, ← rowsE_length]
      have e2 : upd L e.to Lt e.to = Lt := by simp [upd]
      rw [e2]
      exact ⟨hp.u, hp.msg⟩
  · have hm := hp.map0 (setK f0 (klS e.key) e.g) (setK_same _ _ _) (fun x hx => setK_other _ _ _ hx)
    refine ⟨setK f0 (klS e.key) e.g, ?_, fun x hx => ?_⟩
    · rw [hf0 e.key he, lastE_isSome] at hm
      rw [hkeys, cntL_snoc, hlenz]
      by_cases hk : e.key ∈ keysE z
      · simpa [hk] using hm
      · simpa [hk] using hm
    · by_cases hk : x = e.key
      · subst hk
        rw [setK_same, lastE_snoc_same]
      · have hne : klS x ≠ klS e.key := fun ek => hk (klS_inj hx he ek)
        rw [setK_other _ _ _ hne, hf0 x hx, lastE_snoc_other z e (fun ek => hk ek.symm)]
  · have hm := hm1 (setK f1 (ktS e.to) Lt) (setK_same _ _ _) (fun x hx => setK_other _ _ _ hx)
    refine ⟨setK f1 (ktS e.to) Lt, ?_, fun t ht => ?_⟩
    · rw [htos, cntL_snoc, hlenz]
      exact hm
    · by_cases hk : t = e.to
      · subst hk
        rw [setK_same]
        simp [htos, upd]
      · have hne : ktS t ≠ ktS e.to := fun ek => hk (ktS_inj ht hto3 ek)
        rw [setK_other _ _ _ hne, hf1 t ht, htos]
        simp [hk, upd]
  · by_cases hk : t = e.to
    · subst hk
      have e2 : upd L e.to Lt e.to = Lt := by simp [upd]
      have e3 : upd A e.to g' e.to = g' := by simp [upd]
      rw [e2, e3, rowsE_snoc_same]
      exact ⟨v', l1, l2⟩
    · have ht2 : t ∈ tosE z := by
        rw [htos] at ht
        rcases List.mem_append.1 ht with ht | ht
        · exact ht
        · exact absurd (by simpa using ht) hk
      obtain ⟨vv, q1, q2⟩ := h.lst t ht2
      have e2 : upd L e.to Lt t = L t := by simp [upd, hk]
      have e3 : upd A e.to g' t = A t := by simp [upd, hk]
      rw [e2, e3, rowsE_snoc_other z e (fun ek => hk ek.symm)]
      have n1 : L t ≠ Lt := (hN t ht2 hk).1
      have n2 : some (A t) ≠ og := fun ek => by
        rcases hold with ⟨h1, _, h2⟩ | ⟨_, _, h2⟩
        · rw [h2] at ek
          exact (h.dis t e.to ht2 h1 hk).2 (by simpa using ek)
        · rw [h2] at ek; cases ek
      obtain ⟨c, hc⟩ := q2.block
      refine ⟨vv, kB q1 (by simp) n1 (hOg q1 (by simp)) (hUb q1 (by decide)) (M0.ne q1) (M1.ne q1), q2.of_block fun g hg => ?_⟩
      cases hg
      rw [kB hc (by simp) (hLt hc (by simp)) n2 (hUb hc (by decide)) (M0.ne hc) (M1.ne hc), hc]
  · rw [htos] at ht ht'
    unfold upd
    by_cases h1 : t = e.to
    · have h2 : t' ≠ e.to := fun ek => hne (h1.trans ek.symm)
      have := hN t' (hin t' ht' h2) h2
      simp only [h1, h2, if_true, if_false]
      exact ⟨fun ek => this.1 ek.symm, fun ek => this.2 ek.symm⟩
    · by_cases h2 : t' = e.to
      · have := hN t (hin t ht h1) h1
        simp only [h1, h2, if_true, if_false]
        exact this
      · simp only [h1, h2, if_false]
        exact h.dis t t' (hin t ht h1) (hin t' ht' h2) hne
  · rw [htos] at ht
    unfold upd
    by_cases h1 : t = e.to
    · simp only [h1, if_true]
      exact hNu
    · simp only [h1, if_false]
      exact h.disu t (hin t ht h1)
  · obtain ⟨c, hc⟩ := h.us.block
    have n2 : some Au ≠ og := fun ek => by
      rcases hold with ⟨h1, _, h2⟩ | ⟨_, _, h2⟩
      · rw [h2] at ek
        exact h.disu e.to h1 (by simpa using ek.symm)
      · rw [h2] at ek; cases ek
    refine h.us.of_block fun g hg => ?_
    cases hg
    rw [kB hc (by simp) (hLt hc (by simp)) n2 (hUb hc (by decide)) (M0.ne hc) (M1.ne hc), hc]

theorem keep_st {w0 w : World} {B R b : Nat} {v0 v4 : Value} {z : List Ent} {L A : Nat → Nat} {Au : Nat} {zu : List Nat} {e : Ent} (h : KSt w0 w B R b v0 v4 z L A Au zu) (hz : z.length ≤ 1024) (he : e.ok)
    (hU : w.heap[e.g]? = some (.cells (unA (nm e.to) e.m 0 (.pointer none) 0) 53 (0, 0))) (hMg : w.heap[e.m]? = some (.cells (msgA (nm e.fr) e.sq e.kd) 49 (0, 0))) (hfresh : ∀ e' ∈ z, e'.g ≠ e.g) (hUB : B ≤ e.g) :
    Calls Yba.prog 7 #[pv R, pv e.g] w fun x w' => x = .returned (.tuple #[]) ∧ ∃ L' A', KSt w0 w' B R b v0 v4 (z ++ [e]) L' A' Au zu := by
  obtain ⟨f0, M0, hf0⟩ := h.m0
  obtain ⟨f1, M1, hf1⟩ := h.m1
  have hat : KeepAt w R e.g e.m b v0 z.length (nm e.to) (nm e.fr) e.sq e.kd 0 := ⟨h.r, hU, hMg⟩
  have hto3 : e.to < 3 := he.1
  have hmax : 2000 < maxLen := by unfold maxLen; omega
  have hkl : keyOf Yba.prog 59 (.agg (keyV (nm e.to) (nm e.fr) e.sq e.kd)) = some (klS e.key) := by
    have h := keyS (x := e.key) he
    simp only [Ent.key] at h ⊢
    exact h
  have hkt : keyOf Yba.prog 9 (.string (nm e.to)) = some (ktS e.to) := key9 _ (nm_size _)
  by_cases hin : e.to ∈ tosE z
  · obtain ⟨v, q1, q2⟩ := h.lst _ hin
    have hf1e : f1 (ktS e.to) = some (L e.to) := by rw [hf1 _ hto3, if_pos hin]
    refine (keep_old w R e.g e.m b (L e.to) z.length z.length _ z.length _ v0 v (nm e.to) (nm e.fr) e.sq e.kd f0 f1 (some (A e.to)) (rowsE z e.to) (klS e.key) (ktS e.to) hat (by omega) hkl hkt M0 M1 (by omega) hf1e q1 q2 (rowsE_ne hin) (Nat.le_trans (rowsE_le z e.to) hz)).mono ?_
    rintro x w' ⟨hx, hp, hm⟩
    obtain ⟨A', hA⟩ := h.keep he hU hMg hfresh hUB hf0 hf1 (.inl ⟨hin, rfl, rfl⟩) hp (fun f' ha hb => by
      have : f' = f1 := funext fun y => by
        by_cases hy : y = ktS e.to
        · rw [hy, ha, hf1e]
        · exact hb y hy
      rw [this, if_pos hin]
      exact hm.mono (by omega)) (v := v)
    exact ⟨hx, _, A', hA⟩
  · have hf1e : f1 (ktS e.to) = none := by rw [hf1 _ hto3, if_neg hin]
    refine (keep_new w R e.g e.m b z.length z.length _ z.length _ v0 (nm e.to) (nm e.fr) e.sq e.kd f0 f1 (klS e.key) (ktS e.to) hat (by omega) hkl hkt M0 M1 (by omega) (by omega) hf1e).mono ?_
    rintro x w' ⟨hx, Lt, hLs, hp, hm⟩
    have hr : rowsE z e.to = [] := rowsE_none hin
    obtain ⟨A', hA⟩ := h.keep he hU hMg hfresh hUB hf0 hf1 (.inr ⟨hin, hLs, rfl⟩) (by rw [hr]; exact hp) (fun f' ha hb => by
      rw [if_neg hin]
      exact hm f' ha hb) (v := v0)
    exact ⟨hx, _, A', hA⟩

set_option maxHeartbeats 4000000 in
set_option maxRecDepth 100000 in
theorem same_any (w : World) (u v m m' : Nat) (t t' f f' : ByteArray) (s s' k k' : Int) (i i' : Nat) (l l' : Value) (p p' : Int)
    (hu : w.heap[u]? = some (.cells (unA t m i l p) 53 (0, 0))) (hv : w.heap[v]? = some (.cells (unA t' m' i' l' p') 53 (0, 0))) (hm : w.heap[m]? = some (.cells (msgA f s k) 49 (0, 0))) (hm' : w.heap[m']? = some (.cells (msgA f' s' k') 49 (0, 0))) (R : Bool)
    (hR : R = ((((t.toList == t'.toList) && (f.toList == f'.toList)) && (s == s')) && (k == k'))) :
    Calls Yba.prog 8 #[.pointer (some ⟨u, 0, none⟩), .pointer (some ⟨v, 0, none⟩)] w fun e w' => e = .returned (.bool R) ∧ ∃ q, w' = w.drewN q := by
  have cu0 : w.cell? ⟨u, 0, none⟩ = some (.string t) := heap_cell hu 0
  have cu1 : w.cell? ⟨u, 1, none⟩ = some (.pointer (some ⟨m, 0, none⟩)) := heap_cell hu 1
  have cv0 : w.cell? ⟨v, 0, none⟩ = some (.string t') := heap_cell hv 0
  have cv1 : w.cell? ⟨v, 1, none⟩ = some (.pointer (some ⟨m', 0, none⟩)) := heap_cell hv 1
  have cm4 : w.cell? ⟨m, 4, none⟩ = some (.string f) := heap_cell hm 4
  have cm6 : w.cell? ⟨m, 6, none⟩ = some (.int .u64 s) := heap_cell hm 6
  have cm0 : w.cell? ⟨m, 0, none⟩ = some (.int .u8 k) := heap_cell hm 0
  have dm4 : w.cell? ⟨m', 4, none⟩ = some (.string f') := heap_cell hm' 4
  have dm6 : w.cell? ⟨m', 6, none⟩ = some (.int .u64 s') := heap_cell hm' 6
  have dm0 : w.cell? ⟨m', 0, none⟩ = some (.int .u8 k') := heap_cell hm' 0
  clear hu hv hm hm'
  subst hR
  by_cases h1 : (t.toList == t'.toList) = true
  · by_cases h2 : (f.toList == f'.toList) = true
    · by_cases h3 : (s == s') = true
      · go_enter Yba.func8, Yba.ntmps8
        go_wp2_with fail
        go_quiet (fail)
        go_wp2_with fail
        go_ret
        exact ⟨by simp [*], _, rfl⟩
      · have h3 : (s == s') = false := by simpa using h3
        go_enter Yba.func8, Yba.ntmps8
        go_wp2_with fail
        go_quiet (fail)
        go_wp2_with fail
        go_ret
        exact ⟨by simp [*], _, rfl⟩
    · have h2 : (f.toList == f'.toList) = false := by simpa using h2
      go_enter Yba.func8, Yba.ntmps8
      go_wp2_with fail
      go_quiet (fail)
      go_wp2_with fail
      go_ret
      exact ⟨by simp [*], _, rfl⟩
  · have h1 : (t.toList == t'.toList) = false := by simpa using h1
    go_enter Yba.func8, Yba.ntmps8
    go_wp2_with fail
    go_quiet (fail)
    go_wp2_with fail
    go_ret
    exact ⟨by simp [*], _, rfl⟩
end Go.Proofs.Ybulkctac
