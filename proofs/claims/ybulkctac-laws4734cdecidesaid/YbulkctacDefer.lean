/-
  (*Member).deferLocked
-/
import Derived.Test.YbulkctacAdd
namespace Go.Proofs.Ybulkctac
open Go.RowKit
set_option linter.unusedVariables false
set_option linter.unusedSimpArgs false
attribute [local go_sem ↓ high] ex_loadMsg ex_boxMsg
attribute [local go_sem high] run_loadMsg run_boxMsg

/-- a member whose copies aside are empty -/
structure MemAt (w : World) (Mb bm : Nat) (cur : Array Value) (bl : Bool) (pp : Value) : Prop where
  m : w.heap[Mb]? = some (.cells cur 139 (0, 0))
  copies : cur[115]? = some (.slice none 0 0)
  keys : cur[116]? = some (.map (some bm))
  peers : cur[117]? = some (.slice none 0 0)
  blocked : cur[123]? = some (.bool bl)
  pending : cur[195]? = some pp
  map : w.heap[bm]? = some (.map #[] 0)

theorem MemAt.gr {w w' : World} {Mb bm : Nat} {cur : Array Value} {bl : Bool} {pp : Value} (h : MemAt w Mb bm cur bl pp) (hg : Gr w w' (fun _ => False)) : MemAt w' Mb bm cur bl pp :=
  ⟨grSame hg h.m (fun h => h), h.copies, h.keys, h.peers, h.blocked, h.pending, grSame hg h.map (fun h => h)⟩

def DeferPost (w w' : World) (Mb bm : Nat) (cur : Array Value) (r : Bool) : Prop := if r = true then AddPost w w' Mb bm cur else Gr w w' (fun _ => False)

set_option maxHeartbeats 2000000 in
set_option maxRecDepth 100000 in
theorem defer_free (Mb bm : Nat) (cur : Array Value) (pp : Option Addr) (p f : ByteArray) (s : Int) (w : World) (h : MemAt w Mb bm cur false (.pointer pp)) :
    Calls Yba.prog 9 #[.pointer (some ⟨Mb, 0, none⟩), .string p, .agg (msgA f s 0)] w fun e w' => e = .returned (.bool false) ∧ DeferPost w w' Mb bm cur false := by
  have ha := h.gr (gr_alloc w (.cells (msgA f s 0) 49))
  have c1 := (cell_is ha.m ha.blocked).1
  have c2 := (cell_is ha.m ha.pending).1
  clear ha
  have HP : Hid (DeferPost w (w.alloc (.cells (msgA f s 0) 49)) Mb bm cur false) := gr_alloc w _
  clear h
  go_enter Yba.func9, Yba.ntmps9
  go_wp2_with fail
  go_ret
  exact ⟨rfl, HP.out⟩

theorem AddPost.after {w w1 w' : World} {Mb bm : Nat} {cur : Array Value} (hg : Gr w w1 (fun _ => False)) (h : AddPost w1 w' Mb bm cur) : AddPost w w' Mb bm cur :=
  ⟨(hg.trans h.1).mono fun x _ h => by
    rcases h with h | h
    · exact h.elim
    · exact h, h.2⟩

set_option maxHeartbeats 2000000 in
set_option maxRecDepth 100000 in
theorem defer_nil (Mb bm : Nat) (cur : Array Value) (p f : ByteArray) (s : Int) (w : World) (kl : Lit) (h : MemAt w Mb bm cur true (.pointer none)) (hk : keyOf Yba.prog 59 (.agg (keyV p f s 0)) = some kl) :
    Calls Yba.prog 9 #[.pointer (some ⟨Mb, 0, none⟩), .string p, .agg (msgA f s 0)] w fun e w' => e = .returned (.bool true) ∧ DeferPost w w' Mb bm cur true := by
  have ha := h.gr (gr_alloc w (.cells (msgA f s 0) 49))
  have c1 := (cell_is ha.m ha.blocked).1
  have c2 := (cell_is ha.m ha.pending).1
  clear ha
  have HH := hid h
  clear h
  go_enter Yba.func9, Yba.ntmps9
  go_wp2_with fail
  have g1 := gr_alloc w (.cells (msgA f s 0) 49)
  have m1 := heap_alloc_new w (.cells (msgA f s 0) 49)
  generalize (w.alloc (.cells (msgA f s 0) 49)) = w1 at g1 m1 ⊢
  have i1 := isMsgC_of m1
  have r1 := rowC_of m1
  have h1 := HH.out.gr (g1.trans (gr_drew' w1) |>.mono fun x _ h => by rcases h with h | h <;> exact h)
  have CA := hid (add_any Mb bm p f s w1.drew kl cur h1.m h1.copies h1.keys h1.peers h1.map hk)
  have HF : Hid (∀ w', AddPost w1.drew w' Mb bm cur → (IsMsgC w' (.pointer (some ⟨w.heap.size, 0, none⟩)) ∧ rowC w' (.pointer (some ⟨w.heap.size, 0, none⟩)) = msgA f s 0) ∧ DeferPost w w' Mb bm cur true) := fun w' hp => by
    have hmsg : w'.heap[w.heap.size]? = some (.cells (msgA f s 0) 49 (0, 0)) := grSame hp.1 (w := w1.drew) m1 (fun e => by
      rcases e with e | e
      · have := heap_lt HH.out.m; omega
      · have := heap_lt HH.out.map; omega)
    exact ⟨⟨isMsgC_of hmsg, rowC_of hmsg⟩, AddPost.after ((g1.trans (gr_drew' w1)).mono fun x _ h => by rcases h with h | h <;> exact h) hp⟩
  clear h1 m1 g1
  go_region_held3 (fun w' => IsMsgC w' (.pointer (some ⟨w.heap.size, 0, none⟩)) ∧ rowC w' (.pointer (some ⟨w.heap.size, 0, none⟩)) = msgA f s 0) (simp [*, isMsgC_drew, rowC_drew])
    (first | (go_at_call 15; refine CA.out.mono ?_; rintro e w' ⟨rfl, hp⟩; obtain ⟨⟨i5, r5⟩, hq⟩ := HF.out _ hp; have HQ := hid hq; clear hp hq))
  go_wp2_with fail
  go_ret
  exact ⟨rfl, HQ.out⟩

/-- a pending install that holds the latest of the sender -/
structure PendAt (w : World) (Pb gm : Nat) (f : ByteArray) (lat : Int) : Prop where
  p : w.heap[Pb]? = some (.cells (pendA gm) 67 (0, 0))
  lt : gm < w.heap.size
  look : ∀ W : World, W.heap[gm]? = w.heap[gm]? → (Instr.lookup 65 (.map (some gm)) (.string f) false).run Yba.prog W = .ok (.int .u64 lat) W

set_option maxHeartbeats 2000000 in
set_option maxRecDepth 100000 in
theorem defer_refuse (Mb bm Pb gm : Nat) (cur : Array Value) (p f : ByteArray) (s lat : Int) (w : World) (h : MemAt w Mb bm cur true (.pointer (some ⟨Pb, 0, none⟩))) (hp : PendAt w Pb gm f lat) (hs : ¬ lat < s) :
    Calls Yba.prog 9 #[.pointer (some ⟨Mb, 0, none⟩), .string p, .agg (msgA f s 0)] w fun e w' => e = .returned (.bool false) ∧ DeferPost w w' Mb bm cur false := by
  have ha := h.gr (gr_alloc w (.cells (msgA f s 0) 49))
  have c1 := (cell_is ha.m ha.blocked).1
  have c2 := (cell_is ha.m ha.pending).1
  have c3 : (w.alloc (.cells (msgA f s 0) 49)).cell? ⟨Pb, 35, none⟩ = some (.map (some gm)) := heap_cell (heap_alloc_some' hp.p _) 35
  have m1 := heap_alloc_new w (.cells (msgA f s 0) 49)
  have c4 : (w.alloc (.cells (msgA f s 0) 49)).cell? ⟨w.heap.size, 4, none⟩ = some (.string f) := heap_cell m1 4
  have c6 : (w.alloc (.cells (msgA f s 0) 49)).cell? ⟨w.heap.size, 6, none⟩ = some (.int .u64 s) := heap_cell m1 6
  have g1 := gr_alloc w (.cells (msgA f s 0) 49)
  have lk := fun q => hp.look ((w.alloc (.cells (msgA f s 0) 49)).drewN q) (g1.block gm hp.lt (fun h => h))
  have hd : decide (lat < s) = false := decide_eq_false hs
  clear ha h hp m1
  go_enter Yba.func9, Yba.ntmps9
  go_wp2_with fail
  generalize (w.alloc (.cells (msgA f s 0) 49)) = w1 at *
  go_quiet (fail)
  go_wp2_with fail
  go_ret
  exact ⟨rfl, (g1.trans (gr_drewN w1 _)).mono fun x _ h => by rcases h with h | h <;> exact h⟩

set_option maxHeartbeats 2000000 in
set_option maxRecDepth 100000 in
theorem defer_take (Mb bm Pb gm : Nat) (cur : Array Value) (p f : ByteArray) (s lat : Int) (w : World) (kl : Lit) (h : MemAt w Mb bm cur true (.pointer (some ⟨Pb, 0, none⟩))) (hp : PendAt w Pb gm f lat) (hs : lat < s) (hk : keyOf Yba.prog 59 (.agg (keyV p f s 0)) = some kl) :
    Calls Yba.prog 9 #[.pointer (some ⟨Mb, 0, none⟩), .string p, .agg (msgA f s 0)] w fun e w' => e = .returned (.bool true) ∧ DeferPost w w' Mb bm cur true := by
  have ha := h.gr (gr_alloc w (.cells (msgA f s 0) 49))
  have c1 := (cell_is ha.m ha.blocked).1
  have c2 := (cell_is ha.m ha.pending).1
  have c3 : (w.alloc (.cells (msgA f s 0) 49)).cell? ⟨Pb, 35, none⟩ = some (.map (some gm)) := heap_cell (heap_alloc_some' hp.p _) 35
  have m1 := heap_alloc_new w (.cells (msgA f s 0) 49)
  have c4 : (w.alloc (.cells (msgA f s 0) 49)).cell? ⟨w.heap.size, 4, none⟩ = some (.string f) := heap_cell m1 4
  have c6 : (w.alloc (.cells (msgA f s 0) 49)).cell? ⟨w.heap.size, 6, none⟩ = some (.int .u64 s) := heap_cell m1 6
  have g1 := gr_alloc w (.cells (msgA f s 0) 49)
  have lk := fun q => hp.look ((w.alloc (.cells (msgA f s 0) 49)).drewN q) (g1.block gm hp.lt (fun h => h))
  have hd : decide (lat < s) = true := decide_eq_true hs
  have HH := hid h
  have HM1 := hid m1
  have HG1 := hid g1
  clear ha h hp m1 g1
  go_enter Yba.func9, Yba.ntmps9
  go_wp2_with fail
  generalize (w.alloc (.cells (msgA f s 0) 49)) = w0 at *
  go_quiet (fail)
  go_wp2_with fail
  have m1 : (w0.drewN nq).heap[w.heap.size]? = some (.cells (msgA f s 0) 49 (0, 0)) := HM1.out
  have g1 : Gr w (w0.drewN nq) (fun _ => False) := (HG1.out.trans (gr_drewN w0 nq)).mono fun x _ h => by rcases h with h | h <;> exact h
  clear c1 c2 c3 c4 c6 lk HM1 HG1
  generalize w0.drewN nq = w1 at *
  have i1 := isMsgC_of m1
  have r1 := rowC_of m1
  have h1 := HH.out.gr (g1.trans (gr_drew' w1) |>.mono fun x _ h => by rcases h with h | h <;> exact h)
  have CA := hid (add_any Mb bm p f s w1.drew kl cur h1.m h1.copies h1.keys h1.peers h1.map hk)
  have HF : Hid (∀ w', AddPost w1.drew w' Mb bm cur → (IsMsgC w' (.pointer (some ⟨w.heap.size, 0, none⟩)) ∧ rowC w' (.pointer (some ⟨w.heap.size, 0, none⟩)) = msgA f s 0) ∧ DeferPost w w' Mb bm cur true) := fun w' hp => by
    have hmsg : w'.heap[w.heap.size]? = some (.cells (msgA f s 0) 49 (0, 0)) := grSame hp.1 (w := w1.drew) m1 (fun e => by
      rcases e with e | e
      · have := heap_lt HH.out.m; omega
      · have := heap_lt HH.out.map; omega)
    exact ⟨⟨isMsgC_of hmsg, rowC_of hmsg⟩, AddPost.after ((g1.trans (gr_drew' w1)).mono fun x _ h => by rcases h with h | h <;> exact h) hp⟩
  clear h1 m1 g1
  go_region_held3 (fun w' => IsMsgC w' (.pointer (some ⟨w.heap.size, 0, none⟩)) ∧ rowC w' (.pointer (some ⟨w.heap.size, 0, none⟩)) = msgA f s 0) (simp [*, isMsgC_drew, rowC_drew])
    (first | (go_at_call 15; refine CA.out.mono ?_; rintro e w' ⟨rfl, hp⟩; obtain ⟨⟨i5, r5⟩, hq⟩ := HF.out _ hp; have HQ := hid hq; clear hp hq))
  go_wp2_with fail
  go_ret
  exact ⟨rfl, HQ.out⟩
end Go.Proofs.Ybulkctac
