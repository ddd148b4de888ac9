/-
  What adding an item does to a frame.
-/
import Derived.Test.Qxb6605305aOps
import Derived.Deep.RegionLaw
namespace Go.Proofs.Qxb6605305a.KS
open Go.ChangeShapes Go.WideShapes Go.ChangeAt Go.RowKit
set_option linter.unusedVariables false

theorem Try.info39 : (Try.prog.info? 39).map (fun i => (i.zero, i.size, i.bytes)) = some (some (.pointer none), 1, 8) := by kernel_rfl

/-- The row of the items is none of the frame's other blocks. -/
theorem Fr.rowNe {B : Nat} {w : World} {F V : Nat} {r : Option Nat} {a : Option Addr} {n cap : Nat} {ks : List ByteArray} {wr : World} (h : Fr B w F V r a n cap ks wr) {b : Nat} {o : Obj} (hb : wr.heap[b]? = some o) (ho : ∀ cur, o ≠ .cells cur 39 (0, 0)) :
    (Value.slice a n cap).ownBlock ≠ some b := by
  intro e
  obtain ⟨ps, hown, hit⟩ := h.row
  rcases hown.2 with ⟨hv, _⟩ | ⟨g, cap', cur, hv, _, hh, _⟩
  · simp only [Value.slice.injEq] at hv; rw [hv.1] at e; simp [Value.ownBlock] at e
  · simp only [Value.slice.injEq] at hv
    rw [hv.1] at e
    simp [Value.ownBlock] at e
    rw [e, hb] at hh
    exact ho cur (Option.some.inj hh)

/-- An item is added: its block, the one-cell slice of its pointer, the append, the store into the field. -/
theorem Fr.added {B : Nat} {w : World} {F V : Nat} {r : Option Nat} {a : Option Addr} {n cap : Nat} {ks : List ByteArray} {wr : World} (h : Fr B w F V r a n cap ks wr) {ps : List Nat} (hown : wr.ownsRow B 39 1 (.slice a n cap) n (ps.map ptr))
    (hit : ∀ i p, ps[i]? = some p → p ≠ V ∧ ItemAt wr p (kth ks i)) {s : ByteArray} {cs : Array Value} (hcs : cs[1]? = some (.string s)) {gg cap' : Nat} {w1 : World} {o2 : Obj}
    (hown1 : w1.ownsRow B 39 1 (.slice (some ⟨gg, 0, none⟩) (n + 1) cap') (n + 1) (ps.map ptr ++ [ptr wr.heap.size])) (hgrow : ((wr.alloc (.cells cs 43)).alloc o2).drew.grownBy w1 (Value.slice a n cap).ownBlock) :
    Fr B w F V r (some ⟨gg, 0, none⟩) (n + 1) cap' (ks ++ [s]) (w1.setCell ⟨V, 5, none⟩ (.slice (some ⟨gg, 0, none⟩) (n + 1) cap')) := by
  obtain ⟨x0, x1, x2, x3, x4, hV⟩ := h.hV
  have hbsz := h.bsz
  have hVlt := lt_of_heap hV
  -- old blocks in w1
  have old : ∀ (b : Nat) (o : Obj), wr.heap[b]? = some o → (∀ cur, o ≠ .cells cur 39 (0, 0)) → w1.heap[b]? = some o := by
    intro b o hb ho
    have hlt := lt_of_heap hb
    rw [hgrow.block b (by simp; omega) (fun e => h.rowNe hb ho e.symm)]
    show ((wr.alloc (.cells cs 43)).alloc o2).heap[b]? = some o
    rw [Below.heap_alloc _ _ _ (by simp; omega), Below.heap_alloc _ _ _ hlt]; exact hb
  have new : w1.heap[wr.heap.size]? = some (.cells cs 43 (0, 0)) := by
    have hne : some wr.heap.size ≠ (Value.slice a n cap).ownBlock := by
      intro e
      have := (hown.lt _ e.symm).2
      omega
    rw [hgrow.block wr.heap.size (by simp; omega) hne]
    show ((wr.alloc (.cells cs 43)).alloc o2).heap[wr.heap.size]? = _
    rw [Below.heap_alloc _ _ _ (by simp)]
    exact heap_alloc_new wr _
  have hV1 := old _ _ hV (by intro cur; simp)
  have ggV : gg ≠ V := by
    intro e
    rcases hown1.2 with ⟨hv, _⟩ | ⟨g, c2, cur, hv, _, hh, _⟩
    · simp at hv
    · simp only [Value.slice.injEq, Option.some.injEq, Addr.mk.injEq] at hv
      rw [← hv.1.1, e, hV1] at hh; simp at hh
  have oth : ∀ (b : Nat) (o : Obj), w1.heap[b]? = some o → b ≠ V → (w1.setCell ⟨V, 5, none⟩ (.slice (some ⟨gg, 0, none⟩) (n + 1) cap')).heap[b]? = some o := by
    intro b o hb hne
    rw [Below.heap_setCell _ _ _ _ hne]; exact hb
  refine ⟨by simp [h.len], h.fB, h.vB, oth _ _ (old _ _ h.hF (by intro cur; simp)) h.ne, ⟨x0, x1, x2, x3, x4, ?_⟩, ⟨ps ++ [wr.heap.size], ?_, fun i p hp => ?_⟩, ?_⟩
  · rw [heap_setCell_same w1 V 5 _ 43 _ hV1]; rfl
  · rw [List.map_append]
    refine ⟨hown1.1, ?_⟩
    rcases hown1.2 with ⟨hv, _⟩ | ⟨g, c2, cur, hv, hb, hh, rest⟩
    · simp at hv
    · refine .inr ⟨g, c2, cur, hv, hb, oth _ _ hh ?_, rest⟩
      simp only [Value.slice.injEq, Option.some.injEq, Addr.mk.injEq] at hv
      rw [← hv.1.1]; exact ggV
  · have hpl : ps.length = n := by have := hown.1; simp at this; omega
    by_cases hi : i < n
    · rw [List.getElem?_append_left (by omega)] at hp
      obtain ⟨h1, cs', h2, h3⟩ := hit i p hp
      rw [kth_append_left _ _ _ (by rw [h.len]; exact hi)]
      exact ⟨h1, cs', oth _ _ (old _ _ h2 (by intro cur; simp)) h1, h3⟩
    · have hin : i = n := by
        have := (List.getElem?_eq_some_iff.1 hp).1
        simp at this; omega
      subst hin
      rw [List.getElem?_append_right (by omega), hpl] at hp
      simp at hp
      subst hp
      have e : kth (ks ++ [s]) i = s := by rw [← h.len]; exact kth_append_last ks s
      rw [e]
      exact ⟨by omega, cs, oth _ _ new (by omega), hcs⟩
  · have hb0 : Below B w ((wr.alloc (.cells cs 43)).alloc o2).drew := ((h.below.alloc hbsz _).alloc (by simp; omega) _).drew
    refine (hb0.grown hgrow (by show B ≤ ((wr.alloc (.cells cs 43)).alloc o2).heap.size; simp; omega) (fun k hk => ?_)).setCell h.vB _
    exact (hown.lt k hk).1

/-- A set is as it was where its block is as it was. -/
theorem SetAt.of_heap {w w' : World} {M : Nat} {S : List ByteArray} (h : SetAt w M S) (e : w'.heap[M]? = w.heap[M]?) : SetAt w' M S := by
  obtain ⟨es, clock, hb, rest⟩ := h
  exact ⟨es, clock, by rw [e]; exact hb, rest⟩

/-- The key map behind the adding of an item. -/
theorem Fr.added_map {B : Nat} {w : World} {F V : Nat} {r : Option Nat} {a : Option Addr} {n cap : Nat} {ks : List ByteArray} {wr : World} (h : Fr B w F V r a n cap ks wr) {mo : Option (List ByteArray)} (hK : KM B r mo wr) {o1 o2 : Obj} {w1 : World} {x : Value}
    (hgrow : ((wr.alloc o1).alloc o2).drew.grownBy w1 (Value.slice a n cap).ownBlock) : KM B r mo (w1.setCell ⟨V, 5, none⟩ x) := by
  match r, mo, hK with
  | none, none, _ => trivial
  | some M, some S, ⟨hM, hS⟩ =>
    refine ⟨hM, hS.of_heap ?_⟩
    obtain ⟨es, clock, hb⟩ := hS.block
    obtain ⟨x0, x1, x2, x3, x4, hV⟩ := h.hV
    have hlt := lt_of_heap hb
    have hne : M ≠ V := by intro e; rw [e, hV] at hb; simp at hb
    rw [Below.heap_setCell _ _ _ _ hne, hgrow.block M (by simp; omega) (fun e => h.rowNe hb (by intro cur; simp) e.symm)]
    show ((wr.alloc o1).alloc o2).heap[M]? = _
    rw [Below.heap_alloc _ _ _ (by simp; omega), Below.heap_alloc _ _ _ hlt]
end Go.Proofs.Qxb6605305a.KS
