/-
  ZZNewFrame over any items and any key map.
-/
import Derived.Test.Qxb6605305aScript0
namespace Go.Proofs.Qxb6605305a.KS
open Go.ChangeShapes Go.WideShapes Go.ChangeAt Go.RowKit
set_option linter.unusedVariables false

/-- A value with its items, before there is a frame over it. -/
structure Vl (B : Nat) (w : World) (V : Nat) (a : Option Addr) (n cap : Nat) (ks : List ByteArray) (wr : World) : Prop where
  len : ks.length = n
  vB : B ≤ V
  hV : ∃ x0 x1 x2 x3 x4, wr.heap[V]? = some (.cells #[x0, x1, x2, x3, x4, .slice a n cap] 43 (0, 0))
  row : ∃ ps : List Nat, wr.ownsRow B 39 1 (.slice a n cap) n (ps.map ptr) ∧ ∀ i p, ps[i]? = some p → p ≠ V ∧ ItemAt wr p (kth ks i)
  below : Below B w wr

section
variable {B : Nat} {w : World} {V : Nat} {a : Option Addr} {n cap : Nat} {ks : List ByteArray} {wr : World}

theorem Vl.c5 (h : Vl B w V a n cap ks wr) : wr.cell? ⟨V, 5, none⟩ = some (.slice a n cap) := by
  obtain ⟨x0, x1, x2, x3, x4, hV⟩ := h.hV
  rw [cell_of_row wr V 5 _ 43 (0, 0) hV]; rfl
theorem Vl.f5 (h : Vl B w V a n cap ks wr) : wr.frozen? ⟨V, 5, none⟩ = false := by
  obtain ⟨x0, x1, x2, x3, x4, hV⟩ := h.hV
  exact frozen_of_row wr V 5 _ 43 hV
theorem Vl.vlt (h : Vl B w V a n cap ks wr) : V < wr.heap.size := by obtain ⟨x0, x1, x2, x3, x4, hV⟩ := h.hV; exact lt_of_heap hV
theorem Vl.bsz (h : Vl B w V a n cap ks wr) : B ≤ wr.heap.size := by have := h.vlt; have := h.vB; omega

theorem Vl.rowNe (h : Vl B w V a n cap ks wr) {b : Nat} {o : Obj} (hb : wr.heap[b]? = some o) (ho : ∀ cur, o ≠ .cells cur 39 (0, 0)) : (Value.slice a n cap).ownBlock ≠ some b := by
  intro e
  obtain ⟨ps, hown, hit⟩ := h.row
  rcases hown.2 with ⟨hv, _⟩ | ⟨g, cap', cur, hv, _, hh, _⟩
  · simp only [Value.slice.injEq] at hv; rw [hv.1] at e; simp [Value.ownBlock] at e
  · simp only [Value.slice.injEq] at hv
    rw [hv.1] at e
    simp [Value.ownBlock] at e
    rw [e, hb] at hh
    exact ho cur (Option.some.inj hh)

theorem Vl.added (h : Vl B w V a n cap ks wr) {ps : List Nat} (hown : wr.ownsRow B 39 1 (.slice a n cap) n (ps.map ptr))
    (hit : ∀ i p, ps[i]? = some p → p ≠ V ∧ ItemAt wr p (kth ks i)) {s : ByteArray} {cs : Array Value} (hcs : cs[1]? = some (.string s)) {gg cap' : Nat} {w1 : World} {o2 : Obj}
    (hown1 : w1.ownsRow B 39 1 (.slice (some ⟨gg, 0, none⟩) (n + 1) cap') (n + 1) (ps.map ptr ++ [ptr wr.heap.size])) (hgrow : ((wr.alloc (.cells cs 43)).alloc o2).drew.grownBy w1 (Value.slice a n cap).ownBlock) :
    Vl B w V (some ⟨gg, 0, none⟩) (n + 1) cap' (ks ++ [s]) (w1.setCell ⟨V, 5, none⟩ (.slice (some ⟨gg, 0, none⟩) (n + 1) cap')) := by
  obtain ⟨x0, x1, x2, x3, x4, hV⟩ := h.hV
  have hbsz := h.bsz
  have hVlt := lt_of_heap hV
  have old : ∀ (b : Nat) (o : Obj), wr.heap[b]? = some o → (∀ cur, o ≠ .cells cur 39 (0, 0)) → w1.heap[b]? = some o := by
    intro b o hb ho
    have hlt := lt_of_heap hb
    rw [hgrow.block b (by simp; omega) (fun e => h.rowNe hb ho e.symm)]
    show ((wr.alloc (.cells cs 43)).alloc o2).heap[b]? = some o
    rw [Below.heap_alloc _ _ _ (by simp; omega), Below.heap_alloc _ _ _ hlt]; exact hb
  have new : w1.heap[wr.heap.size]? = some (.cells cs 43 (0, 0)) := by
    have hne : some wr.heap.size ≠ (Value.slice a n cap).ownBlock := by
      intro e
      have := (hown.lt _ e.symm).2
      omega
    rw [hgrow.block wr.heap.size (by simp; omega) hne]
    show ((wr.alloc (.cells cs 43)).alloc o2).heap[wr.heap.size]? = _
    rw [Below.heap_alloc _ _ _ (by simp)]
    exact heap_alloc_new wr _
  have hV1 := old _ _ hV (by intro cur; simp)
  have ggV : gg ≠ V := by
    intro e
    rcases hown1.2 with ⟨hv, _⟩ | ⟨g, c2, cur, hv, _, hh, _⟩
    · simp at hv
    · simp only [Value.slice.injEq, Option.some.injEq, Addr.mk.injEq] at hv
      rw [← hv.1.1, e, hV1] at hh; simp at hh
  have oth : ∀ (b : Nat) (o : Obj), w1.heap[b]? = some o → b ≠ V → (w1.setCell ⟨V, 5, none⟩ (.slice (some ⟨gg, 0, none⟩) (n + 1) cap')).heap[b]? = some o := by
    intro b o hb hne
    rw [Below.heap_setCell _ _ _ _ hne]; exact hb
  refine ⟨by simp [h.len], h.vB, ⟨x0, x1, x2, x3, x4, ?_⟩, ⟨ps ++ [wr.heap.size], ?_, fun i p hp => ?_⟩, ?_⟩
  · rw [heap_setCell_same w1 V 5 _ 43 _ hV1]; rfl
  · rw [List.map_append]
    refine ⟨hown1.1, ?_⟩
    rcases hown1.2 with ⟨hv, _⟩ | ⟨g, c2, cur, hv, hb, hh, rest⟩
    · simp at hv
    · refine .inr ⟨g, c2, cur, hv, hb, oth _ _ hh ?_, rest⟩
      simp only [Value.slice.injEq, Option.some.injEq, Addr.mk.injEq] at hv
      rw [← hv.1.1]; exact ggV
  · have hpl : ps.length = n := by have := hown.1; simp at this; omega
    by_cases hi : i < n
    · rw [List.getElem?_append_left (by omega)] at hp
      obtain ⟨h1, cs', h2, h3⟩ := hit i p hp
      rw [kth_append_left _ _ _ (by rw [h.len]; exact hi)]
      exact ⟨h1, cs', oth _ _ (old _ _ h2 (by intro cur; simp)) h1, h3⟩
    · have hin : i = n := by
        have := (List.getElem?_eq_some_iff.1 hp).1
        simp at this; omega
      subst hin
      rw [List.getElem?_append_right (by omega), hpl] at hp
      simp at hp
      subst hp
      have e : kth (ks ++ [s]) i = s := by rw [← h.len]; exact kth_append_last ks s
      rw [e]
      exact ⟨by omega, cs, oth _ _ new (by omega), hcs⟩
  · have hb0 : Below B w ((wr.alloc (.cells cs 43)).alloc o2).drew := ((h.below.alloc hbsz _).alloc (by simp; omega) _).drew
    refine (hb0.grown hgrow (by show B ≤ ((wr.alloc (.cells cs 43)).alloc o2).heap.size; simp; omega) (fun k hk => ?_)).setCell h.vB _
    exact (hown.lt k hk).1

/-- A frame is laid over the value. -/
theorem Vl.frame (h : Vl B w V a n cap ks wr) (r : Option Nat) : Fr B w wr.heap.size V r a n cap ks (wr.alloc (.cells #[.pointer (some ⟨V, 0, none⟩), .map r] 46)) := by
  have old : ∀ (b : Nat) (o : Obj), wr.heap[b]? = some o → (wr.alloc (.cells #[.pointer (some ⟨V, 0, none⟩), .map r] 46)).heap[b]? = some o := by
    intro b o hb
    rw [Below.heap_alloc _ _ _ (lt_of_heap hb)]; exact hb
  obtain ⟨x0, x1, x2, x3, x4, hV⟩ := h.hV
  obtain ⟨ps, hown, hit⟩ := h.row
  refine ⟨h.len, h.bsz, h.vB, heap_alloc_new wr _, ⟨x0, x1, x2, x3, x4, old _ _ hV⟩, ⟨ps, hown.alloc _, fun i p hp => ?_⟩, h.below.alloc h.bsz _⟩
  obtain ⟨h1, cs, h2, h3⟩ := hit i p hp
  exact ⟨h1, cs, old _ _ h2, h3⟩

/-- .. and an empty key map. -/
theorem Vl.frameMap (h : Vl B w V a n cap ks wr) :
    Fr B w wr.heap.size V (some (wr.heap.size + 1)) a n cap ks ((wr.alloc (.cells #[.pointer (some ⟨V, 0, none⟩), .map (some (wr.heap.size + 1))] 46)).alloc (.map #[] 0)) ∧
    SetAt ((wr.alloc (.cells #[.pointer (some ⟨V, 0, none⟩), .map (some (wr.heap.size + 1))] 46)).alloc (.map #[] 0)) (wr.heap.size + 1) [] := by
  refine ⟨(h.frame _).kept (World.grownBy_alloc _ _ none) (fun b e => by cases e), ?_⟩
  have := SetAt.made (wr.alloc (.cells #[.pointer (some ⟨V, 0, none⟩), .map (some (wr.heap.size + 1))] 46))
  simpa using this

theorem Vl.fresh (w : World) (x0 x1 x2 x3 x4 : Value) : Vl w.heap.size w w.heap.size none 0 0 [] (w.alloc (.cells #[x0, x1, x2, x3, x4, .slice none 0 0] 43)) :=
  ⟨rfl, Nat.le_refl _, ⟨x0, x1, x2, x3, x4, heap_alloc_new w _⟩, ⟨[], World.ownsRow_nil _ _ _ _, fun i p hp => by simp at hp⟩, (Below.refl _ _).alloc (Nat.le_refl _) _⟩
end
end Go.Proofs.Qxb6605305a.KS
