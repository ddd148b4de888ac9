/-
  ZZAdd.
-/
import Derived.Test.Qxb6605305aAddLaw
import Derived.Deep.RegionLaw
namespace Go.Proofs.Qxb6605305a.KS
open Go.ChangeShapes Go.WideShapes Go.ChangeAt Go.RowKit
set_option linter.unusedVariables false

/-- What ZZAdd leaves. -/
def Added (B : Nat) (w : World) (F V : Nat) (r : Option Nat) (n : Nat) (ks : List ByteArray) (mo : Option (List ByteArray)) (w' : World) : Prop := ∃ a' cap', Fr B w F V r a' (n + 1) cap' ks w' ∧ KM B r mo w'

set_option maxRecDepth 100000 in
set_option maxHeartbeats 3200000 in
theorem add_fr (B : Nat) (w : World) (F V : Nat) (r : Option Nat) (a : Option Addr) (n cap : Nat) (ks : List ByteArray) (wr : World) (s : ByteArray) (h : Fr B w F V r a n cap ks wr) (mo : Option (List ByteArray)) (hK : KM B r mo wr) (hn : n ≤ 100000) :
    Calls Try.prog 20 #[.pointer (some ⟨F, 0, none⟩), .string s] wr fun e w' => e = .returned (.tuple #[]) ∧ Added B w F V r n (ks ++ [s]) mo w' := by
  obtain ⟨i0, hi0, hz0, hz1, hz2⟩ := info_parts Try.info39
  have HH : Hid (Fr B w F V r a n cap ks wr) := h
  have HKM : Hid (KM B r mo wr) := hK
  clear hK
  have c0 := h.c0
  have c5 := h.c5
  have f5 := h.f5
  have hFlt := lt_of_heap h.hF
  have hVlt : V < wr.heap.size := by obtain ⟨x0, x1, x2, x3, x4, hV⟩ := h.hV; exact lt_of_heap hV
  obtain ⟨ps, hown, hit⟩ := h.row
  have HI : Hid (∀ i p, ps[i]? = some p → p ≠ V ∧ ItemAt wr p (kth ks i)) := hit
  have hbsz := h.bsz
  have nF : (Value.slice a n cap).ownBlock ≠ some F := by
    intro e
    rcases hown.2 with ⟨hv, _⟩ | ⟨g, cap', cur, hv, _, hh, _⟩
    · simp only [Value.slice.injEq] at hv; rw [hv.1] at e; simp [Value.ownBlock] at e
    · simp only [Value.slice.injEq] at hv
      rw [hv.1] at e
      simp [Value.ownBlock] at e
      rw [e, h.hF] at hh; simp at hh
  have nV : (Value.slice a n cap).ownBlock ≠ some V := by
    intro e
    obtain ⟨x0, x1, x2, x3, x4, hV⟩ := h.hV
    rcases hown.2 with ⟨hv, _⟩ | ⟨g, cap', cur, hv, _, hh, _⟩
    · simp only [Value.slice.injEq] at hv; rw [hv.1] at e; simp [Value.ownBlock] at e
    · simp only [Value.slice.injEq] at hv
      rw [hv.1] at e
      simp [Value.ownBlock] at e
      rw [e, hV] at hh; simp at hh
  have HO : Hid (wr.ownsRow B 39 1 (.slice a n cap) n (ps.map ptr)) := hown
  have hnew : ∀ o1 o2 : Obj, ((wr.alloc o1).alloc o2).heap[wr.heap.size + 1]? = some o2 := by
    intro o1 o2
    have := heap_alloc_new (wr.alloc o1) o2
    simpa using this
  have HNew : Hid (∀ o1 o2 : Obj, ((wr.alloc o1).alloc o2).heap[wr.heap.size + 1]? = some o2) := hnew
  have HFz : Hid (∀ o1 o2 : Obj, ((wr.alloc o1).alloc o2).frozen? ⟨V, 5, none⟩ = false) := by
    intro o1 o2
    rw [World.frozen?_alloc_past _ _ _ (by simp; omega), World.frozen?_alloc_past _ _ _ hVlt]; exact f5
  have HC5 : Hid (∀ o1 o2 : Obj, ((wr.alloc o1).alloc o2).cell? ⟨V, 5, none⟩ = some (.slice a n cap)) := by
    intro o1 o2
    rw [World.cell?_alloc_past _ _ _ (by simp; omega), World.cell?_alloc_past _ _ _ hVlt]; exact c5
  have HC0 : Hid (∀ o1 o2 : Obj, ((wr.alloc o1).alloc o2).cell? ⟨F, 0, none⟩ = some (.pointer (some ⟨V, 0, none⟩))) := by
    intro o1 o2
    rw [World.cell?_alloc_past _ _ _ (by simp; omega), World.cell?_alloc_past _ _ _ hFlt]; exact c0
  clear hit h hown hnew
  go_enter Try.func20, Try.ntmps20
  go_wp2_with fail
  go_region_law
    ((refine step_append_lies _ (by rfl) _ _ _ (by rfl) B 39 i0 _ 1 8 Try.underlying41 hi0 hz0 hz1 hz2 rfl (by omega) (.slice a n cap) n (ps.map ptr) (by rfl) (((HO.out.drew).alloc _).alloc _)
        ⟨wr.heap.size + 1, 0, none⟩ 1 1 [ptr wr.heap.size] (by rfl) (by rfl) (World.news_of_block (cs := #[ptr wr.heap.size]) (t := 39) (fr := (0, 0)) (HNew.out _ _)) (by simp [Value.oneCell', ptr])
        (by omega) (by unfold maxLen; omega) (by omega) (by simp; omega) (wr.heap.size + 2) (by simp) ?_; intro gg cap' w1 hown1 hgrow hat hlt; have f5' : w1.frozen? ⟨V, 5, none⟩ = false := (hgrow.frozen_far ⟨V, 5, none⟩ (by simp; omega) (Ne.symm nV)).trans (HFz.out _ _); have c5' : w1.cell? ⟨V, 5, none⟩ = some (.slice a n cap) := (hgrow.cell_far ⟨V, 5, none⟩ (by simp; omega) (Ne.symm nV)).trans (HC5.out _ _); have c0' : w1.cell? ⟨F, 0, none⟩ = some (.pointer (some ⟨V, 0, none⟩)) := (hgrow.cell_far ⟨F, 0, none⟩ (by simp; omega) (Ne.symm nF)).trans (HC0.out _ _); have HA : Hid (Added B w F V r n (ks ++ [s]) mo (w1.setCell ⟨V, 5, none⟩ (.slice (some ⟨gg, 0, none⟩) (n + 1) cap'))) := ⟨_, _, HH.out.added HO.out HI.out rfl hown1 hgrow, HH.out.added_map HKM.out hgrow⟩; clear hown1 hgrow hat hlt))
  all_goals (go_wp2; go_end0; exact ⟨rfl, HA.out⟩)
end Go.Proofs.Qxb6605305a.KS
