/-
  A frame with its value, its items and its key map: what the functions of strictjson do to it.
-/
import Derived.Test.Qxb6605305aStrs
import Derived.Deep.RegionHeld3
import Derived.Deep.AppendLies
import Derived.Deep.DrawnRows
import Derived.Deep.QuietTactic
import Derived.BigQuiet
namespace Go.Proofs.Qxb6605305a.KS
open Go.ChangeShapes Go.WideShapes Go.ChangeAt Go.RowKit
set_option linter.unusedVariables false

/-- A pointer to block p. -/
def ptr (p : Nat) : Value := .pointer (some ⟨p, 0, none⟩)

/-- Block p is an item whose key is k. -/
def ItemAt (w : World) (p : Nat) (k : ByteArray) : Prop := ∃ cs, w.heap[p]? = some (.cells cs 43 (0, 0)) ∧ cs[1]? = some (.string k)

theorem ItemAt.cell {w : World} {p : Nat} {k : ByteArray} (h : ItemAt w p k) : w.cell? ⟨p, 1, none⟩ = some (.string k) := by
  obtain ⟨cs, hb, hc⟩ := h
  rw [cell_of_row w p 1 cs 43 (0, 0) hb]; exact hc

/-- A frame lies at block F, its value at block V; the value's items are 'a', n of them (room for cap), under the keys ks; its key map is r. Nothing below block B has turned since w. -/
structure Fr (B : Nat) (w : World) (F V : Nat) (r : Option Nat) (a : Option Addr) (n cap : Nat) (ks : List ByteArray) (wr : World) : Prop where
  len : ks.length = n
  fB : B ≤ F
  vB : B ≤ V
  hF : wr.heap[F]? = some (.cells #[ptr V, .map r] 46 (0, 0))
  hV : ∃ x0 x1 x2 x3 x4, wr.heap[V]? = some (.cells #[x0, x1, x2, x3, x4, .slice a n cap] 43 (0, 0))
  row : ∃ ps : List Nat, wr.ownsRow B 39 1 (.slice a n cap) n (ps.map ptr) ∧ ∀ i p, ps[i]? = some p → p ≠ V ∧ ItemAt wr p (kth ks i)
  below : Below B w wr

/-- The key map: nil, or the set of the strings S, in a block of the call's own. -/
def KM (B : Nat) (r : Option Nat) (mo : Option (List ByteArray)) (wr : World) : Prop :=
  match r, mo with
  | none, none => True
  | some M, some S => B ≤ M ∧ SetAt wr M S
  | _, _ => False

theorem SetAt.kept {w w' : World} {M : Nat} {S : List ByteArray} {row : Option Nat} (h : SetAt w M S) (hg : w.grownBy w' row) (hne : some M ≠ row) : SetAt w' M S := World.ownsMap.kept h hg hne
theorem SetAt.lt {w : World} {M : Nat} {S : List ByteArray} (h : SetAt w M S) : M < w.heap.size := World.ownsMap.lt h
theorem SetAt.block {w : World} {M : Nat} {S : List ByteArray} (h : SetAt w M S) : ∃ es clock, w.heap[M]? = some (.map es clock) := by
  obtain ⟨es, clock, hb, _⟩ := h; exact ⟨es, clock, hb⟩

section
variable {B : Nat} {w : World} {F V : Nat} {r : Option Nat} {a : Option Addr} {n cap : Nat} {ks : List ByteArray} {wr : World}

theorem lt_of_heap {w : World} {k : Nat} {o : Obj} (h : w.heap[k]? = some o) : k < w.heap.size := (Array.getElem?_eq_some_iff.1 h).1

theorem Fr.c0 (h : Fr B w F V r a n cap ks wr) : wr.cell? ⟨F, 0, none⟩ = some (.pointer (some ⟨V, 0, none⟩)) := by
  rw [cell_of_row wr F 0 _ 46 (0, 0) h.hF]; rfl
theorem Fr.c1 (h : Fr B w F V r a n cap ks wr) : wr.cell? ⟨F, 1, none⟩ = some (.map r) := by
  rw [cell_of_row wr F 1 _ 46 (0, 0) h.hF]; rfl
theorem Fr.f1 (h : Fr B w F V r a n cap ks wr) : wr.frozen? ⟨F, 1, none⟩ = false := frozen_of_row wr F 1 _ 46 h.hF
theorem Fr.c5 (h : Fr B w F V r a n cap ks wr) : wr.cell? ⟨V, 5, none⟩ = some (.slice a n cap) := by
  obtain ⟨x0, x1, x2, x3, x4, hV⟩ := h.hV
  rw [cell_of_row wr V 5 _ 43 (0, 0) hV]; rfl
theorem Fr.f5 (h : Fr B w F V r a n cap ks wr) : wr.frozen? ⟨V, 5, none⟩ = false := by
  obtain ⟨x0, x1, x2, x3, x4, hV⟩ := h.hV
  exact frozen_of_row wr V 5 _ 43 hV

theorem Fr.ne (h : Fr B w F V r a n cap ks wr) : F ≠ V := by
  intro e
  obtain ⟨x0, x1, x2, x3, x4, hV⟩ := h.hV
  have := h.hF
  rw [e, hV] at this
  simp at this

/-- Item i: its pointer in the row, its key. -/
theorem Fr.item (h : Fr B w F V r a n cap ks wr) {i : Nat} (hi : i < n) :
    ∃ g p, a = some ⟨g, 0, none⟩ ∧ wr.cell? ⟨g, i, none⟩ = some (.pointer (some ⟨p, 0, none⟩)) ∧ wr.cell? ⟨p, 1, none⟩ = some (.string (kth ks i)) := by
  obtain ⟨ps, hown, hit⟩ := h.row
  have hl := hown.1
  simp at hl
  rcases hown.2 with ⟨_, h0⟩ | ⟨g, cap', cur, hv, _⟩
  · omega
  · simp only [Value.slice.injEq] at hv
    obtain ⟨rfl, _, rfl⟩ := hv
    have hp : ps[i]? = some (ps[i]'(by omega)) := List.getElem?_eq_getElem _
    refine ⟨g, ps[i]'(by omega), rfl, ?_, (hit i _ hp).2.cell⟩
    rw [hown.cellAt i (by omega), List.getElem?_map, hp]; rfl

/-- Other blocks turn: new ones, and one that is none of the frame's. -/
theorem Fr.kept (h : Fr B w F V r a n cap ks wr) {w1 : World} {row : Option Nat} (hg : wr.grownBy w1 row) (hr : ∀ b, row = some b → B ≤ b ∧ ∃ es clock, wr.heap[b]? = some (.map es clock)) : Fr B w F V r a n cap ks w1 := by
  have hmap : ∀ (b : Nat) (o : Obj), wr.heap[b]? = some o → (∀ es clock, o ≠ Obj.map es clock) → w1.heap[b]? = some o := by
    intro b o hb hne
    rw [hg.block b (lt_of_heap hb) (by
      intro e
      obtain ⟨_, es, clock, hm⟩ := hr b e.symm
      rw [hb] at hm
      exact hne es clock (Option.some.inj hm))]
    exact hb
  obtain ⟨x0, x1, x2, x3, x4, hV⟩ := h.hV
  obtain ⟨ps, hown, hit⟩ := h.row
  refine ⟨h.len, h.fB, h.vB, hmap _ _ h.hF (by intro es clock; simp), ⟨x0, x1, x2, x3, x4, hmap _ _ hV (by intro es clock; simp)⟩, ⟨ps, ?_, fun i p hp => ?_⟩, ?_⟩
  · refine ⟨hown.1, ?_⟩
    rcases hown.2 with hn | ⟨g, cap', cur, hv, hb, hh, rest⟩
    · exact .inl hn
    · exact .inr ⟨g, cap', cur, hv, hb, hmap _ _ hh (by intro es clock; simp), rest⟩
  · obtain ⟨h1, cs, h2, h3⟩ := hit i p hp
    exact ⟨h1, cs, hmap _ _ h2 (by intro es clock; simp), h3⟩
  · exact h.below.grown hg (by have := lt_of_heap h.hF; have := h.fB; omega) (fun b e => (hr b e).1)

theorem Fr.drewN (h : Fr B w F V r a n cap ks wr) (m : Nat) : Fr B w F V r a n cap ks (wr.drewN m) :=
  ⟨h.len, h.fB, h.vB, h.hF, h.hV, h.row, ⟨h.below.os, h.below.tape, h.below.output, h.below.size, h.below.block⟩⟩

/-- The key map's field is stored. -/
theorem Fr.setMap (h : Fr B w F V r a n cap ks wr) (r' : Option Nat) : Fr B w F V r' a n cap ks (wr.setCell ⟨F, 1, none⟩ (.map r')) := by
  have hoth : ∀ (b : Nat) (o : Obj), wr.heap[b]? = some o → b ≠ F → (wr.setCell ⟨F, 1, none⟩ (.map r')).heap[b]? = some o := by
    intro b o hb hne
    rw [Below.heap_setCell _ _ _ _ hne]; exact hb
  obtain ⟨x0, x1, x2, x3, x4, hV⟩ := h.hV
  obtain ⟨ps, hown, hit⟩ := h.row
  have hF := h.hF
  refine ⟨h.len, h.fB, h.vB, ?_, ⟨x0, x1, x2, x3, x4, hoth _ _ hV h.ne.symm⟩, ⟨ps, ?_, fun i p hp => ?_⟩, h.below.setCell h.fB _⟩
  · rw [heap_setCell_same wr F 1 _ 46 _ hF]; rfl
  · refine ⟨hown.1, ?_⟩
    rcases hown.2 with hn | ⟨g, cap', cur, hv, hb, hh, rest⟩
    · exact .inl hn
    · refine .inr ⟨g, cap', cur, hv, hb, hoth _ _ hh ?_, rest⟩
      intro e; rw [e, hF] at hh; simp at hh
  · obtain ⟨h1, cs, h2, h3⟩ := hit i p hp
    refine ⟨h1, cs, hoth _ _ h2 ?_, h3⟩
    intro e; rw [e, hF] at h2; simp at h2

theorem Fr.bsz (h : Fr B w F V r a n cap ks wr) : B ≤ wr.heap.size := by have := lt_of_heap h.hF; have := h.fB; omega
end

theorem q44 (w : World) (r : Option Nat) : (binOp .eql 44 (.map r) (.map none)).run Try.prog w = .ok (.bool r.isNone) w := run_eql_map_nil w _ _ _ r Try.underlying44

/-! ### isNew, fewer than sixteen items and no map -/
set_option maxRecDepth 8000 in
set_option maxHeartbeats 1000000 in
theorem isNew_few (B : Nat) (w : World) (F V : Nat) (a : Option Addr) (n cap : Nat) (ks : List ByteArray) (wr : World) (s : ByteArray) (h : Fr B w F V none a n cap ks wr) (hn : n < 16) :
    Calls Try.prog 26 #[.pointer (some ⟨F, 0, none⟩), .string s] wr fun e w' => e = .returned (.bool (!mem ks s)) ∧ w' = wr := by
  have HH : Hid (Fr B w F V none a n cap ks wr) := h
  have c0 := h.c0
  have c1 := h.c1
  have c5 := h.c5
  have q := q44
  have HL : Hid (ks.length = n) := h.len
  clear h
  have hn' : (n : Int) < 16 := by omega
  go_enter Try.func26, Try.ntmps26
  go_wp2
  go_loop [33] (fun i => ∃ k : Nat, i = .int .i64 k ∧ k ≤ n ∧ mem (ks.take k) s = false) (fun i => n - (intOf i).toNat)
  case atStart => exact ⟨0, rfl, Nat.zero_le _, rfl⟩
  case round =>
    obtain ⟨k, rfl, hk, hmem⟩ := hrel
    have HM : Hid (mem (ks.take k) s = false) := hmem
    clear hmem
    by_cases hlt : k < n
    · obtain ⟨g, p, ha, d1, d2⟩ := HH.out.item hlt
      subst ha
      obtain ⟨x, hx⟩ : ∃ x, kth ks k = x := ⟨_, rfl⟩
      rw [hx] at d2
      have e1 : mem (ks.take (k + 1)) s = same x s := by rw [take_kth ks k (by have := HL.out; omega), mem_snoc, HM.out, hx]; rfl
      cases hs : same x s with
      | true =>
        have hs' : (x.toList == s.toList) = true := hs
        have HE : Hid (mem ks s = true) := by
          show _ = _
          rw [hs, mem_iff] at e1
          rw [mem_iff]
          exact List.mem_of_mem_take e1
        clear e1 hs hx
        go_wp2
        go_ret
        exact ⟨ret_bool (by rw [HE.out]; rfl), rfl⟩
      | false =>
        have hs' : (x.toList == s.toList) = false := hs
        rw [hs] at e1
        have HE : Hid (mem (ks.take (k + 1)) s = false) := e1
        clear e1 hs hx
        go_wp2
        go_round
        case rel => exact ⟨k + 1, by go_num, by omega, HE.out⟩
        case measure => simp [intOf]; omega
    · have HE : Hid (mem ks s = false) := by
        show _ = _
        have : ks.take k = ks := List.take_of_length_le (by have := HL.out; omega)
        rw [← this]; exact HM.out
      go_wp2
      go_ret
      exact ⟨ret_bool (by rw [HE.out]; rfl), rfl⟩
end Go.Proofs.Qxb6605305a.KS
