/-
  ZZNewFrame over nothing; the plain invariant of the script.
-/
import Derived.Test.Qxb6605305aAddLaw
namespace Go.Proofs.Qxb6605305a.KS
open Go.ChangeShapes Go.WideShapes Go.ChangeAt Go.RowKit
set_option linter.unusedVariables false

/-- What ZZNewFrame leaves. -/
def Framed (w : World) (ks : List ByteArray) (mo : Option (List ByteArray)) (e : Ending) (w' : World) : Prop :=
  ∃ F V, e = .returned (.pointer (some ⟨F, 0, none⟩)) ∧ St w.heap.size w F V ks mo w'

/-- A value and a frame, just laid. -/
theorem Fr.fresh (w : World) (x0 x1 x2 x3 x4 : Value) :
    Fr w.heap.size w (w.heap.size + 1) w.heap.size none none 0 0 [] ((w.alloc (.cells #[x0, x1, x2, x3, x4, .slice none 0 0] 43)).alloc (.cells #[.pointer (some ⟨w.heap.size, 0, none⟩), .map none] 46)) := by
  refine ⟨rfl, by omega, Nat.le_refl _, ?_, ⟨x0, x1, x2, x3, x4, ?_⟩, ⟨[], World.ownsRow_nil _ _ _ _, fun i p hp => by simp at hp⟩, ?_⟩
  · have := heap_alloc_new (w.alloc (.cells #[x0, x1, x2, x3, x4, .slice none 0 0] 43)) (.cells #[.pointer (some ⟨w.heap.size, 0, none⟩), .map none] 46)
    simpa [ptr] using this
  · rw [Below.heap_alloc _ _ _ (by simp)]
    exact heap_alloc_new w _
  · exact ((Below.refl _ _).alloc (Nat.le_refl _) _).alloc (by simp) _

set_option maxHeartbeats 400000 in
theorem new_nil (w : World) : Calls Try.prog 10 #[.slice none 0 0, .bool false, .slice none 0 0] w (Framed w [] none) := by
  go_enter Try.func10, Try.ntmps10
  go_wp2
  refine wp_loop_rounds 1 ?_; rw [rounds_succ]
  go_wp2
  go_ret
  exact ⟨w.heap.size + 1, w.heap.size, rfl, none, none, 0, Fr.fresh w _ _ _ _ _, trivial⟩

/-! ### The script's invariant -/
theorem cntL_append (S : List ByteArray) (x : ByteArray) (k : Nat) (h : k ≤ S.length) : cntL (S ++ [x]) k = cntL S k := by
  induction k with
  | zero => rfl
  | succ k ih =>
    simp only [cntL]
    rw [ih (by omega), kth_append_left S [x] k (by omega), List.take_append_of_le_length (by omega)]

theorem cntL_snoc (S : List ByteArray) (x : ByteArray) : cntL (S ++ [x]) (S ++ [x]).length = cntL S S.length + if mem S x then 0 else 1 := by
  rw [List.length_append, List.length_singleton]
  simp only [cntL]
  rw [cntL_append S x S.length (Nat.le_refl _), kth_append_last, List.take_left]

/-- Behind k rounds of the script over the keys S: the items' keys ks are the different ones among the first k; the key map is nil, or their set. -/
structure Inv (S : List ByteArray) (k : Nat) (ks : List ByteArray) (mo : Option (List ByteArray)) : Prop where
  same : ∀ x, mem ks x = mem (S.take k) x
  le : ks.length ≤ k
  sub : ∀ x ∈ ks, x ∈ S
  one : cntL ks ks.length = ks.length
  map : ∀ T, mo = some T → T = ks

theorem Inv.start (S : List ByteArray) : Inv S 0 [] none := ⟨fun x => rfl, Nat.le_refl _, (fun x hx => by cases hx), rfl, (fun T h => by cases h)⟩

theorem Inv.cur {S : List ByteArray} {k : Nat} {ks : List ByteArray} {mo : Option (List ByteArray)} (h : Inv S k ks mo) : KS.cur ks mo = ks := by
  cases mo with
  | none => rfl
  | some T => exact h.map T rfl

/-- A key that was there before. -/
theorem Inv.old {S : List ByteArray} {k : Nat} {ks : List ByteArray} {mo : Option (List ByteArray)} (h : Inv S k ks mo) (hk : k < S.length) (hm : mem ks (kth S k) = true) : Inv S (k + 1) ks (nxt ks (kth S k) mo) := by
  refine ⟨fun x => ?_, by have := h.le; omega, h.sub, h.one, fun T hT => ?_⟩
  · rw [take_kth S k hk, mem_snoc, ← h.same x]
    cases hs : KS.same (kth S k) x with
    | false => rw [Bool.or_false]
    | true => rw [← (same_iff _ _).1 hs, hm]; rfl
  · cases mo with
    | none =>
      simp only [nxt] at hT
      split at hT
      · cases hT
      · first | (rw [hm] at hT; simpa using hT.symm) | simpa using hT.symm
    | some U =>
      have e := h.map U rfl
      subst e
      simp only [nxt] at hT
      first | (rw [hm] at hT; simpa using hT.symm) | simpa using hT.symm

/-- A new key. -/
theorem Inv.new {S : List ByteArray} {k : Nat} {ks : List ByteArray} {mo : Option (List ByteArray)} (h : Inv S k ks mo) (hk : k < S.length) (hm : mem ks (kth S k) = false) : Inv S (k + 1) (ks ++ [kth S k]) (nxt ks (kth S k) mo) := by
  refine ⟨fun x => ?_, by have := h.le; simp; omega, fun x hx => ?_, ?_, fun T hT => ?_⟩
  · rw [take_kth S k hk, mem_snoc, mem_snoc, h.same x]
  · rcases List.mem_append.1 hx with hx | hx
    · exact h.sub x hx
    · rw [List.mem_singleton] at hx; rw [hx]; exact kth_mem S k hk
  · rw [cntL_snoc, hm, h.one]; simp
  · cases mo with
    | none =>
      simp only [nxt] at hT
      split at hT
      · cases hT
      · first | (rw [hm] at hT; simpa using hT.symm) | simpa using hT.symm
    | some U =>
      have e := h.map U rfl
      subst e
      simp only [nxt] at hT
      first | (rw [hm] at hT; simpa using hT.symm) | simpa using hT.symm

/-- Is there a map behind isNew? -/
theorem nxt_some (ks : List ByteArray) (s : ByteArray) (mo : Option (List ByteArray)) : (nxt ks s mo).isSome = (mo.isSome || decide (16 ≤ ks.length)) := by
  cases mo with
  | none =>
    simp only [nxt]
    by_cases h : ks.length < 16
    · rw [if_pos h, decide_eq_false (by omega)]; rfl
    · rw [if_neg h, decide_eq_true (by omega)]; rfl
  | some U => simp [nxt]
end Go.Proofs.Qxb6605305a.KS
