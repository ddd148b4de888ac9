/-
  Lists of strings, sets of strings as maps, and the look-up in a map[string]bool that the call has made.
-/
import Derived.Test.Qxb6605305aRows
import Derived.WalkKit
import Derived.WalkSpells
import Derived.WalkLawsBesides
import Derived.ProofKit
import Derived.Below
import Derived.Maps.Own
import Derived.Maps.OwnOps
import Derived.Maps.OwnSet
import Derived.Maps.Views
namespace Go.Proofs.Qxb6605305a.KS
open Go.ChangeShapes Go.WideShapes Go.ChangeAt Go.RowKit
open Go.Maps (Keyed setOf)
open Go.WideMaps (keyOf_string_mk)
set_option linter.unusedVariables false

/-- Two strings of the same bytes, as the walk tests it. -/
def same (x s : ByteArray) : Bool := x.toList == s.toList
theorem same_iff (x s : ByteArray) : same x s = true ↔ x = s := by
  unfold same
  rw [beq_iff_eq, ByteArray.toList_eq, ByteArray.toList_eq]
  exact ⟨fun h => bytes_inj h, fun h => by rw [h]⟩
theorem same_self (x : ByteArray) : same x x = true := (same_iff x x).2 rfl

/-- Is s on the list? -/
def mem (S : List ByteArray) (s : ByteArray) : Bool := S.any (fun x => same x s)
theorem mem_iff (S : List ByteArray) (s : ByteArray) : mem S s = true ↔ s ∈ S := by
  unfold mem
  rw [List.any_eq_true]
  constructor
  · rintro ⟨x, hx, h⟩; rw [same_iff] at h; exact h ▸ hx
  · intro h; exact ⟨s, h, same_self s⟩
theorem mem_false (S : List ByteArray) (s : ByteArray) : mem S s = false ↔ s ∉ S := by
  rw [← mem_iff]; cases mem S s <;> simp
theorem mem_snoc (S : List ByteArray) (x s : ByteArray) : mem (S ++ [x]) s = (mem S s || same x s) := by unfold mem; simp [List.any_append]

/-- String k of a list. -/
def kth (S : List ByteArray) (k : Nat) : ByteArray := S.getD k ByteArray.empty
theorem kth_mem (S : List ByteArray) (k : Nat) (h : k < S.length) : kth S k ∈ S := by
  unfold kth; rw [List.getD_eq_getElem?_getD, List.getElem?_eq_getElem h, Option.getD_some]; exact List.getElem_mem h
theorem take_kth (S : List ByteArray) (k : Nat) (h : k < S.length) : S.take (k + 1) = S.take k ++ [kth S k] := by
  unfold kth; rw [List.take_succ_eq_append_getElem h, List.getD_eq_getElem?_getD, List.getElem?_eq_getElem h, Option.getD_some]
theorem kth_getElem? (S : List ByteArray) (k : Nat) (h : k < S.length) : S[k]? = some (kth S k) := by
  unfold kth; rw [List.getD_eq_getElem?_getD, List.getElem?_eq_getElem h, Option.getD_some]
theorem kth_append_left (S T : List ByteArray) (k : Nat) (h : k < S.length) : kth (S ++ T) k = kth S k := by
  unfold kth; rw [List.getD_eq_getElem?_getD, List.getD_eq_getElem?_getD, List.getElem?_append_left h]
theorem kth_append_last (S : List ByteArray) (x : ByteArray) : kth (S ++ [x]) S.length = x := by
  unfold kth; rw [List.getD_eq_getElem?_getD]; simp

/-- How many different strings there are among the first k. -/
def cntL (S : List ByteArray) : Nat → Nat
  | 0 => 0
  | k + 1 => cntL S k + if mem (S.take k) (kth S k) then 0 else 1

theorem cntL_le (S : List ByteArray) (k : Nat) : cntL S k ≤ k := by
  induction k with
  | zero => simp [cntL]
  | succ k ih => simp only [cntL]; split <;> omega

/-! ### The set as a map that reads as a datum -/
/-- What a string key reads as. -/
def kl (s : ByteArray) : Lit := .string s.data.toList
theorem kl_key (s : ByteArray) : WideAt.IsKeyLit (kl s) := trivial
theorem kl_inj {x s : ByteArray} (h : kl x = kl s) : x = s := by unfold kl at h; exact bytes_inj (Lit.string.inj h)
theorem kl_same (x s : ByteArray) : (kl x).sameKey (kl s) = same x s := by
  rw [Bool.eq_iff_iff, same_iff]
  constructor
  · intro h; exact kl_inj (WideAt.sameKey_eq h)
  · intro h; rw [h]; exact WideAt.sameKey_self (kl_key s)

/-- The set of the strings S, as a datum. -/
def setD (S : List ByteArray) : DataW Unit := setOf (.lit (.bool true)) (S.map kl)

theorem keys_all (S : List ByteArray) : ∀ x ∈ S.map kl, WideAt.IsKeyLit x := by
  intro x hx; obtain ⟨s, _, rfl⟩ := List.mem_map.1 hx; exact kl_key s

theorem setD_nil : setD [] = .map [] := rfl
theorem setD_snoc (S : List ByteArray) (s : ByteArray) : setD (S ++ [s]) = (setD S).put (kl s) (.lit (.bool true)) := by
  unfold setD; rw [List.map_append]; exact Maps.setOf_snoc _ _ _

theorem setD_has (S : List ByteArray) (s : ByteArray) : Maps.has (setD S) (kl s) = mem S s := by
  unfold setD mem
  rw [Maps.has_setOf _ _ _ (keys_all S), List.any_map]
  congr 1
  funext x
  exact kl_same x s

theorem snoc_ind {α : Type} {p : List α → Prop} (h0 : p []) (hs : ∀ l x, p l → p (l ++ [x])) : ∀ l, p l := by
  intro l
  have : ∀ r : List α, p r.reverse := by
    intro r
    induction r with
    | nil => exact h0
    | cons x r ih => rw [List.reverse_cons]; exact hs _ _ ih
  have h := this l.reverse
  rwa [List.reverse_reverse] at h

theorem setD_isMap (S : List ByteArray) : Maps.IsMap (setD S) := (Maps.tidy_setOf _ _ (keys_all S)).isMap

theorem setD_at (S : List ByteArray) (s : ByteArray) : (setD S).atKey (kl s) (.lit (.bool false)) = .lit (.bool (mem S s)) := by
  induction S using snoc_ind with
  | h0 => rfl
  | hs l x ih =>
    rw [setD_snoc, mem_snoc]
    by_cases e : x = s
    · subst e
      rw [Maps.atKey_put_same (setD_isMap l) (kl_key x), same_self, Bool.or_true]
    · rw [Maps.atKey_put_other (fun h => e (kl_inj h).symm), ih]
      have : same x s = false := by
        cases h : same x s
        · rfl
        · exact absurd ((same_iff x s).1 h) e
      rw [this, Bool.or_false]

theorem setD_size (S : List ByteArray) : Maps.size (setD S) = cntL S S.length := by
  have key : ∀ S : List ByteArray, ∀ k, k ≤ S.length → Maps.size (setD (S.take k)) = cntL S k := by
    intro S k
    induction k with
    | zero => intro _; rfl
    | succ k ih =>
      intro hk
      have ht : Maps.Tidy (setD (S.take k)) := Maps.tidy_setOf _ _ (keys_all _)
      rw [take_kth S k (by omega), setD_snoc, Maps.size_put ht, setD_has, ih (by omega)]
      simp only [cntL]
      cases mem (S.take k) (kth S k) <;> simp
  have h := key S S.length (Nat.le_refl _)
  rwa [List.take_length] at h

/-! ### The model's map -/
theorem law9 : Keyed Try.prog 9 := Maps.string_keyed Try.underlying9
theorem zero4 (w : World) : (zeroValue 4).run Try.prog w = .ok (.bool false) w := by kernel_rfl

theorem plainElem_bool_inv {v : Value} {z : DataW Unit × List MemPlace} (h : plainElem Try.prog 4 v = some z) : ∃ x, v = .bool x ∧ z = (.lit (.bool x), []) := by
  unfold plainElem at h
  rw [Try.underlying4] at h
  split at h
  · cases h; exact ⟨_, rfl, rfl⟩
  · rename_i e; cases e
  · rename_i e; cases e
  · cases h

/-- Block M of w is the set of the strings S. -/
def SetAt (w : World) (M : Nat) (S : List ByteArray) : Prop := w.ownsMap Try.prog 9 (plainElem Try.prog 4) M S.length (setD S)

theorem SetAt.look {w : World} {M : Nat} {S : List ByteArray} (h : SetAt w M S) (s : ByteArray) (hs : s.size ≤ maxLen) :
    (Instr.lookup 44 (.map (some M)) (.string s) false).run Try.prog w = .ok (.bool (mem S s)) w := by
  obtain ⟨v, ps, hrun, hv⟩ := World.ownsMap.lookup h law9 Try.underlying44 (zero4 w) (plainElem_bool Try.underlying4 false) (keyOf_string_mk Try.underlying9 hs)
  obtain ⟨x, rfl, hx⟩ := plainElem_bool_inv hv
  have e := (Prod.mk.inj hx).1
  have e2 := setD_at S s
  unfold kl at e2
  rw [e] at e2
  have e3 : x = mem S s := by injection e2 with e2; injection e2
  rw [e3] at hrun
  exact hrun

theorem SetAt.put {w : World} {M : Nat} {S : List ByteArray} (h : SetAt w M S) (s : ByteArray) (hs : s.size ≤ maxLen) (hn : S.length < maxLen) :
    ∃ w', (Instr.mapUpdate 44 (.map (some M)) (.string s) (.bool true)).run Try.prog w = .ok () w' ∧ SetAt w' M (S ++ [s]) ∧ w.grownBy w' (some M) := by
  obtain ⟨w', hrun, hown, hg⟩ := World.ownsMap.update h law9 Try.underlying44 hn (keyOf_string_mk Try.underlying9 hs) (plainElem_bool Try.underlying4 true)
  refine ⟨w', hrun, ?_, hg⟩
  unfold SetAt
  rw [setD_snoc, List.length_append]
  exact hown

theorem SetAt.len {w : World} {M : Nat} {S : List ByteArray} (h : SetAt w M S) (ty : TypeId) : (Builtin.len_ #[44] ty #[.map (some M)]).run Try.prog w = .ok (.int .i64 (cntL S S.length : Nat)) w := by
  have := World.ownsMap.len h Try.underlying44 ty
  rw [setD_size] at this
  exact this

theorem SetAt.made (w : World) : SetAt (w.alloc (.map #[] 0)) w.heap.size [] := World.ownsMap_made w Try.prog 9 _

theorem run_makeMap_hint (w : World) (n : Int) : (Instr.makeMap 44 (some (.int .i64 n))).run Try.prog w = .ok (.map (some w.heap.size)) (w.alloc (.map #[] 0)) := by
  simp [Instr.makeMap, run_underlying Try.underlying44]
  rfl
end Go.Proofs.Qxb6605305a.KS
