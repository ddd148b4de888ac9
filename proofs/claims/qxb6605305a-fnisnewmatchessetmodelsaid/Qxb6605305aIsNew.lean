/-
  isNew with a key map, or at sixteen items and more.
-/
import Derived.Test.Qxb6605305aFrame
namespace Go.Proofs.Qxb6605305a.KS
open Go.ChangeShapes Go.WideShapes Go.ChangeAt Go.RowKit
open Go.WideMaps (keyOf_string_mk)
set_option linter.unusedVariables false

/-- 'm[s] = true' at the operation. -/
theorem wpList_put (w : World) {ops : Array Oper} {rest : List Oper} {o : Oper} {a : Act} {Q : Exit → Act → World → Prop}
    (hg : o.guard = none) (m x v : Operand) (hop : o.op = Op.mapUpdate 44 m x v) (M : Nat) (S : List ByteArray) (s : ByteArray) (hm : a.eval m = .map (some M)) (hx : a.eval x = .string s) (hv : a.eval v = .bool true)
    (h : SetAt w M S) (hs : s.size ≤ maxLen) (hn : S.length < maxLen) (hK : ∀ w', SetAt w' M (S ++ [s]) → w.grownBy w' (some M) → wpList Try.prog ops Q rest (a.put o.dst undef) w') :
    wpList Try.prog ops Q (o :: rest) a w :=
  wpList_mapUpdate_own w hg m x v 44 hop 9 4 law9 Try.underlying44 (plainElem Try.prog 4) M S.length (setD S) hm h hn (.string s) (.bool true) (kl s) hx hv (keyOf_string_mk Try.underlying9 hs) (.lit (.bool true)) [] (plainElem_bool Try.underlying4 true)
    (fun w' h1 h2 => hK w' (by unfold SetAt; rw [setD_snoc, List.length_append]; exact h1) h2)

/-- What isNew leaves where it has a map: S the set it looks in. -/
def Newed (B : Nat) (w : World) (F V : Nat) (a : Option Addr) (n cap : Nat) (ks : List ByteArray) (S : List ByteArray) (s : ByteArray) (e : Ending) (w' : World) : Prop :=
  e = .returned (.bool (!mem S s)) ∧ ∃ M, Fr B w F V (some M) a n cap ks w' ∧ B ≤ M ∧ SetAt w' M (if mem S s then S else S ++ [s])

set_option maxRecDepth 8000 in
set_option maxHeartbeats 1000000 in
theorem isNew_map (B : Nat) (w : World) (F V M : Nat) (a : Option Addr) (n cap : Nat) (ks : List ByteArray) (wr : World) (s : ByteArray) (S : List ByteArray) (h : Fr B w F V (some M) a n cap ks wr) (hM : B ≤ M) (hS : SetAt wr M S) (hs : s.size ≤ maxLen) (hl : S.length ≤ 100000) :
    Calls Try.prog 26 #[.pointer (some ⟨F, 0, none⟩), .string s] wr (Newed B w F V a n cap ks S s) := by
  have HH : Hid (Fr B w F V (some M) a n cap ks wr) := h
  have HS : Hid (SetAt wr M S) := hS
  have c0 := h.c0
  have c1 := h.c1
  have c5 := h.c5
  have q := q44
  have hlook := hS.look s hs
  clear h hS
  cases hmem : mem S s with
  | true =>
    rw [hmem] at hlook
    go_enter Try.func26, Try.ntmps26
    go_wp2
    go_ret
    refine ⟨ret_bool (by rw [hmem]; rfl), M, HH.out, hM, ?_⟩
    rw [hmem]; exact HS.out
  | false =>
    rw [hmem] at hlook
    go_enter Try.func26, Try.ntmps26
    go_wp2_with (at_mapUpdate; refine wpList_put _ rfl _ _ _ rfl M S s rfl rfl rfl HS.out hs (by unfold maxLen; omega) ?_)
    intro w1 hS1 hg1
    have HF1 : Hid (Fr B w F V (some M) a n cap ks w1) := HH.out.kept hg1 (fun b e => by cases e; exact ⟨hM, HS.out.block⟩)
    have HS1 : Hid (SetAt w1 M (S ++ [s])) := hS1
    clear hS1 hg1
    go_wp2
    go_ret
    refine ⟨ret_bool (by rw [hmem]; rfl), M, HF1.out, hM, ?_⟩
    rw [hmem]; exact HS1.out

/-- A map is made, and its block stored into the field. -/
theorem Fr.makeMap {B : Nat} {w : World} {F V : Nat} {r : Option Nat} {a : Option Addr} {n cap : Nat} {ks : List ByteArray} {wr : World} (h : Fr B w F V r a n cap ks wr) :
    Fr B w F V (some wr.heap.size) a n cap ks ((wr.setCell ⟨F, 1, none⟩ (.map (some wr.heap.size))).alloc (.map #[] 0)) ∧ SetAt ((wr.setCell ⟨F, 1, none⟩ (.map (some wr.heap.size))).alloc (.map #[] 0)) wr.heap.size [] := by
  refine ⟨(h.setMap (some wr.heap.size)).kept (World.grownBy_alloc _ _ none) (fun b e => by cases e), ?_⟩
  have := SetAt.made (wr.setCell ⟨F, 1, none⟩ (.map (some wr.heap.size)))
  simpa [World.setCell] using this

theorem SetAt.ne {w : World} {M : Nat} {S : List ByteArray} (h : SetAt w M S) {p i : Nat} {v : Value} (hc : w.cell? ⟨p, i, none⟩ = some v) : p ≠ M := by
  intro e
  subst e
  obtain ⟨es, clock, hb⟩ := h.block
  simp [World.cell?, hb] at hc

set_option maxRecDepth 8000 in
set_option maxHeartbeats 1000000 in
theorem isNew_many (B : Nat) (w : World) (F V : Nat) (a : Option Addr) (n cap : Nat) (ks : List ByteArray) (wr : World) (s : ByteArray) (h : Fr B w F V none a n cap ks wr) (hn : ¬ n < 16) (hs : s.size ≤ maxLen) (hks : ∀ x ∈ ks, x.size ≤ maxLen) (hl : n ≤ 100000) :
    Calls Try.prog 26 #[.pointer (some ⟨F, 0, none⟩), .string s] wr (Newed B w F V a n cap ks ks s) := by
  have HH : Hid (Fr B w F V none a n cap ks wr) := h
  have HK : Hid (∀ x ∈ ks, x.size ≤ maxLen) := hks
  have HL : Hid (ks.length = n) := h.len
  have c0 := h.c0
  have c1 := h.c1
  have c5 := h.c5
  have f1 := h.f1
  have q := q44
  have hmk := fun w' => run_makeMap_hint w' 32
  have hFlt := lt_of_heap h.hF
  have hVlt : V < wr.heap.size := by obtain ⟨x0, x1, x2, x3, x4, hV⟩ := h.hV; exact lt_of_heap hV
  clear h hks
  have hn' : decide ((n : Int) < 16) = false := decide_eq_false (by omega)
  go_enter Try.func26, Try.ntmps26
  have hmm := HH.out.makeMap
  have hMB : B ≤ wr.heap.size := HH.out.bsz
  go_wp2
  generalize (wr.setCell ⟨F, 1, none⟩ (.map (some wr.heap.size))).alloc (.map #[] 0) = W1 at hmm ⊢
  obtain ⟨M, hM⟩ : ∃ M, wr.heap.size = M := ⟨_, rfl⟩
  rw [hM] at hmm hMB
  have HF1 : Hid (Fr B w F V (some M) a n cap ks W1) := hmm.1
  have HS1 : Hid (SetAt W1 M []) := hmm.2
  have HM : Hid (wr.heap.size = M) := hM
  clear hmm hM c0 c1 c5 f1 hFlt hVlt
  go_loopw [61] (fun i wi => ∃ k : Nat, i = .int .i64 k ∧ k ≤ n ∧ Fr B w F V (some M) a n cap ks wi ∧ SetAt wi M (ks.take k)) (fun i _ => n - (intOf i).toNat)
  case atStart => exact ⟨0, rfl, Nat.zero_le _, HF1.out, HS1.out⟩
  case round =>
    obtain ⟨k, rfl, hk, hFr, hSt⟩ := hrel
    clear HF1 HS1
    have HFr : Hid (Fr B w F V (some M) a n cap ks wr) := hFr
    have HSt : Hid (SetAt wr M (ks.take k)) := hSt
    have c1 := hFr.c1
    have c0 := hFr.c0
    by_cases hlt : k < n
    · obtain ⟨g, p, ha, d1, d2⟩ := hFr.item hlt
      subst ha
      obtain ⟨x, hx⟩ : ∃ x, kth ks k = x := ⟨_, rfl⟩
      have hxs : x.size ≤ maxLen := by rw [← hx]; exact HK.out _ (kth_mem ks k (by have := HL.out; omega))
      have HTk : Hid (ks.take (k + 1) = ks.take k ++ [x]) := by show _ = _; rw [take_kth ks k (by have := HL.out; omega), hx]
      rw [hx] at d2
      have hSd : SetAt wr.drew M (ks.take k) := hSt
      have hkl : (ks.take k).length < maxLen := by have h1 : (ks.take k).length ≤ k := List.length_take_le _ _; unfold maxLen; omega
      obtain ⟨w2, hrun, hset, hgrow⟩ := hSd.put x hxs hkl
      have hFr2 : Fr B w F V (some M) (some ⟨g, 0, none⟩) n cap ks w2 := (hFr.drewN 1).kept hgrow (fun b e => by cases e; exact ⟨hMB, hSt.block⟩)
      have e1 := hFr2.c1
      have e2 : w2.cell? ⟨p, 1, none⟩ = some (.string x) := hgrow.cell (w := wr.drew) d2 (by have := hSt.ne d2; simpa using this)
      have HFr2 : Hid (Fr B w F V (some M) (some ⟨g, 0, none⟩) n cap ks w2) := hFr2
      have HSet : Hid (SetAt w2 M (ks.take k ++ [x])) := hset
      have HG : Hid (wr.drew.grownBy w2 (some M)) := hgrow
      clear hFr hSt hSd hset hgrow hx hFr2 hkl
      go_wp2
      go_region_held3 (fun w' => w'.cell? ⟨F, 1, none⟩ = some (.map (some M)) ∧ w'.cell? ⟨p, 1, none⟩ = some (.string x)) (go_keep) (fail)
      go_wp2
      go_roundw
      case rel => exact ⟨k + 1, by go_num, by omega, HFr2.out, by rw [HTk.out]; exact HSet.out⟩
      case measure => simp [intOf]; omega
    · have hke : ks.take k = ks := List.take_of_length_le (by have := HL.out; omega)
      rw [hke] at hSt
      have HSk : Hid (SetAt wr M ks) := hSt
      have hlook := hSt.look s hs
      clear hFr hSt hke HSt
      cases hmem : mem ks s with
      | true =>
        rw [hmem] at hlook
        go_wp2
        go_ret
        refine ⟨ret_bool (by rw [hmem]; rfl), M, HFr.out, hMB, ?_⟩
        rw [hmem]; exact HSk.out
      | false =>
        rw [hmem] at hlook
        go_wp2_with (at_mapUpdate; refine wpList_put _ rfl _ _ _ rfl M ks s rfl rfl rfl HSk.out hs (by have := HL.out; unfold maxLen; omega) ?_)
        intro w1 hS1 hg1
        have HF1 : Hid (Fr B w F V (some M) a n cap ks w1) := HFr.out.kept hg1 (fun b e => by cases e; exact ⟨hMB, HSk.out.block⟩)
        have HS1 : Hid (SetAt w1 M (ks ++ [s])) := hS1
        clear hS1 hg1
        go_wp2
        go_ret
        refine ⟨ret_bool (by rw [hmem]; rfl), M, HF1.out, hMB, ?_⟩
        rw [hmem]; exact HS1.out
end Go.Proofs.Qxb6605305a.KS
