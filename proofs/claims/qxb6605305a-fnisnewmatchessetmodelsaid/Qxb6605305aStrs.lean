/-
  Slices of strings: read, cloned, searched, weighed.
-/
import Derived.Test.Qxb6605305aKeys
import Derived.SliceStrings
namespace Go.Proofs.Qxb6605305a.KS
open Go.ChangeShapes Go.WideShapes Go.ChangeAt Go.RowKit
set_option linter.unusedVariables false

/-- The slice's address 'a' leads to the strings S in w (of an empty list nothing is asked). -/
def Reads (w : World) (a : Option Addr) (S : List ByteArray) : Prop :=
  S = [] ∨ ∃ b off, a = some ⟨b, off, none⟩ ∧ b < w.heap.size ∧ ∀ i, i < S.length → w.cell? ⟨b, off + i, none⟩ = some (.string (kth S i))

theorem Reads.later {w w' : World} {a : Option Addr} {S : List ByteArray} (h : Reads w a S) (hb : Below w.heap.size w w') : Reads w' a S := by
  rcases h with h | ⟨b, off, ha, hlt, hc⟩
  · exact .inl h
  · exact .inr ⟨b, off, ha, Nat.lt_of_lt_of_le hlt hb.size, fun i hi => (hb.cell hlt).trans (hc i hi)⟩

theorem Reads.drewN {w : World} {a : Option Addr} {S : List ByteArray} (h : Reads w a S) (m : Nat) : Reads (w.drewN m) a S := h

theorem Reads.at {w : World} {a : Option Addr} {S : List ByteArray} (h : Reads w a S) {i : Nat} (hi : i < S.length) :
    ∃ b off, a = some ⟨b, off, none⟩ ∧ b < w.heap.size ∧ w.cell? ⟨b, off + i, none⟩ = some (.string (kth S i)) := by
  rcases h with rfl | ⟨b, off, ha, hlt, hc⟩
  · simp at hi
  · exact ⟨b, off, ha, hlt, hc i hi⟩

/-- What a []string that came in is: nil, or a row of cap strings. -/
def IsStrs (w : World) (a : Option Addr) (len cap : Nat) (ss : List ByteArray) : Prop :=
  (a = none ∧ len = 0 ∧ cap = 0 ∧ ss = []) ∨
  ∃ x, a = some x ∧ len ≤ cap ∧ cap ≤ maxLen ∧ ss.length = cap ∧ (∀ i, i < ss.length → w.cell? (x.add i) = some (.string (ss.getD i ByteArray.empty))) ∧ ∀ s ∈ ss, s.size ≤ maxLen

theorem reads_of_strs {w : World} {a : Option Addr} {len cap : Nat} {ss : List ByteArray} (h : IsStrs w a len cap ss) :
    ∃ S : List ByteArray, S.length = len ∧ len ≤ maxLen ∧ (a = none → S = []) ∧ Reads w a S ∧ ∀ s ∈ S, s.size ≤ maxLen := by
  rcases h with ⟨rfl, rfl, rfl, rfl⟩ | ⟨x, rfl, hl, hm, hz, hc, hwf⟩
  · exact ⟨[], rfl, by simp [maxLen], fun _ => rfl, .inl rfl, fun n hn => by cases hn⟩
  · refine ⟨ss.take len, by simp; omega, by omega, (fun h => by cases h), ?_, fun n hn => hwf n (List.mem_of_mem_take hn)⟩
    by_cases h0 : len = 0
    · left; simp [h0]
    · right
      obtain ⟨b, off, spot⟩ := x
      have hspot : spot = none := by simpa [Addr.add] using World.cell?_spot (hc 0 (by omega))
      subst hspot
      refine ⟨b, off, rfl, ?_, fun i hi => ?_⟩
      · have := World.block_lt_of_cell? _ _ (hc 0 (by omega)); simpa [Addr.add] using this
      · have hi' : i < len := by simp at hi; omega
        have := hc i (by omega)
        rw [Addr.add_lit] at this
        rw [this]
        unfold kth
        simp [List.getD_eq_getElem?_getD, hi']

theorem ret_bool {a b : Bool} (h : a = b) : Ending.returned (.bool a) = .returned (.bool b) := by rw [h]

/-! ### The clone -/
def half (S : List ByteArray) (m : Nat) : List Value := (S.take m).map Value.string ++ List.replicate (S.length - m) (.string ByteArray.empty)

theorem half_zero (S : List ByteArray) : half S 0 = List.replicate S.length (.string ByteArray.empty) := by simp [half]
theorem half_full (S : List ByteArray) : half S S.length = S.map Value.string := by simp [half]
theorem half_step (S : List ByteArray) (m : Nat) (h : m < S.length) : (half S m).set m (.string (kth S m)) = half S (m + 1) := by
  unfold half
  rw [take_kth S m h, List.set_append_right _ _ (by simp; omega)]
  obtain ⟨r, hr⟩ : ∃ r, S.length - m = r + 1 := ⟨S.length - m - 1, by omega⟩
  rw [hr, show S.length - (m + 1) = r by omega]
  simp [List.replicate_succ, Nat.min_eq_left (Nat.le_of_lt h)]

structure Copying (w : World) (S : List ByteArray) (m : Nat) (wr : World) : Prop where
  own : wr.ownsRow w.heap.size 9 1 (.slice (some ⟨w.heap.size, 0, none⟩) S.length S.length) S.length (half S m)
  below : Below w.heap.size w wr

theorem Copying.start {w w1 : World} {S : List ByteArray} {l : List Value} (hown : w1.ownsRow w.heap.size 9 1 (.slice (some ⟨w.heap.size, 0, none⟩) S.length S.length) S.length l) (hl : l = List.replicate S.length (.string ByteArray.empty)) (hgrow : w.grownBy w1 none) :
    Copying w S 0 w1 :=
  ⟨by rw [half_zero, ← hl]; exact hown, (Below.refl _ _).grown hgrow (Nat.le_refl _) (by intro k hk; cases hk)⟩

theorem Copying.step {w wr : World} {S : List ByteArray} {m : Nat} (h : Copying w S m wr) (hm : m < S.length) :
    Copying w S (m + 1) (wr.setCell ⟨w.heap.size, m, none⟩ (.string (kth S m))) := by
  refine ⟨?_, h.below.setCell (p := ⟨w.heap.size, m, none⟩) (Nat.le_refl _) _⟩
  have := (h.own.stored m (.string (kth S m))).1
  rw [half_step S m hm] at this
  exact this

theorem Copying.cell {w wr : World} {S : List ByteArray} {m : Nat} (h : Copying w S m wr) {i : Nat} (hm : i < S.length) : ∃ u, wr.cell? ⟨w.heap.size, i, none⟩ = some u := by
  rw [h.own.cellAt i (by omega)]
  have hl := h.own.1
  exact ⟨(half S m)[i]'(by omega), List.getElem?_eq_getElem _⟩

theorem Copying.reads {w wr : World} {S : List ByteArray} (h : Copying w S S.length wr) : Reads wr (some ⟨w.heap.size, 0, none⟩) S := by
  by_cases h0 : S = []
  · exact .inl h0
  · right
    have hlen : 0 < S.length := List.length_pos_iff.2 h0
    refine ⟨w.heap.size, 0, rfl, ?_, fun i hi => ?_⟩
    · obtain ⟨u, hu⟩ := h.cell hlen
      exact World.block_lt_of_cell? _ _ hu
    · rw [Nat.zero_add, h.own.cellAt i (by omega), half_full, List.getElem?_map, kth_getElem? S i hi]
      rfl

/-- What a clone leaves. -/
def Cloned (w : World) (S : List ByteArray) (n : Nat) (e : Ending) (w' : World) : Prop :=
  ∃ a' c', e = .returned (.slice a' n c') ∧ (a' = none → S = []) ∧ Reads w' a' S ∧ Below w.heap.size w w'

theorem Try.info9 : (Try.prog.info? 9).map (fun i => (i.zero, i.size, i.bytes)) = some (some (.string ByteArray.empty), 1, 16) := by kernel_rfl

set_option maxHeartbeats 400000 in
theorem clone_any (a : Option Addr) (n c : Nat) (S : List ByteArray) (HN : S.length = n) (w : World) (ha : a = none → S = []) (hr : Reads w a S) (hn : n ≤ 4096) :
    Calls Try.prog 9 #[.slice a n c] w (Cloned w S n) := by
  have q22 : ∀ (w : World) (a : Option Addr) (n c n' c' : Nat), (binOp .eql 22 (.slice a n c) (.slice none n' c')).run Try.prog w = .ok (.bool a.isNone) w := fun w a n c n' c' => Lib.run_eql_slice_nil w _ _ a n c n' c' Try.underlying22
  obtain ⟨i0, hi, hz0, hz1, hz2⟩ := info_parts Try.info9
  have HN' : Hid (S.length = n) := HN
  clear HN
  cases a with
  | none =>
    obtain rfl := ha rfl
    obtain rfl := HN'.out
    clear HN' ha hr
    go_enter Try.func9, Try.ntmps9
    go_wp2
    go_ret
    exact ⟨none, 0, rfl, fun _ => rfl, .inl rfl, Below.refl _ _⟩
  | some ad =>
    clear ha
    go_enter Try.func9, Try.ntmps9
    go_wp2_with (first | (at_make; refine wpList_make_full _ rfl _ _ 22 rfl w.heap.size 9 i0 (.string ByteArray.empty) 1 Try.underlying22 hi hz0 hz1 _ _ _ _ n rfl rfl rfl rfl (by rw [hz2]; omega) (by unfold maxLen; omega) (Nat.le_refl _) ?_))
    intro w1 hown hgrow
    have hcp : Copying w S 0 w1 := by
      have e := HN'.out
      subst e
      exact Copying.start hown (by first | exact toList_madeCells_one _ _ | (rw [Nat.mul_one]; exact toList_madeCells_one _ _)) hgrow
    clear hown hgrow
    go_wp2
    go_loopw [4] (fun i wr => ∃ k : Nat, k ≤ n ∧ i = .int .i64 k ∧ Copying w S k wr) (fun i _ => n - (intOf i).toNat)
    case atStart => exact ⟨0, Nat.zero_le _, rfl, hcp⟩
    case round =>
      obtain ⟨k, hk, rfl, hcr⟩ := hrel
      clear hcp
      have HL := HN'.out
      by_cases hlt : k < n
      · obtain ⟨b, off, had, hbl, hc⟩ := hr.at (i := k) (by omega)
        obtain rfl := Option.some.inj had
        have hc1 : wr.cell? ⟨b, off + k, none⟩ = some (.string (kth S k)) := (hcr.below.cell hbl).trans hc
        have hfr := hcr.own.frozenAt k
        obtain ⟨u, hu⟩ := hcr.cell (i := k) (by omega)
        have hst := hcr.step (by omega)
        clear hc hcr HL hr had
        go_wp2
        go_roundw
        case rel => exact ⟨k + 1, by omega, by go_num, hst⟩
        case measure => simp [intOf]; omega
      · have hk' : k = S.length := by omega
        rw [hk'] at hcr
        clear hk'
        have hrd := hcr.reads
        have hbl := hcr.below
        clear HL hcr hr
        go_wp2
        go_ret
        exact ⟨_, _, rfl, (fun h => by cases h), hrd, hbl⟩

/-! ### lawContainsBefore -/
set_option maxHeartbeats 400000 in
theorem contains_any (a : Option Addr) (n c : Nat) (S : List ByteArray) (HN' : Hid (S.length = n)) (m : Nat) (s : ByteArray) (w : World) (HR : Hid (Reads w a S)) (hn : n ≤ 4096) (hm : m ≤ n) :
    Calls Try.prog 14 #[.slice a n c, .int .i64 m, .string s] w fun e w' => e = .returned (.bool (mem (S.take m) s)) ∧ w' = w := by
  go_enter Try.func14, Try.ntmps14
  go_wp2
  go_loop [7] (fun i => ∃ k : Nat, i = .int .i64 k ∧ k ≤ m ∧ mem (S.take k) s = false) (fun i => m - (intOf i).toNat)
  case atStart => exact ⟨0, rfl, Nat.zero_le _, rfl⟩
  case round =>
    obtain ⟨k, rfl, hk, hmem⟩ := hrel
    have HM : Hid (mem (S.take k) s = false) := hmem
    clear hmem
    by_cases hlt : k < m
    · obtain ⟨b, off, rfl, hbl, hc⟩ := HR.out.at (i := k) (by have := HN'.out; omega)
      obtain ⟨x, hx⟩ : ∃ x, kth S k = x := ⟨_, rfl⟩
      rw [hx] at hc
      have e1 : mem (S.take (k + 1)) s = same x s := by rw [take_kth S k (by have := HN'.out; omega), mem_snoc, HM.out, hx]; rfl
      cases hs : same x s with
      | true =>
        have hs' : (x.toList == s.toList) = true := hs
        have HE : Hid (mem (S.take m) s = true) := by
          show _ = _
          rw [hs, mem_iff] at e1
          rw [mem_iff]
          have : S.take (k + 1) = (S.take m).take (k + 1) := by rw [List.take_take, Nat.min_eq_left (by omega)]
          rw [this] at e1
          exact List.mem_of_mem_take e1
        clear e1 hs hx
        go_wp2
        go_ret
        exact ⟨ret_bool HE.out.symm, rfl⟩
      | false =>
        have hs' : (x.toList == s.toList) = false := hs
        rw [hs] at e1
        have HE : Hid (mem (S.take (k + 1)) s = false) := e1
        clear e1 hs hx
        go_wp2
        go_round
        case rel => exact ⟨k + 1, by go_num, by omega, HE.out⟩
        case measure => simp [intOf]; omega
    · have hkm : k = m := by omega
      subst hkm
      go_wp2
      go_ret
      exact ⟨ret_bool HM.out.symm, rfl⟩

/-! ### lawStringsBytes: some number -/
set_option maxHeartbeats 400000 in
theorem weigh_any (a : Option Addr) (n c : Nat) (S : List ByteArray) (HN' : Hid (S.length = n)) (w : World) (HR : Hid (Reads w a S)) (hn : n ≤ maxLen) :
    Calls Try.prog 8 #[.slice a n c] w fun e w' => (∃ q : Int, e = .returned (.int .i64 q)) ∧ w' = w := by
  unfold maxLen at hn
  go_enter Try.func8, Try.ntmps8
  go_wp2
  go_loop [3, 4] (fun t i => ∃ k : Nat, i = .int .i64 k ∧ k ≤ n ∧ ∃ q : Int, t = .int .i64 q) (fun _ i => n - (intOf i).toNat)
  case atStart => exact ⟨0, rfl, Nat.zero_le _, 0, rfl⟩
  case round =>
    obtain ⟨k, rfl, hk, q, rfl⟩ := hrel
    by_cases hlt : k < n
    · obtain ⟨b, off, rfl, hbl, hc⟩ := HR.out.at (i := k) (by have := HN'.out; omega)
      obtain ⟨x, hx⟩ : ∃ x, kth S k = x := ⟨_, rfl⟩
      rw [hx] at hc
      clear hx
      go_wp2
      · go_ret
        exact ⟨⟨_, rfl⟩, rfl⟩
      · go_round
        case rel => exact ⟨k + 1, by go_num, by omega, _, rfl⟩
        case measure => simp [intOf]; omega
    · go_wp2
      go_ret
      exact ⟨⟨_, rfl⟩, rfl⟩

/-! ### zzBytes of the script: some answer -/
def SomeBool (e : Ending) : Prop := ∃ q : Bool, e = .returned (.bool q)
set_option maxHeartbeats 400000 in
theorem bytes19 (a : Option Addr) (n c : Nat) (S : List ByteArray) (HN' : Hid (S.length = n)) (w : World) (HR : Hid (Reads w a S)) (hn : n ≤ maxLen) :
    Calls Try.prog 19 #[.slice a n c] w fun e w' => SomeBool e ∧ w' = w := by
  unfold maxLen at hn
  go_enter Try.func19, Try.ntmps19
  go_wp2
  · go_ret
    exact ⟨⟨_, rfl⟩, rfl⟩
  go_loop [3, 4] (fun t i => ∃ k : Nat, i = .int .i64 k ∧ k ≤ n ∧ ∃ q : Int, t = .int .i64 q) (fun _ i => n - (intOf i).toNat)
  case atStart => exact ⟨0, rfl, Nat.zero_le _, _, rfl⟩
  case round =>
    obtain ⟨k, rfl, hk, q, rfl⟩ := hrel
    by_cases hlt : k < n
    · obtain ⟨b, off, rfl, hbl, hc⟩ := HR.out.at (i := k) (by have := HN'.out; omega)
      obtain ⟨x, hx⟩ : ∃ x, kth S k = x := ⟨_, rfl⟩
      rw [hx] at hc
      clear hx
      go_wp2
      · go_ret
        exact ⟨⟨_, rfl⟩, rfl⟩
      · go_ret
        exact ⟨⟨_, rfl⟩, rfl⟩
      · go_round
        case rel => exact ⟨k + 1, by go_num, by omega, _, rfl⟩
        case measure => simp [intOf]; omega
    · go_wp2
      go_ret
      exact ⟨⟨_, rfl⟩, rfl⟩
end Go.Proofs.Qxb6605305a.KS
