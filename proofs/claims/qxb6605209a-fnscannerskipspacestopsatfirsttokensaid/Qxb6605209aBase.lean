/-
  What the walks of this seat share: a slice of integers that is read; a slice that is cloned.
-/
import Derived.Test.Qxb6605209aRows
import Derived.Test.Qxb6605209aPlain
import Derived.WalkKit
import Derived.WalkSpells
import Derived.ProofKit
import Derived.Below
namespace Go.Proofs.Qxb6605209a.EW
open Go.ChangeShapes Go.WideShapes Go.ChangeAt Go.RowKit
set_option linter.unusedVariables false

/-- Element k of a list of numbers (a plain name: the walk does not look into it). -/
def nth (zs : List Int) (k : Nat) : Int := zs.getD k 0

theorem nth_mem (zs : List Int) (k : Nat) (h : k < zs.length) : nth zs k ∈ zs := by
  unfold nth; rw [List.getD_eq_getElem?_getD, List.getElem?_eq_getElem h, Option.getD_some]; exact List.getElem_mem h

theorem take_nth (zs : List Int) (k : Nat) (h : k < zs.length) : zs.take (k + 1) = zs.take k ++ [nth zs k] := take_snoc zs k h

/-- The slice's address 'a' leads to the numbers zs in w (of an empty list nothing is asked). -/
def Reads (k : IntKind) (w : World) (a : Option Addr) (zs : List Int) : Prop :=
  zs = [] ∨ ∃ b off, a = some ⟨b, off, none⟩ ∧ b < w.heap.size ∧ ∀ i, i < zs.length → w.cell? ⟨b, off + i, none⟩ = some (.int k (nth zs i))

theorem Reads.later {k : IntKind} {w w' : World} {a : Option Addr} {zs : List Int} (h : Reads k w a zs) (hb : Below w.heap.size w w') : Reads k w' a zs := by
  rcases h with h | ⟨b, off, ha, hlt, hc⟩
  · exact .inl h
  · exact .inr ⟨b, off, ha, Nat.lt_of_lt_of_le hlt hb.size, fun i hi => (hb.cell hlt).trans (hc i hi)⟩

/-- At an index inside, the address is there, and the cell. -/
theorem Reads.at {k : IntKind} {w : World} {a : Option Addr} {zs : List Int} (h : Reads k w a zs) {i : Nat} (hi : i < zs.length) :
    ∃ b off, a = some ⟨b, off, none⟩ ∧ b < w.heap.size ∧ w.cell? ⟨b, off + i, none⟩ = some (.int k (nth zs i)) := by
  rcases h with rfl | ⟨b, off, ha, hlt, hc⟩
  · simp at hi
  · exact ⟨b, off, ha, hlt, hc i hi⟩

/-- What the shell says of an argument, as a reading of its elements. -/
theorem reads_of_row {k : IntKind} {w : World} {a : Option Addr} {len cap : Nat} {zs : List Int}
    (h : (a = none ∧ len = 0 ∧ cap = 0 ∧ zs = []) ∨ ∃ x, a = some x ∧ len ≤ cap ∧ cap ≤ maxLen ∧ zs.length = cap ∧ (∀ i, i < zs.length → w.cell? (x.add i) = some (.int k (zs.getD i 0))) ∧ ∀ n ∈ zs, (Lit.int k n).wf = true) :
    ∃ ys : List Int, ys.length = len ∧ len ≤ maxLen ∧ (a = none → ys = []) ∧ Reads k w a ys ∧ ∀ n ∈ ys, (Lit.int k n).wf = true := by
  rcases h with ⟨rfl, rfl, rfl, rfl⟩ | ⟨x, rfl, hl, hm, hz, hc, hwf⟩
  · exact ⟨[], rfl, by simp [maxLen], fun _ => rfl, .inl rfl, fun n hn => by cases hn⟩
  · refine ⟨zs.take len, by simp; omega, by omega, (fun h => by cases h), ?_, fun n hn => hwf n (List.mem_of_mem_take hn)⟩
    by_cases h0 : len = 0
    · left; simp [h0]
    · right
      obtain ⟨b, off, spot⟩ := x
      have hspot : spot = none := by simpa [Addr.add] using World.cell?_spot (hc 0 (by omega))
      subst hspot
      refine ⟨b, off, rfl, ?_, fun i hi => ?_⟩
      · have := World.block_lt_of_cell? _ _ (hc 0 (by omega)); simpa [Addr.add] using this
      · have hi' : i < len := by simp at hi; omega
        have := hc i (by omega)
        rw [Addr.add_lit] at this
        rw [this]
        unfold nth
        simp [List.getD_eq_getElem?_getD, hi']

theorem ret_bool {a b : Bool} (h : a = b) : Ending.returned (.bool a) = .returned (.bool b) := by rw [h]
theorem ret_int {k : IntKind} {a b : Int} (h : a = b) : Ending.returned (.int k a) = .returned (.int k b) := by rw [h]

/-- What is cloned behind m rounds. -/
def half (k : IntKind) (zs : List Int) (m : Nat) : List Value := (zs.take m).map (Value.int k) ++ List.replicate (zs.length - m) (.int k 0)

theorem half_zero (k : IntKind) (zs : List Int) : half k zs 0 = List.replicate zs.length (.int k 0) := by simp [half]
theorem half_full (k : IntKind) (zs : List Int) : half k zs zs.length = zs.map (Value.int k) := by simp [half]
theorem half_step (k : IntKind) (zs : List Int) (m : Nat) (h : m < zs.length) : (half k zs m).set m (.int k (nth zs m)) = half k zs (m + 1) := by
  unfold half
  rw [take_nth zs m h, List.set_append_right _ _ (by simp; omega)]
  obtain ⟨r, hr⟩ : ∃ r, zs.length - m = r + 1 := ⟨zs.length - m - 1, by omega⟩
  rw [hr, show zs.length - (m + 1) = r by omega]
  simp [List.replicate_succ, Nat.min_eq_left (Nat.le_of_lt h)]

/-- The round's own limbs, in one word: the walk does not look into it. -/
structure Copying (k : IntKind) (e : TypeId) (w : World) (zs : List Int) (m : Nat) (wr : World) : Prop where
  own : wr.ownsRow w.heap.size e 1 (.slice (some ⟨w.heap.size, 0, none⟩) zs.length zs.length) zs.length (half k zs m)
  below : Below w.heap.size w wr

theorem Copying.start {k : IntKind} {e : TypeId} {w w1 : World} {zs : List Int} {l : List Value} (hown : w1.ownsRow w.heap.size e 1 (.slice (some ⟨w.heap.size, 0, none⟩) zs.length zs.length) zs.length l) (hl : l = List.replicate zs.length (.int k 0)) (hgrow : w.grownBy w1 none) :
    Copying k e w zs 0 w1 :=
  ⟨by rw [half_zero, ← hl]; exact hown, (Below.refl _ _).grown hgrow (Nat.le_refl _) (by intro k hk; cases hk)⟩

theorem Copying.step {k : IntKind} {e : TypeId} {w wr : World} {zs : List Int} {m : Nat} (h : Copying k e w zs m wr) (hm : m < zs.length) :
    Copying k e w zs (m + 1) (wr.setCell ⟨w.heap.size, m, none⟩ (.int k (nth zs m))) := by
  refine ⟨?_, h.below.setCell (p := ⟨w.heap.size, m, none⟩) (Nat.le_refl _) _⟩
  have := (h.own.stored m (.int k (nth zs m))).1
  rw [half_step k zs m hm] at this
  exact this

theorem Copying.cell {k : IntKind} {e : TypeId} {w wr : World} {zs : List Int} {m : Nat} (h : Copying k e w zs m wr) {i : Nat} (hm : i < zs.length) : ∃ u, wr.cell? ⟨w.heap.size, i, none⟩ = some u := by
  rw [h.own.cellAt i (by omega)]
  have hl := h.own.1
  exact ⟨(half k zs m)[i]'(by omega), List.getElem?_eq_getElem _⟩

theorem Copying.reads {k : IntKind} {e : TypeId} {w wr : World} {zs : List Int} (h : Copying k e w zs zs.length wr) : Reads k wr (some ⟨w.heap.size, 0, none⟩) zs := by
  by_cases h0 : zs = []
  · exact .inl h0
  · right
    have hlen : 0 < zs.length := List.length_pos_iff.2 h0
    refine ⟨w.heap.size, 0, rfl, ?_, fun i hi => ?_⟩
    · obtain ⟨u, hu⟩ := h.cell hlen
      exact World.block_lt_of_cell? _ _ hu
    · rw [Nat.zero_add, h.own.cellAt i (by omega), half_full, List.getElem?_map, List.getElem?_eq_getElem hi]
      unfold nth
      rw [List.getD_eq_getElem?_getD, List.getElem?_eq_getElem hi]
      rfl

/-- What a clone leaves: a slice of the same numbers, in new memory. -/
def Cloned (k : IntKind) (w : World) (zs : List Int) (n : Nat) (e : Ending) (w' : World) : Prop :=
  ∃ a' c', e = .returned (.slice a' n c') ∧ (a' = none → zs = []) ∧ Reads k w' a' zs ∧ Below w.heap.size w w'

theorem Try.info36 : (Try.prog.info? 36).map (fun i => (i.zero, i.size, i.bytes)) = some (some (.int .u64 0), 1, 8) := by kernel_rfl
theorem Try.info5 : (Try.prog.info? 5).map (fun i => (i.zero, i.size, i.bytes)) = some (some (.int .u8 0), 1, 1) := by kernel_rfl

set_option maxHeartbeats 400000 in
theorem clone64 (a : Option Addr) (n c : Nat) (zs : List Int) (HN : zs.length = n) (w : World) (ha : a = none → zs = []) (hr : Reads .u64 w a zs) (hn : n ≤ 1048576) :
    Calls Try.prog 17 #[.slice a n c] w (Cloned .u64 w zs n) := by
  have q28 : ∀ (w : World) (a : Option Addr) (n c n' c' : Nat), (binOp .eql 28 (.slice a n c) (.slice none n' c')).run Try.prog w = .ok (.bool a.isNone) w := fun w a n c n' c' => Lib.run_eql_slice_nil w _ _ a n c n' c' Try.underlying28
  obtain ⟨i0, hi, hz0, hz1, hz2⟩ := info_parts Try.info36
  have HN' : Hid (zs.length = n) := HN
  clear HN
  cases a with
  | none =>
    obtain rfl := ha rfl
    obtain rfl := HN'.out
    clear HN' ha hr
    go_enter Try.func17, Try.ntmps17
    go_wp2
    go_ret
    exact ⟨none, 0, rfl, fun _ => rfl, .inl rfl, Below.refl _ _⟩
  | some ad =>
    clear ha
    go_enter Try.func17, Try.ntmps17
    go_wp2_with (first | (at_make; refine wpList_make_full _ rfl _ _ 28 rfl w.heap.size 36 i0 (.int .u64 0) 1 Try.underlying28 hi hz0 hz1 _ _ _ _ n rfl rfl rfl rfl (by rw [hz2]; omega) (by unfold maxLen; omega) (Nat.le_refl _) ?_))
    intro w1 hown hgrow
    have hcp : Copying .u64 36 w zs 0 w1 := by
      have e := HN'.out
      subst e
      exact Copying.start hown (by first | exact toList_madeCells_one _ _ | (rw [Nat.mul_one]; exact toList_madeCells_one _ _)) hgrow
    clear hown hgrow
    go_wp2
    go_loopw [4] (fun i wr => ∃ k : Nat, k ≤ n ∧ i = .int .i64 k ∧ Copying .u64 36 w zs k wr) (fun i _ => n - (intOf i).toNat)
    case atStart => exact ⟨0, Nat.zero_le _, rfl, hcp⟩
    case round =>
      obtain ⟨k, hk, rfl, hcr⟩ := hrel
      clear hcp
      have HL := HN'.out
      by_cases hlt : k < n
      · obtain ⟨b, off, had, hbl, hc⟩ := hr.at (i := k) (by omega)
        obtain rfl := Option.some.inj had
        have hc1 : wr.cell? ⟨b, off + k, none⟩ = some (.int .u64 (nth zs k)) := (hcr.below.cell hbl).trans hc
        have hfr := hcr.own.frozenAt k
        obtain ⟨u, hu⟩ := hcr.cell (i := k) (by omega)
        have hst := hcr.step (by omega)
        clear hc hcr HL hr had
        go_wp2
        go_roundw
        case rel => exact ⟨k + 1, by omega, by go_num, hst⟩
        case measure => simp [intOf]; omega
      · have hk' : k = zs.length := by omega
        rw [hk'] at hcr
        clear hk'
        have hrd := hcr.reads
        have hbl := hcr.below
        clear HL hcr hr
        go_wp2
        go_ret
        exact ⟨_, _, rfl, (fun h => by cases h), hrd, hbl⟩

set_option maxHeartbeats 400000 in
theorem clone8 (a : Option Addr) (n c : Nat) (zs : List Int) (HN : zs.length = n) (w : World) (ha : a = none → zs = []) (hr : Reads .u8 w a zs) (hn : n ≤ 1048576) :
    Calls Try.prog 23 #[.slice a n c] w (Cloned .u8 w zs n) := by
  have q25 : ∀ (w : World) (a : Option Addr) (n c n' c' : Nat), (binOp .eql 25 (.slice a n c) (.slice none n' c')).run Try.prog w = .ok (.bool a.isNone) w := fun w a n c n' c' => Lib.run_eql_slice_nil w _ _ a n c n' c' Try.underlying25
  obtain ⟨i0, hi, hz0, hz1, hz2⟩ := info_parts Try.info5
  have HN' : Hid (zs.length = n) := HN
  clear HN
  cases a with
  | none =>
    obtain rfl := ha rfl
    obtain rfl := HN'.out
    clear HN' ha hr
    go_enter Try.func23, Try.ntmps23
    go_wp2
    go_ret
    exact ⟨none, 0, rfl, fun _ => rfl, .inl rfl, Below.refl _ _⟩
  | some ad =>
    clear ha
    go_enter Try.func23, Try.ntmps23
    go_wp2_with (first | (at_make; refine wpList_make_full _ rfl _ _ 25 rfl w.heap.size 5 i0 (.int .u8 0) 1 Try.underlying25 hi hz0 hz1 _ _ _ _ n rfl rfl rfl rfl (by rw [hz2]; omega) (by unfold maxLen; omega) (Nat.le_refl _) ?_))
    intro w1 hown hgrow
    have hcp : Copying .u8 5 w zs 0 w1 := by
      have e := HN'.out
      subst e
      exact Copying.start hown (by first | exact toList_madeCells_one _ _ | (rw [Nat.mul_one]; exact toList_madeCells_one _ _)) hgrow
    clear hown hgrow
    go_wp2
    go_loopw [4] (fun i wr => ∃ k : Nat, k ≤ n ∧ i = .int .i64 k ∧ Copying .u8 5 w zs k wr) (fun i _ => n - (intOf i).toNat)
    case atStart => exact ⟨0, Nat.zero_le _, rfl, hcp⟩
    case round =>
      obtain ⟨k, hk, rfl, hcr⟩ := hrel
      clear hcp
      have HL := HN'.out
      by_cases hlt : k < n
      · obtain ⟨b, off, had, hbl, hc⟩ := hr.at (i := k) (by omega)
        obtain rfl := Option.some.inj had
        have hc1 : wr.cell? ⟨b, off + k, none⟩ = some (.int .u8 (nth zs k)) := (hcr.below.cell hbl).trans hc
        have hfr := hcr.own.frozenAt k
        obtain ⟨u, hu⟩ := hcr.cell (i := k) (by omega)
        have hst := hcr.step (by omega)
        clear hc hcr HL hr had
        go_wp2
        go_roundw
        case rel => exact ⟨k + 1, by omega, by go_num, hst⟩
        case measure => simp [intOf]; omega
      · have hk' : k = zs.length := by omega
        rw [hk'] at hcr
        clear hk'
        have hrd := hcr.reads
        have hbl := hcr.below
        clear HL hcr hr
        go_wp2
        go_ret
        exact ⟨_, _, rfl, (fun h => by cases h), hrd, hbl⟩
end Go.Proofs.Qxb6605209a.EW
