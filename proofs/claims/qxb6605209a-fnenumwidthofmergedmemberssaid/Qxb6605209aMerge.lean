/-
  The walk of FnEnumWidthOfMergedMembers.
-/
import Derived.Test.Qxb6605209aEnum
import Derived.Test.Qxb6605209aEnumLaw
namespace Go.Proofs.Qxb6605209a.EW
open Go.ChangeShapes Go.WideShapes Go.ChangeAt Go.RowKit
set_option linter.unusedVariables false

set_option maxHeartbeats 400000 in
theorem bytes21 (a b : Option Addr) (n c m d : Nat) (w : World) (h : n ≤ maxLen) (h' : m ≤ maxLen) :
    Calls Try.prog 21 #[.slice a n c, .slice b m d] w fun e w' => e = .returned (.bool (decide (n + m ≤ 1048576))) ∧ w' = w := by
  unfold maxLen at h h'
  by_cases h1 : n ≤ 1048576
  · by_cases h2 : m ≤ 1048576
    · by_cases h3 : n + m ≤ 1048576
      all_goals
        go_enter Try.func21, Try.ntmps21
        go_wp2
        go_ret
        exact ⟨by simp [h3], rfl⟩
    · go_enter Try.func21, Try.ntmps21
      go_wp2
      go_ret
      exact ⟨ret_bool (a := false) (decide_eq_false (by omega)).symm, rfl⟩
  · go_enter Try.func21, Try.ntmps21
    go_wp2
    go_ret
    exact ⟨ret_bool (a := false) (decide_eq_false (by omega)).symm, rfl⟩

/-- Two rows of the call's own, beside each other: xs at block g1, ys at block g2, room for cap each. -/
structure Two (w : World) (g1 g2 cap k1 k2 : Nat) (xs ys : List Int) (wr : World) : Prop where
  ne : g1 ≠ g2
  l1 : xs.length = k1
  l2 : ys.length = k2
  ab : wr.ownsRow w.heap.size 36 1 (.slice (some ⟨g1, 0, none⟩) k1 cap) k1 (xs.map (Value.int .u64))
  ba : wr.ownsRow w.heap.size 36 1 (.slice (some ⟨g2, 0, none⟩) k2 cap) k2 (ys.map (Value.int .u64))
  below : Below w.heap.size w wr

theorem Two.push1 {w wr w1 : World} {g1 g2 cap k1 k2 : Nat} {xs ys : List Int} {o : Obj} {x : Int} (h : Two w g1 g2 cap k1 k2 xs ys wr)
    (hown : w1.ownsRow w.heap.size 36 1 (.slice (some ⟨g1, 0, none⟩) (k1 + 1) cap) (k1 + 1) (xs.map (Value.int .u64) ++ [.int .u64 x])) (hg : (wr.alloc o).grownBy w1 (some g1)) :
    Two w g1 g2 cap (k1 + 1) k2 (xs ++ [x]) ys w1 := by
  have hs := h.below.size
  have hlt := (h.ab.lt g1 rfl).1
  refine ⟨h.ne, by simp [h.l1], h.l2, by simpa using hown, (h.ba.alloc o).kept hg (.inr (by simpa [Value.ownBlock] using fun e => h.ne e.symm)), ?_⟩
  exact (h.below.alloc hs o).grown hg (by simp; omega) (by intro k hk; cases hk; exact hlt)

theorem Two.push2 {w wr w1 : World} {g1 g2 cap k1 k2 : Nat} {xs ys : List Int} {o : Obj} {x : Int} (h : Two w g1 g2 cap k1 k2 xs ys wr)
    (hown : w1.ownsRow w.heap.size 36 1 (.slice (some ⟨g2, 0, none⟩) (k2 + 1) cap) (k2 + 1) (ys.map (Value.int .u64) ++ [.int .u64 x])) (hg : (wr.alloc o).grownBy w1 (some g2)) :
    Two w g1 g2 cap k1 (k2 + 1) xs (ys ++ [x]) w1 := by
  have hs := h.below.size
  have hlt := (h.ba.lt g2 rfl).1
  refine ⟨h.ne, h.l1, by simp [h.l2], (h.ab.alloc o).kept hg (.inr (by simpa [Value.ownBlock] using h.ne)), by simpa using hown, ?_⟩
  exact (h.below.alloc hs o).grown hg (by simp; omega) (by intro k hk; cases hk; exact hlt)

theorem Two.start {w w1 w2 : World} {cap : Nat} (h1 : w1.ownsRow w.heap.size 36 1 (.slice (some ⟨w.heap.size, 0, none⟩) 0 cap) 0 []) (g1 : w.grownBy w1 none)
    (h2 : w2.ownsRow w.heap.size 36 1 (.slice (some ⟨w1.heap.size, 0, none⟩) 0 cap) 0 []) (g2 : w1.grownBy w2 none) :
    Two w w.heap.size w1.heap.size cap 0 0 [] [] w2 := by
  have : w.heap.size < w1.heap.size := (h1.lt _ rfl).2
  have b1 : Below w.heap.size w w1 := (Below.refl _ _).grown g1 (Nat.le_refl _) (by intro k hk; cases hk)
  exact ⟨by omega, rfl, rfl, h1.kept g2 (.inr (by simp [Value.ownBlock])), h2, b1.grown g2 b1.size (by intro k hk; cases hk)⟩

theorem Two.reads1 {w wr : World} {g1 g2 cap k1 k2 : Nat} {xs ys : List Int} (h : Two w g1 g2 cap k1 k2 xs ys wr) : Reads .u64 wr (some ⟨g1, 0, none⟩) xs := by
  refine .inr ⟨g1, 0, rfl, (h.ab.lt g1 rfl).2, fun i hi => ?_⟩
  rw [Nat.zero_add, h.ab.cellAt i (by have := h.l1; omega), List.getElem?_map, List.getElem?_eq_getElem hi]
  unfold nth
  rw [List.getD_eq_getElem?_getD, List.getElem?_eq_getElem hi]
  rfl

theorem Two.reads2 {w wr : World} {g1 g2 cap k1 k2 : Nat} {xs ys : List Int} (h : Two w g1 g2 cap k1 k2 xs ys wr) : Reads .u64 wr (some ⟨g2, 0, none⟩) ys := by
  refine .inr ⟨g2, 0, rfl, (h.ba.lt g2 rfl).2, fun i hi => ?_⟩
  rw [Nat.zero_add, h.ba.cellAt i (by have := h.l2; omega), List.getElem?_map, List.getElem?_eq_getElem hi]
  unfold nth
  rw [List.getD_eq_getElem?_getD, List.getElem?_eq_getElem hi]
  rfl

theorem Two.grow1 {w wr w1 : World} {g1 g2 cap k1 k2 : Nat} {xs ys : List Int} {o : Obj} {x : Int} {l : List Value} (h : Two w g1 g2 cap k1 k2 xs ys wr)
    (hown : w1.ownsRow w.heap.size 36 1 (.slice (some ⟨g1, 0, none⟩) (k1 + 1) cap) (k1 + 1) l) (hl : l = xs.map (Value.int .u64) ++ [.int .u64 x]) (hg : (wr.alloc o).grownBy w1 (some g1)) {xs' : List Int} (hx : xs' = xs ++ [x]) :
    Two w g1 g2 cap (k1 + 1) k2 xs' ys w1 := by
  subst hl; subst hx; exact h.push1 hown hg

theorem Two.grow2 {w wr w1 : World} {g1 g2 cap k1 k2 : Nat} {xs ys : List Int} {o : Obj} {x : Int} {l : List Value} (h : Two w g1 g2 cap k1 k2 xs ys wr)
    (hown : w1.ownsRow w.heap.size 36 1 (.slice (some ⟨g2, 0, none⟩) (k2 + 1) cap) (k2 + 1) l) (hl : l = ys.map (Value.int .u64) ++ [.int .u64 x]) (hg : (wr.alloc o).grownBy w1 (some g2)) {ys' : List Int} (hy : ys' = ys ++ [x]) :
    Two w g1 g2 cap k1 (k2 + 1) xs ys' w1 := by
  subst hl; subst hy; exact h.push2 hown hg

set_option maxHeartbeats 1600000 in
theorem law6 (a b : Option Addr) (n c m d : Nat) (xs ys : List Int) (HL : Hid (xs.length = n)) (HM : Hid (ys.length = m)) (w : World) (HZ : Hid (a = none → xs = [])) (HZ' : Hid (b = none → ys = []))
    (HR : Hid (Reads .u64 w a xs)) (HR' : Hid (Reads .u64 w b ys)) (HW : Hid (∀ x ∈ xs, 0 ≤ x ∧ x < 18446744073709551616)) (HW' : Hid (∀ x ∈ ys, 0 ≤ x ∧ x < 18446744073709551616)) (h1 : n ≤ 32768) (h2 : m ≤ 32768) :
    Calls Try.prog 6 #[.slice a n c, .slice b m d] w fun e w' => e = .returned (.bool true) ∧ Below w.heap.size w w' := by
  obtain ⟨i0, hi, hz0, hz1, hz2⟩ := info_parts Try.info36
  go_enter Try.func6, Try.ntmps6
  go_wp2_with fail
  refine (bytes21 _ _ _ _ _ _ _ (by unfold maxLen; omega) (by unfold maxLen; omega)).mono ?_
  rw [decide_eq_true (show n + m ≤ 1048576 by omega)]
  rintro e w' ⟨rfl, rfl⟩
  go_wp2_with fail
  refine (clone64 _ _ _ xs HL.out _ HZ.out HR.out (by omega)).mono ?_
  rintro e w1 ⟨a1, c1, rfl, hz1', hr1, hb1⟩
  have HR1 : Hid (Reads .u64 w1 a1 xs) := hr1
  have HB1 : Hid (Below w'.heap.size w' w1) := hb1
  have HZ1 : Hid (a1 = none → xs = []) := hz1'
  have HR1' : Hid (Reads .u64 w1 b ys) := HR'.out.later hb1
  clear hz1' hr1 hb1 HZ HR HR'
  go_wp2_with fail
  refine (clone64 _ _ _ ys HM.out _ HZ'.out HR1'.out (by omega)).mono ?_
  rintro e w2 ⟨b1, d1, rfl, hz2', hr2, hb2⟩
  have HRa : Hid (Reads .u64 w2 a1 xs) := HR1.out.later hb2
  have HRb : Hid (Reads .u64 w2 b1 ys) := hr2
  have HB2 : Hid (Below w'.heap.size w' w2) := HB1.out.trans (hb2.mono HB1.out.size)
  have HZ2 : Hid (b1 = none → ys = []) := hz2'
  clear hz2' hr2 hb2 HR1 HB1 HR1' HZ'
  go_wp2_with (at_make; refine wpList_make_own _ rfl _ (.tmp 36) 28 rfl w2.heap.size 36 i0 (.int .u64 0) 1 Try.underlying28 hi hz0 hz1 _ _ _ (n + m) rfl rfl (by omega) (by rw [hz2]; omega) (by unfold maxLen; omega) (Nat.le_refl _) ?_)
  intro w3 hown3 hgrow3
  have HO3 : Hid (w3.ownsRow w2.heap.size 36 1 (.slice (some ⟨w2.heap.size, 0, none⟩) 0 (n + m)) 0 []) := hown3
  have HG3 : Hid (w2.grownBy w3 none) := hgrow3
  clear hown3 hgrow3
  go_wp2_with (at_make; refine wpList_make_own _ rfl _ (.tmp 42) 28 rfl w2.heap.size 36 i0 (.int .u64 0) 1 Try.underlying28 hi hz0 hz1 _ _ _ (n + m) rfl rfl (by omega) (by rw [hz2]; omega) (by unfold maxLen; omega) (HG3.out.size) ?_)
  intro w4 hown4 hgrow4
  have hT : Two w2 w2.heap.size w3.heap.size (n + m) 0 0 [] [] w4 := Two.start HO3.out HG3.out hown4 hgrow4
  clear hown4 hgrow4 HO3 HG3
  obtain ⟨g1, hg1⟩ : ∃ g1, w2.heap.size = g1 := ⟨_, rfl⟩
  obtain ⟨g2, hg2⟩ : ∃ g2, w3.heap.size = g2 := ⟨_, rfl⟩
  rw [hg2] at hT ⊢
  clear hg1 hg2
  go_wp2
  go_loopw [5, 7] (fun v i wr => ∃ k : Nat, k ≤ n ∧ i = .int .i64 k ∧ v = .slice (some ⟨w2.heap.size, 0, none⟩) (k) (n + m) ∧ Two w2 w2.heap.size g2 (n + m) (k) (0) (xs.take k) ([]) wr) (fun _ i _ => n - (intOf i).toNat)
  case atStart => exact ⟨0, Nat.zero_le _, rfl, rfl, by simpa using hT⟩
  case round =>
    obtain ⟨k, hk, rfl, rfl, hTr⟩ := hrel
    clear hT
    have HLL := HL.out
    by_cases hlt : k < n
    · obtain ⟨bb, off, had, hbl, hc⟩ := HRa.out.at (i := k) (by omega)
      subst had
      have hc1 : wr.cell? ⟨bb, off + k, none⟩ = some (.int .u64 (nth xs k)) := (hTr.below.cell hbl).trans hc
      have HTK : Hid (xs.take (k + 1) = xs.take k ++ [nth xs k]) := take_nth xs k (by omega)
      have hsz := hTr.below.size
      clear hc HLL
      go_wp2_with (at_builtin; refine wpList_append_fits _ rfl (.tmp 50) (.tmp 55) 28 rfl w2.heap.size 36 i0 1 Try.underlying28 hi hz1 w2.heap.size (k) (n + m) _ rfl (hTr.ab.alloc _) ⟨wr.heap.size, 0, none⟩ 1 1 [.int .u64 (nth xs k)] rfl rfl (cell_one_new _ _ _) (ints_oneCell .u64 [nth xs k]) (by omega) ?_)
      intro w5 hown5 hgrow5
      have hT' := hTr.grow1 (x := nth xs k) hown5 (by simp) hgrow5 rfl
      clear hown5 hgrow5 hTr hc1
      go_wp2
      go_roundw
      case rel => exact ⟨k + 1, by omega, by go_num, by first | rfl | rw [Nat.add_assoc], by rw [HTK.out]; first | exact hT' | simpa only [List.append_assoc, Nat.add_assoc] using hT'⟩
      case measure => simp [intOf]; omega
    · have hkn : n = k := by omega
      subst hkn
      have htk : xs.take n = xs := by rw [← HLL]; exact List.take_length
      rw [htk] at hTr
      have hT := hTr
      clear hTr htk HLL hlt hk
      go_wp2
      go_loopw [5, 8] (fun v i wr => ∃ k : Nat, k ≤ m ∧ i = .int .i64 k ∧ v = .slice (some ⟨w2.heap.size, 0, none⟩) (n + k) (n + m) ∧ Two w2 w2.heap.size g2 (n + m) (n + k) (0) (xs ++ ys.take k) ([]) wr) (fun _ i _ => m - (intOf i).toNat)
      case atStart => exact ⟨0, Nat.zero_le _, rfl, rfl, by simpa using hT⟩
      case round =>
        obtain ⟨k, hk, rfl, rfl, hTr⟩ := hrel
        clear hT
        have HLL := HM.out
        by_cases hlt : k < m
        · obtain ⟨bb, off, had, hbl, hc⟩ := HRb.out.at (i := k) (by omega)
          subst had
          have hc1 : wr.cell? ⟨bb, off + k, none⟩ = some (.int .u64 (nth ys k)) := (hTr.below.cell hbl).trans hc
          have HTK : Hid (ys.take (k + 1) = ys.take k ++ [nth ys k]) := take_nth ys k (by omega)
          have hsz := hTr.below.size
          clear hc HLL
          go_wp2_with (at_builtin; refine wpList_append_fits _ rfl (.tmp 63) (.tmp 68) 28 rfl w2.heap.size 36 i0 1 Try.underlying28 hi hz1 w2.heap.size (n + k) (n + m) _ rfl (hTr.ab.alloc _) ⟨wr.heap.size, 0, none⟩ 1 1 [.int .u64 (nth ys k)] rfl rfl (cell_one_new _ _ _) (ints_oneCell .u64 [nth ys k]) (by omega) ?_)
          intro w5 hown5 hgrow5
          have hT' := hTr.grow1 (x := nth ys k) hown5 (by simp) hgrow5 rfl
          clear hown5 hgrow5 hTr hc1
          go_wp2
          go_roundw
          case rel => exact ⟨k + 1, by omega, by go_num, by first | rfl | rw [Nat.add_assoc], by rw [HTK.out]; first | exact hT' | simpa only [List.append_assoc, Nat.add_assoc] using hT'⟩
          case measure => simp [intOf]; omega
        · have hkn : m = k := by omega
          subst hkn
          have htk : ys.take m = ys := by rw [← HLL]; exact List.take_length
          rw [htk] at hTr
          have hT := hTr
          clear hTr htk HLL hlt hk
          go_wp2
          go_loopw [6, 9] (fun v i wr => ∃ k : Nat, k ≤ m ∧ i = .int .i64 k ∧ v = .slice (some ⟨g2, 0, none⟩) (k) (n + m) ∧ Two w2 w2.heap.size g2 (n + m) (n + m) (k) (xs ++ ys) (ys.take k) wr) (fun _ i _ => m - (intOf i).toNat)
          case atStart => exact ⟨0, Nat.zero_le _, rfl, rfl, by simpa using hT⟩
          case round =>
            obtain ⟨k, hk, rfl, rfl, hTr⟩ := hrel
            clear hT
            have HLL := HM.out
            by_cases hlt : k < m
            · obtain ⟨bb, off, had, hbl, hc⟩ := HRb.out.at (i := k) (by omega)
              subst had
              have hc1 : wr.cell? ⟨bb, off + k, none⟩ = some (.int .u64 (nth ys k)) := (hTr.below.cell hbl).trans hc
              have HTK : Hid (ys.take (k + 1) = ys.take k ++ [nth ys k]) := take_nth ys k (by omega)
              have hsz := hTr.below.size
              clear hc HLL
              go_wp2_with (at_builtin; refine wpList_append_fits _ rfl (.tmp 76) (.tmp 81) 28 rfl w2.heap.size 36 i0 1 Try.underlying28 hi hz1 g2 (k) (n + m) _ rfl (hTr.ba.alloc _) ⟨wr.heap.size, 0, none⟩ 1 1 [.int .u64 (nth ys k)] rfl rfl (cell_one_new _ _ _) (ints_oneCell .u64 [nth ys k]) (by omega) ?_)
              intro w5 hown5 hgrow5
              have hT' := hTr.grow2 (x := nth ys k) hown5 (by simp) hgrow5 rfl
              clear hown5 hgrow5 hTr hc1
              go_wp2
              go_roundw
              case rel => exact ⟨k + 1, by omega, by go_num, by first | rfl | rw [Nat.add_assoc], by rw [HTK.out]; first | exact hT' | simpa only [List.append_assoc, Nat.add_assoc] using hT'⟩
              case measure => simp [intOf]; omega
            · have hkn : m = k := by omega
              subst hkn
              have htk : ys.take m = ys := by rw [← HLL]; exact List.take_length
              rw [htk] at hTr
              have hT := hTr
              clear hTr htk HLL hlt hk
              go_wp2
              go_loopw [6, 10] (fun v i wr => ∃ k : Nat, k ≤ n ∧ i = .int .i64 k ∧ v = .slice (some ⟨g2, 0, none⟩) (m + k) (n + m) ∧ Two w2 w2.heap.size g2 (n + m) (n + m) (m + k) (xs ++ ys) (ys ++ xs.take k) wr) (fun _ i _ => n - (intOf i).toNat)
              case atStart => exact ⟨0, Nat.zero_le _, rfl, rfl, by simpa using hT⟩
              case round =>
                obtain ⟨k, hk, rfl, rfl, hTr⟩ := hrel
                clear hT
                have HLL := HL.out
                by_cases hlt : k < n
                · obtain ⟨bb, off, had, hbl, hc⟩ := HRa.out.at (i := k) (by omega)
                  subst had
                  have hc1 : wr.cell? ⟨bb, off + k, none⟩ = some (.int .u64 (nth xs k)) := (hTr.below.cell hbl).trans hc
                  have HTK : Hid (xs.take (k + 1) = xs.take k ++ [nth xs k]) := take_nth xs k (by omega)
                  have hsz := hTr.below.size
                  clear hc HLL
                  go_wp2_with (at_builtin; refine wpList_append_fits _ rfl (.tmp 89) (.tmp 94) 28 rfl w2.heap.size 36 i0 1 Try.underlying28 hi hz1 g2 (m + k) (n + m) _ rfl (hTr.ba.alloc _) ⟨wr.heap.size, 0, none⟩ 1 1 [.int .u64 (nth xs k)] rfl rfl (cell_one_new _ _ _) (ints_oneCell .u64 [nth xs k]) (by omega) ?_)
                  intro w5 hown5 hgrow5
                  have hT' := hTr.grow2 (x := nth xs k) hown5 (by simp) hgrow5 rfl
                  clear hown5 hgrow5 hTr hc1
                  go_wp2
                  go_roundw
                  case rel => exact ⟨k + 1, by omega, by go_num, by first | rfl | rw [Nat.add_assoc], by rw [HTK.out]; first | exact hT' | simpa only [List.append_assoc, Nat.add_assoc] using hT'⟩
                  case measure => simp [intOf]; omega
                · have hkn : n = k := by omega
                  subst hkn
                  have htk : xs.take n = xs := by rw [← HLL]; exact List.take_length
                  rw [htk] at hTr
                  have hT := hTr
                  clear hTr htk HLL hlt hk
                  have hRA := HRa.out.later hT.below
                  have hRB := HRb.out.later hT.below
                  have hRab := hT.reads1
                  have hRba := hT.reads2
                  have hBel : Below w'.heap.size w' wr := HB2.out.trans (hT.below.mono HB2.out.size)
                  have hlab : (xs ++ ys).length = n + m := by rw [List.length_append, HL.out, HM.out]
                  have hlba : (ys ++ xs).length = m + n := by rw [List.length_append, HL.out, HM.out]
                  have hwab : ∀ x ∈ xs ++ ys, 0 ≤ x ∧ x < 18446744073709551616 := fun x hx => (List.mem_append.1 hx).elim (HW.out x) (HW'.out x)
                  have hwba : ∀ x ∈ ys ++ xs, 0 ≤ x ∧ x < 18446744073709551616 := fun x hx => (List.mem_append.1 hx).elim (HW'.out x) (HW.out x)
                  have hmx : wid (big (xs ++ ys)) = max (wid (big xs)) (wid (big ys)) := by rw [big_append, wid_max]
                  have hmx' : wid (big (ys ++ xs)) = max (wid (big xs)) (wid (big ys)) := by rw [big_append, wid_max]; omega
                  have FA : Hid (Reads .u64 wr a1 xs ∧ Reads .u64 wr b1 ys ∧ Reads .u64 wr (some ⟨w2.heap.size, 0, none⟩) (xs ++ ys) ∧ Reads .u64 wr (some ⟨g2, 0, none⟩) (ys ++ xs) ∧ Below w'.heap.size w' wr) := ⟨hRA, hRB, hRab, hRba, hBel⟩
                  have FL : Hid ((xs ++ ys).length = n + m ∧ (ys ++ xs).length = m + n) := ⟨hlab, hlba⟩
                  have FW : Hid ((∀ x ∈ xs ++ ys, 0 ≤ x ∧ x < 18446744073709551616) ∧ (∀ x ∈ ys ++ xs, 0 ≤ x ∧ x < 18446744073709551616)) := ⟨hwab, hwba⟩
                  have FM : Hid (wid (big (xs ++ ys)) = max (wid (big xs)) (wid (big ys)) ∧ wid (big (ys ++ xs)) = max (wid (big xs)) (wid (big ys))) := ⟨hmx, hmx'⟩
                  clear hRA hRB hRab hRba hBel hlab hlba hwab hwba hmx hmx' hT HRa HRb HB2
                  go_wp2_with fail
                  refine (enum_any _ _ _ xs HL.out _ HZ1.out FA.out.1 (by omega)).mono ?_
                  rintro e w5 ⟨e1, rfl, hen1, hb5⟩
                  have FA5 : Hid (Reads .u64 w5 a1 xs ∧ Reads .u64 w5 b1 ys ∧ Reads .u64 w5 (some ⟨w2.heap.size, 0, none⟩) (xs ++ ys) ∧ Reads .u64 w5 (some ⟨g2, 0, none⟩) (ys ++ xs) ∧ Below w'.heap.size w' w5) :=
                    ⟨FA.out.1.later hb5, FA.out.2.1.later hb5, FA.out.2.2.1.later hb5, FA.out.2.2.2.1.later hb5, FA.out.2.2.2.2.trans (hb5.mono FA.out.2.2.2.2.size)⟩
                  clear FA hb5
                  go_wp2_with fail
                  refine (width_any e1 xs _ hen1 HW.out (by rw [HL.out]; omega)).mono ?_
                  rintro e w6 ⟨rfl, rfl⟩
                  clear hen1
                  go_wp2_with fail
                  refine (enum_any _ _ _ ys HM.out _ HZ2.out FA5.out.2.1 (by omega)).mono ?_
                  rintro e w7 ⟨e2, rfl, hen2, hb7⟩
                  have FA7 : Hid (Reads .u64 w7 a1 xs ∧ Reads .u64 w7 b1 ys ∧ Reads .u64 w7 (some ⟨w2.heap.size, 0, none⟩) (xs ++ ys) ∧ Reads .u64 w7 (some ⟨g2, 0, none⟩) (ys ++ xs) ∧ Below w'.heap.size w' w7) :=
                    ⟨FA5.out.1.later hb7, FA5.out.2.1.later hb7, FA5.out.2.2.1.later hb7, FA5.out.2.2.2.1.later hb7, FA5.out.2.2.2.2.trans (hb7.mono FA5.out.2.2.2.2.size)⟩
                  clear FA5 hb7
                  go_wp2_with fail
                  refine (width_any e2 ys _ hen2 HW'.out (by rw [HM.out]; omega)).mono ?_
                  rintro e w8 ⟨rfl, rfl⟩
                  clear hen2
                  go_wp2_with fail
                  refine (enum_any _ _ _ (xs ++ ys) FL.out.1 _ (fun h => by cases h) FA7.out.2.2.1 (by omega)).mono ?_
                  rintro e w9 ⟨e3, rfl, hen3, hb9⟩
                  have FA9 : Hid (Reads .u64 w9 a1 xs ∧ Reads .u64 w9 b1 ys ∧ Reads .u64 w9 (some ⟨w2.heap.size, 0, none⟩) (xs ++ ys) ∧ Reads .u64 w9 (some ⟨g2, 0, none⟩) (ys ++ xs) ∧ Below w'.heap.size w' w9) :=
                    ⟨FA7.out.1.later hb9, FA7.out.2.1.later hb9, FA7.out.2.2.1.later hb9, FA7.out.2.2.2.1.later hb9, FA7.out.2.2.2.2.trans (hb9.mono FA7.out.2.2.2.2.size)⟩
                  clear FA7 hb9
                  go_wp2_with fail
                  refine (width_any e3 (xs ++ ys) _ hen3 FW.out.1 (by rw [FL.out.1]; omega)).mono ?_
                  rw [FM.out.1]
                  rintro e w10 ⟨rfl, rfl⟩
                  clear hen3
                  go_wp2_with fail
                  refine (enum_any _ _ _ (ys ++ xs) FL.out.2 _ (fun h => by cases h) FA9.out.2.2.2.1 (by omega)).mono ?_
                  rintro e w11 ⟨e4, rfl, hen4, hb11⟩
                  have FAB : Hid (Reads .u64 w11 a1 xs ∧ Reads .u64 w11 b1 ys ∧ Below w'.heap.size w' w11) :=
                    ⟨FA9.out.1.later hb11, FA9.out.2.1.later hb11, FA9.out.2.2.2.2.trans (hb11.mono FA9.out.2.2.2.2.size)⟩
                  clear FA9 hb11
                  go_wp2_with fail
                  refine (width_any e4 (ys ++ xs) _ hen4 FW.out.2 (by rw [FL.out.2]; omega)).mono ?_
                  rw [FM.out.2]
                  rintro e w12 ⟨rfl, rfl⟩
                  clear hen4
                  by_cases hAB : wid (big xs) < wid (big ys)
                  · rw [show max (wid (big xs)) (wid (big ys)) = wid (big ys) by omega]
                    go_wp2_with fail
                    refine (fewest_wid _ _ _ xs HL.out _ FAB.out.1 (by omega) HW.out).mono ?_
                    rintro e w13 ⟨rfl, rfl⟩
                    go_wp2_with fail
                    refine (fewest_wid _ _ _ ys HM.out _ FAB.out.2.1 (by omega) HW'.out).mono ?_
                    rintro e w14 ⟨rfl, rfl⟩
                    go_wp2
                    go_ret
                    exact ⟨by simp, FAB.out.2.2⟩
                  · rw [show max (wid (big xs)) (wid (big ys)) = wid (big xs) by omega]
                    go_wp2_with fail
                    refine (fewest_wid _ _ _ xs HL.out _ FAB.out.1 (by omega) HW.out).mono ?_
                    rintro e w13 ⟨rfl, rfl⟩
                    go_wp2_with fail
                    refine (fewest_wid _ _ _ ys HM.out _ FAB.out.2.1 (by omega) HW'.out).mono ?_
                    rintro e w14 ⟨rfl, rfl⟩
                    go_wp2
                    go_ret
                    exact ⟨by simp, FAB.out.2.2⟩

set_option maxHeartbeats 400000 in
theorem law6_big (a b : Option Addr) (n c m d : Nat) (w : World) (hn : n ≤ maxLen) (hm : m ≤ maxLen) (h : ¬ (n ≤ 32768 ∧ m ≤ 32768)) :
    Calls Try.prog 6 #[.slice a n c, .slice b m d] w fun e w' => e = .returned (.bool true) ∧ Below w.heap.size w w' := by
  have hB := bytes21 a b n c m d w hn hm
  unfold maxLen at hn hm
  by_cases h3 : n + m ≤ 1048576
  · rw [decide_eq_true h3] at hB
    by_cases h1 : n ≤ 32768
    · have h2 : ¬ m ≤ 32768 := fun h2 => h ⟨h1, h2⟩
      clear h
      go_enter Try.func6, Try.ntmps6
      go_wp2_with (go_at_call 21; refine hB.mono ?_; rintro e w' ⟨rfl, rfl⟩)
      go_ret
      exact ⟨rfl, Below.refl _ _⟩
    · clear h
      go_enter Try.func6, Try.ntmps6
      go_wp2_with (go_at_call 21; refine hB.mono ?_; rintro e w' ⟨rfl, rfl⟩)
      go_ret
      exact ⟨rfl, Below.refl _ _⟩
  · rw [decide_eq_false h3] at hB
    go_enter Try.func6, Try.ntmps6
    go_wp2_with (go_at_call 21; refine hB.mono ?_; rintro e w' ⟨rfl, rfl⟩)
    go_ret
    exact ⟨rfl, Below.refl _ _⟩
end Go.Proofs.Qxb6605209a.EW
