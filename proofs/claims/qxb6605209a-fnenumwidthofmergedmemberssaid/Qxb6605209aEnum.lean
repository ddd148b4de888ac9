/-
  The contracts of the enum functions of this seat: zzBytes_.., enumOfNumbers, Width, fitsInBytes, widthIsFewest.
-/
import Derived.Test.Qxb6605209aBase
namespace Go.Proofs.Qxb6605209a.EW
open Go.ChangeShapes Go.WideShapes Go.ChangeAt Go.RowKit
set_option linter.unusedVariables false

set_option maxHeartbeats 400000 in
theorem fits_any (x v : Int) (w : World) (h0 : 0 ≤ x) (h1 : x < 18446744073709551616) (hv : v = 1 ∨ v = 2 ∨ v = 4 ∨ v = 8) :
    Calls Try.prog 30 #[.int .u64 x, .int .i64 v] w fun e w' => e = .returned (.bool (fitB v x)) ∧ w' = w := by
  rcases hv with rfl | rfl | rfl | rfl
  all_goals
    go_enter Try.func30, Try.ntmps30
    go_wp2
    go_ret
    refine ⟨ret_bool ?_, rfl⟩
    simp [fitB]
    try rw [Bool.eq_iff_iff]
    try simp
    try omega

set_option maxHeartbeats 400000 in
theorem bytes16 (a : Option Addr) (n c : Nat) (w : World) (h : n ≤ maxLen) :
    Calls Try.prog 16 #[.slice a n c] w fun e w' => e = .returned (.bool (decide (n ≤ 1048576))) ∧ w' = w := by
  unfold maxLen at h
  by_cases h1 : n ≤ 1048576
  all_goals
    go_enter Try.func16, Try.ntmps16
    go_wp2
    go_ret
    exact ⟨by simp [h1], rfl⟩

/-- An enum over the numbers zs lies at block g. -/
def EnumAt (w : World) (g : Nat) (zs : List Int) : Prop :=
  ∃ a c, w.cell? ⟨g, 3, none⟩ = some (.slice a zs.length c) ∧ ∀ i, i < zs.length → ∃ m p, a = some ⟨m, 0, none⟩ ∧ w.cell? ⟨m, i, none⟩ = some (.pointer (some ⟨p, 0, none⟩)) ∧ w.cell? ⟨p, 3, none⟩ = some (.int .u64 (nth zs i))

theorem wid_ret {m : Int} {v : Int} (h : v = wid m) : Ending.returned (.int .i64 v) = .returned (.int .i64 (wid m)) := by rw [h]

set_option maxHeartbeats 400000 in
theorem width_any (g : Nat) (zs : List Int) (w : World) (h : EnumAt w g zs) (hwf : ∀ x ∈ zs, 0 ≤ x ∧ x < 18446744073709551616) (hn : zs.length ≤ 1048576) :
    Calls Try.prog 19 #[.pointer (some ⟨g, 0, none⟩)] w fun e w' => e = .returned (.int .i64 (wid (big zs))) ∧ w' = w := by
  obtain ⟨a, c, hc, hcs⟩ := h
  obtain ⟨n, HN⟩ : ∃ n, zs.length = n := ⟨_, rfl⟩
  rw [HN] at hn hc
  have HN' : Hid (zs.length = n) := HN
  have HCS : Hid _ := hcs
  have HWF : Hid _ := hwf
  clear HN hcs hwf
  go_enter Try.func19, Try.ntmps19
  go_wp2
  go_loop [3, 11] (fun l i => ∃ k : Nat, k ≤ n ∧ i = .int .i64 k ∧ l = .int .u64 (big (zs.take k))) (fun _ i => n - (intOf i).toNat)
  case atStart => exact ⟨0, Nat.zero_le _, rfl, rfl⟩
  case round =>
    obtain ⟨k, hk, rfl, rfl⟩ := hrel
    have HL := HN'.out
    by_cases hlt : k < n
    · obtain ⟨m, p, rfl, hc1, hc2⟩ := HCS.out k (by omega)
      have HS : Hid (big (zs.take (k + 1)) = max (big (zs.take k)) (nth zs k)) := by
        show _ = _
        rw [take_nth zs k (by omega), big_snoc]
      clear HL
      go_wp2
      go_round
      case rel => exact ⟨k + 1, by omega, by go_num, by rw [HS.out]; congr 1; split <;> omega⟩
      case measure => simp [intOf]; omega
    · have hk' : k = n := by omega
      subst hk'
      have HB : Hid (zs.take k = zs) := by show _ = _; rw [← HL]; exact List.take_length
      rw [HB.out]
      clear HL
      go_wp2
      all_goals
        go_ret
        refine ⟨wid_ret ?_, rfl⟩
        have := wid_cases (big zs)
        omega

theorem Try.info53 : (Try.prog.info? 53).map (fun i => (i.zero, i.size, i.bytes)) = some (some (.pointer none), 1, 8) := by kernel_rfl

/-- The members behind m rounds. -/
structure Building (w : World) (zs : List Int) (m : Nat) (wr : World) : Prop where
  own : ∃ xs, wr.ownsRow w.heap.size 53 1 (.slice (some ⟨w.heap.size, 0, none⟩) zs.length zs.length) zs.length xs ∧
    ∀ i, i < m → ∃ p, xs[i]? = some (.pointer (some ⟨p, 0, none⟩)) ∧ w.heap.size < p ∧ wr.cell? ⟨p, 3, none⟩ = some (.int .u64 (nth zs i))
  below : Below w.heap.size w wr

theorem Building.start {w w1 : World} {zs : List Int} {l : List Value} (hown : w1.ownsRow w.heap.size 53 1 (.slice (some ⟨w.heap.size, 0, none⟩) zs.length zs.length) zs.length l) (hgrow : w.grownBy w1 none) : Building w zs 0 w1 :=
  ⟨⟨l, hown, fun i hi => absurd hi (by omega)⟩, (Below.refl _ _).grown hgrow (Nat.le_refl _) (by intro k hk; cases hk)⟩

theorem Building.slot {w wr : World} {zs : List Int} {m : Nat} (h : Building w zs m wr) {i : Nat} (hi : i < zs.length) :
    (∃ u, wr.cell? ⟨w.heap.size, i, none⟩ = some u) ∧ wr.frozen? ⟨w.heap.size, i, none⟩ = false ∧ w.heap.size < wr.heap.size := by
  obtain ⟨xs, hown, hmem⟩ := h.own
  have hc : ∃ u, wr.cell? ⟨w.heap.size, i, none⟩ = some u := by
    rw [hown.cellAt i (by omega)]
    have hl := hown.1
    exact ⟨xs[i]'(by omega), List.getElem?_eq_getElem _⟩
  refine ⟨hc, hown.frozenAt i, ?_⟩
  obtain ⟨u, hu⟩ := hc
  exact World.block_lt_of_cell? _ _ hu

theorem Building.step {w wr : World} {zs : List Int} {m : Nat} (h : Building w zs m wr) (hm : m < zs.length) (cs : Array Value) (hcs : cs[3]? = some (.int .u64 (nth zs m))) :
    Building w zs (m + 1) ((wr.setCell ⟨w.heap.size, m, none⟩ (.pointer (some ⟨wr.heap.size, 0, none⟩))).alloc (.cells cs 57)) := by
  obtain ⟨hc, hf, hlt⟩ := h.slot hm
  obtain ⟨xs, hown, hmem⟩ := h.own
  have hl := hown.1
  have hsz : (wr.setCell ⟨w.heap.size, m, none⟩ (.pointer (some ⟨wr.heap.size, 0, none⟩))).heap.size = wr.heap.size := by simp [World.setCell]
  refine ⟨⟨_, ((hown.stored m _).1).alloc _, fun i hi => ?_⟩, (h.below.setCell (Nat.le_refl _) _).alloc (by omega) _⟩
  by_cases him : i = m
  · subst him
    refine ⟨wr.heap.size, ?_, hlt, ?_⟩
    · rw [List.getElem?_set_self (by omega)]
    · rw [World.cell?_alloc_at _ _ _ _ hsz.symm, hcs]
  · obtain ⟨p, h1, h2, h3⟩ := hmem i (by omega)
    have hp : p < wr.heap.size := World.block_lt_of_cell? _ _ h3
    refine ⟨p, ?_, h2, ?_⟩
    · rw [List.getElem?_set_ne (by omega)]; exact h1
    · rw [World.cell?_alloc_past _ _ _ (by omega), World.cell?_setCell_other _ _ _ _ (by intro e; have := congrArg Addr.block e; simp at this; omega)]; exact h3

theorem Building.enum {w wr : World} {zs : List Int} (h : Building w zs zs.length wr) (s x y : Value) :
    EnumAt (wr.alloc (.cells #[s, x, y, .slice (some ⟨w.heap.size, 0, none⟩) zs.length zs.length] 59)) wr.heap.size zs := by
  refine ⟨some ⟨w.heap.size, 0, none⟩, zs.length, by rw [World.cell?_alloc_at _ _ _ _ rfl]; rfl, fun i hi => ?_⟩
  obtain ⟨hc, hf, hlt⟩ := h.slot hi
  obtain ⟨xs, hown, hmem⟩ := h.own
  obtain ⟨p, h1, h2, h3⟩ := hmem i hi
  have hp : p < wr.heap.size := World.block_lt_of_cell? _ _ h3
  refine ⟨w.heap.size, p, rfl, ?_, ?_⟩
  · rw [World.cell?_alloc_past _ _ _ hlt, hown.cellAt i (by omega)]; exact h1
  · rw [World.cell?_alloc_past _ _ _ hp]; exact h3

/-- What an enum's making leaves. -/
def Made (w : World) (zs : List Int) (e : Ending) (w' : World) : Prop := ∃ g, e = .returned (.pointer (some ⟨g, 0, none⟩)) ∧ EnumAt w' g zs ∧ Below w.heap.size w w'

set_option maxHeartbeats 400000 in
theorem enum_any (a : Option Addr) (n c : Nat) (zs : List Int) (HN : zs.length = n) (w : World) (ha : a = none → zs = []) (hr : Reads .u64 w a zs) (hn : n ≤ 1048576) :
    Calls Try.prog 18 #[.slice a n c] w (Made w zs) := by
  have q28 : ∀ (w : World) (a : Option Addr) (n c n' c' : Nat), (binOp .neq 28 (.slice a n c) (.slice none n' c')).run Try.prog w = .ok (.bool (!a.isNone)) w := fun w a n c n' c' => run_neq_slice_nil_any w _ _ a n c n' c' Try.underlying28
  obtain ⟨i0, hi, hz0, hz1, hz2⟩ := info_parts Try.info53
  have HN' : Hid (zs.length = n) := HN
  clear HN
  cases a with
  | none =>
    obtain rfl := ha rfl
    obtain rfl := HN'.out
    clear HN' ha hr
    go_enter Try.func18, Try.ntmps18
    go_wp2
    refine wp_loop_rounds 1 ?_; rw [rounds_succ]
    go_wp2
    go_ret
    exact ⟨w.heap.size, rfl, ⟨none, 0, by rw [World.cell?_alloc_at _ _ _ _ rfl]; rfl, fun i hi => absurd hi (by simp)⟩, (Below.refl _ _).alloc (Nat.le_refl _) _⟩
  | some ad =>
    clear ha
    go_enter Try.func18, Try.ntmps18
    go_wp2_with (first | (at_make; refine wpList_make_full _ rfl _ _ 52 rfl w.heap.size 53 i0 (.pointer none) 1 Try.underlying52 hi hz0 hz1 _ _ _ _ n rfl rfl rfl rfl (by rw [hz2]; omega) (by unfold maxLen; omega) (Nat.le_refl _) ?_))
    intro w1 hown hgrow
    have hcp : Building w zs 0 w1 := by
      have e := HN'.out
      subst e
      exact Building.start hown hgrow
    clear hown hgrow
    go_wp2
    go_loopw [4] (fun i wr => ∃ k : Nat, k ≤ n ∧ i = .int .i64 k ∧ Building w zs k wr) (fun i _ => n - (intOf i).toNat)
    case atStart => exact ⟨0, Nat.zero_le _, rfl, hcp⟩
    case round =>
      obtain ⟨k, hk, rfl, hcr⟩ := hrel
      clear hcp
      have HL := HN'.out
      by_cases hlt : k < n
      · obtain ⟨b, off, had, hbl, hc⟩ := hr.at (i := k) (by omega)
        obtain rfl := Option.some.inj had
        have hc1 : wr.cell? ⟨b, off + k, none⟩ = some (.int .u64 (nth zs k)) := (hcr.below.cell hbl).trans hc
        obtain ⟨⟨u, hu⟩, hfr, hsz⟩ := hcr.slot (i := k) (by omega)
        have hst := hcr.step (m := k) (by omega)
        clear hc HL hr had hcr
        go_wp2
        go_roundw
        case rel => exact ⟨k + 1, by omega, by go_num, hst _ rfl⟩
        case measure => simp [intOf]; omega
      · have hk' : k = zs.length := by omega
        rw [hk'] at hcr
        clear hk'
        have hen := hcr.enum
        have hbl := hcr.below
        rw [HL] at hen
        clear HL hr hcr
        go_wp2
        go_ret
        exact ⟨wr.heap.size, rfl, hen _ _ _, hbl.alloc hbl.size _⟩

theorem ret_true {b : Bool} (h : b = true) : Ending.returned (.bool b) = .returned (.bool true) := by rw [h]

/-- 'needed' once true stays true; else it hangs on the last number. -/
theorem needB_take {v : Int} {zs : List Int} {k : Nat} (h : k < zs.length) : needB v (zs.take (k + 1)) = (needB v (zs.take k) || !fitB (v / 2) (nth zs k)) := by
  rw [take_nth zs k h, needB_snoc]

set_option maxHeartbeats 400000 in
theorem fewest1 (a : Option Addr) (n c : Nat) (zs : List Int) (HN' : Hid (zs.length = n)) (w : World) (HR : Hid (Reads .u64 w a zs)) (hn : n ≤ 1048576)
    (HW : Hid (∀ x ∈ zs, 0 ≤ x ∧ x < 18446744073709551616)) (HF : Hid (∀ x ∈ zs, fitB 1 x = true)) :
    Calls Try.prog 20 #[.slice a n c, .int .i64 1] w fun e w' => e = .returned (.bool (needB 1 zs)) ∧ w' = w := by
  go_enter Try.func20, Try.ntmps20
  go_wp2_with fail
  go_loop [5, 6] (fun nd i => ∃ k : Nat, k ≤ n ∧ i = .int .i64 k ∧ nd = .bool (needB 1 (zs.take k))) (fun _ i => n - (intOf i).toNat)
  case atStart => exact ⟨0, Nat.zero_le _, rfl, rfl⟩
  case round =>
    obtain ⟨k, hk, rfl, rfl⟩ := hrel
    have HL := HN'.out
    by_cases hlt : k < n
    · obtain ⟨b, off, rfl, hbl, hc⟩ := HR.out.at (i := k) (by omega)
      have hx := HW.out _ (nth_mem zs k (by omega))
      have hf := HF.out _ (nth_mem zs k (by omega))
      have hnd : needB 1 (zs.take k) = true := by simp [needB]
      have hnd1 : needB 1 (zs.take (k + 1)) = true := by simp [needB]
      clear HL
      go_wp2_with (go_at_call 30; refine (fits_any _ _ _ hx.1 hx.2 (by omega)).mono ?_; rintro e w' ⟨rfl, rfl⟩)
      go_round
      case rel => exact ⟨k + 1, by omega, by go_num, by rw [hnd1]⟩
      case measure => simp [intOf]; omega
    · have hk' : k = zs.length := by omega
      have HB : Hid (needB 1 (zs.take k) = needB 1 zs) := by show _ = _; rw [hk', List.take_length]
      clear HL hk'
      go_wp2
      go_ret
      exact ⟨ret_bool HB.out, rfl⟩

set_option maxHeartbeats 400000 in
theorem fewest2 (a : Option Addr) (n c : Nat) (zs : List Int) (HN' : Hid (zs.length = n)) (w : World) (HR : Hid (Reads .u64 w a zs)) (hn : n ≤ 1048576)
    (HW : Hid (∀ x ∈ zs, 0 ≤ x ∧ x < 18446744073709551616)) (HF : Hid (∀ x ∈ zs, fitB 2 x = true)) :
    Calls Try.prog 20 #[.slice a n c, .int .i64 2] w fun e w' => e = .returned (.bool (needB 2 zs)) ∧ w' = w := by
  go_enter Try.func20, Try.ntmps20
  go_wp2_with fail
  go_loop [5, 6] (fun nd i => ∃ k : Nat, k ≤ n ∧ i = .int .i64 k ∧ nd = .bool (needB 2 (zs.take k))) (fun _ i => n - (intOf i).toNat)
  case atStart => exact ⟨0, Nat.zero_le _, rfl, rfl⟩
  case round =>
    obtain ⟨k, hk, rfl, rfl⟩ := hrel
    have HL := HN'.out
    by_cases hlt : k < n
    · obtain ⟨b, off, rfl, hbl, hc⟩ := HR.out.at (i := k) (by omega)
      have hx := HW.out _ (nth_mem zs k (by omega))
      have hf := HF.out _ (nth_mem zs k (by omega))
      have HS : Hid (needB 2 (zs.take (k + 1)) = (needB 2 (zs.take k) || !fitB 1 (nth zs k))) := needB_take (v := 2) (by omega)
      clear HL
      cases hnd : needB 2 (zs.take k) with
      | true =>
        go_wp2_with (go_at_call 30; refine (fits_any _ _ _ hx.1 hx.2 (by omega)).mono ?_; rintro e w' ⟨rfl, rfl⟩)
        go_round
        case rel => exact ⟨k + 1, by omega, by go_num, by rw [HS.out, hnd]; rfl⟩
        case measure => simp [intOf]; omega
      | false =>
        cases hff : fitB 1 (nth zs k) with
        | true =>
          go_wp2_with (go_at_call 30; refine (fits_any _ _ _ hx.1 hx.2 (by omega)).mono ?_; rintro e w' ⟨rfl, rfl⟩)
          go_round
          case rel => exact ⟨k + 1, by omega, by go_num, by rw [HS.out, hnd, hff]; rfl⟩
          case measure => simp [intOf]; omega
        | false =>
          go_wp2_with (go_at_call 30; refine (fits_any _ _ _ hx.1 hx.2 (by omega)).mono ?_; rintro e w' ⟨rfl, rfl⟩)
          go_round
          case rel => exact ⟨k + 1, by omega, by go_num, by rw [HS.out, hnd, hff]; rfl⟩
          case measure => simp [intOf]; omega
    · have hk' : k = zs.length := by omega
      have HB : Hid (needB 2 (zs.take k) = needB 2 zs) := by show _ = _; rw [hk', List.take_length]
      clear HL hk'
      go_wp2
      go_ret
      exact ⟨ret_bool HB.out, rfl⟩

set_option maxHeartbeats 400000 in
theorem fewest4 (a : Option Addr) (n c : Nat) (zs : List Int) (HN' : Hid (zs.length = n)) (w : World) (HR : Hid (Reads .u64 w a zs)) (hn : n ≤ 1048576)
    (HW : Hid (∀ x ∈ zs, 0 ≤ x ∧ x < 18446744073709551616)) (HF : Hid (∀ x ∈ zs, fitB 4 x = true)) :
    Calls Try.prog 20 #[.slice a n c, .int .i64 4] w fun e w' => e = .returned (.bool (needB 4 zs)) ∧ w' = w := by
  go_enter Try.func20, Try.ntmps20
  go_wp2_with fail
  go_loop [5, 6] (fun nd i => ∃ k : Nat, k ≤ n ∧ i = .int .i64 k ∧ nd = .bool (needB 4 (zs.take k))) (fun _ i => n - (intOf i).toNat)
  case atStart => exact ⟨0, Nat.zero_le _, rfl, rfl⟩
  case round =>
    obtain ⟨k, hk, rfl, rfl⟩ := hrel
    have HL := HN'.out
    by_cases hlt : k < n
    · obtain ⟨b, off, rfl, hbl, hc⟩ := HR.out.at (i := k) (by omega)
      have hx := HW.out _ (nth_mem zs k (by omega))
      have hf := HF.out _ (nth_mem zs k (by omega))
      have HS : Hid (needB 4 (zs.take (k + 1)) = (needB 4 (zs.take k) || !fitB 2 (nth zs k))) := needB_take (v := 4) (by omega)
      clear HL
      cases hnd : needB 4 (zs.take k) with
      | true =>
        go_wp2_with (go_at_call 30; refine (fits_any _ _ _ hx.1 hx.2 (by omega)).mono ?_; rintro e w' ⟨rfl, rfl⟩)
        go_round
        case rel => exact ⟨k + 1, by omega, by go_num, by rw [HS.out, hnd]; rfl⟩
        case measure => simp [intOf]; omega
      | false =>
        cases hff : fitB 2 (nth zs k) with
        | true =>
          go_wp2_with (go_at_call 30; refine (fits_any _ _ _ hx.1 hx.2 (by omega)).mono ?_; rintro e w' ⟨rfl, rfl⟩)
          go_round
          case rel => exact ⟨k + 1, by omega, by go_num, by rw [HS.out, hnd, hff]; rfl⟩
          case measure => simp [intOf]; omega
        | false =>
          go_wp2_with (go_at_call 30; refine (fits_any _ _ _ hx.1 hx.2 (by omega)).mono ?_; rintro e w' ⟨rfl, rfl⟩)
          go_round
          case rel => exact ⟨k + 1, by omega, by go_num, by rw [HS.out, hnd, hff]; rfl⟩
          case measure => simp [intOf]; omega
    · have hk' : k = zs.length := by omega
      have HB : Hid (needB 4 (zs.take k) = needB 4 zs) := by show _ = _; rw [hk', List.take_length]
      clear HL hk'
      go_wp2
      go_ret
      exact ⟨ret_bool HB.out, rfl⟩

set_option maxHeartbeats 400000 in
theorem fewest8 (a : Option Addr) (n c : Nat) (zs : List Int) (HN' : Hid (zs.length = n)) (w : World) (HR : Hid (Reads .u64 w a zs)) (hn : n ≤ 1048576)
    (HW : Hid (∀ x ∈ zs, 0 ≤ x ∧ x < 18446744073709551616)) (HF : Hid (∀ x ∈ zs, fitB 8 x = true)) :
    Calls Try.prog 20 #[.slice a n c, .int .i64 8] w fun e w' => e = .returned (.bool (needB 8 zs)) ∧ w' = w := by
  go_enter Try.func20, Try.ntmps20
  go_wp2_with fail
  go_loop [5, 6] (fun nd i => ∃ k : Nat, k ≤ n ∧ i = .int .i64 k ∧ nd = .bool (needB 8 (zs.take k))) (fun _ i => n - (intOf i).toNat)
  case atStart => exact ⟨0, Nat.zero_le _, rfl, rfl⟩
  case round =>
    obtain ⟨k, hk, rfl, rfl⟩ := hrel
    have HL := HN'.out
    by_cases hlt : k < n
    · obtain ⟨b, off, rfl, hbl, hc⟩ := HR.out.at (i := k) (by omega)
      have hx := HW.out _ (nth_mem zs k (by omega))
      have hf := HF.out _ (nth_mem zs k (by omega))
      have HS : Hid (needB 8 (zs.take (k + 1)) = (needB 8 (zs.take k) || !fitB 4 (nth zs k))) := needB_take (v := 8) (by omega)
      clear HL
      cases hnd : needB 8 (zs.take k) with
      | true =>
        go_wp2_with (go_at_call 30; refine (fits_any _ _ _ hx.1 hx.2 (by omega)).mono ?_; rintro e w' ⟨rfl, rfl⟩)
        go_round
        case rel => exact ⟨k + 1, by omega, by go_num, by rw [HS.out, hnd]; rfl⟩
        case measure => simp [intOf]; omega
      | false =>
        cases hff : fitB 4 (nth zs k) with
        | true =>
          go_wp2_with (go_at_call 30; refine (fits_any _ _ _ hx.1 hx.2 (by omega)).mono ?_; rintro e w' ⟨rfl, rfl⟩)
          go_round
          case rel => exact ⟨k + 1, by omega, by go_num, by rw [HS.out, hnd, hff]; rfl⟩
          case measure => simp [intOf]; omega
        | false =>
          go_wp2_with (go_at_call 30; refine (fits_any _ _ _ hx.1 hx.2 (by omega)).mono ?_; rintro e w' ⟨rfl, rfl⟩)
          go_round
          case rel => exact ⟨k + 1, by omega, by go_num, by rw [HS.out, hnd, hff]; rfl⟩
          case measure => simp [intOf]; omega
    · have hk' : k = zs.length := by omega
      have HB : Hid (needB 8 (zs.take k) = needB 8 zs) := by show _ = _; rw [hk', List.take_length]
      clear HL hk'
      go_wp2
      go_ret
      exact ⟨ret_bool HB.out, rfl⟩

/-- 'widthIsFewest' at the width of the list's own greatest number says true. -/
theorem fewest_wid (a : Option Addr) (n c : Nat) (zs : List Int) (HN : zs.length = n) (w : World) (hr : Reads .u64 w a zs) (hn : n ≤ 1048576)
    (hwf : ∀ x ∈ zs, 0 ≤ x ∧ x < 18446744073709551616) :
    Calls Try.prog 20 #[.slice a n c, .int .i64 (wid (big zs))] w fun e w' => e = .returned (.bool true) ∧ w' = w := by
  have hf := fit_wid zs
  have hnd := need_wid zs
  rcases wid_cases (big zs) with ⟨h, _⟩ | ⟨h, _⟩ | ⟨h, _⟩ | ⟨h, _⟩ <;> rw [h] at hf hnd ⊢
  · exact (fewest1 a n c zs HN w hr hn hwf hf).mono fun e w' h => by rw [hnd] at h; exact h
  · exact (fewest2 a n c zs HN w hr hn hwf hf).mono fun e w' h => by rw [hnd] at h; exact h
  · exact (fewest4 a n c zs HN w hr hn hwf hf).mono fun e w' h => by rw [hnd] at h; exact h
  · exact (fewest8 a n c zs HN w hr hn hwf hf).mono fun e w' h => by rw [hnd] at h; exact h
end Go.Proofs.Qxb6605209a.EW
