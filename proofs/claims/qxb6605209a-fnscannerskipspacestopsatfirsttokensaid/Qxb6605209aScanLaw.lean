/-
  The walk of FnScannerSkipSpaceStopsAtFirstToken.
-/
import Derived.Test.Qxb6605209aZz
import Derived.OpenShut
namespace Go.Proofs.Qxb6605209a.SK
open Go.ChangeShapes Go.WideShapes Go.ChangeAt Go.RowKit
open Go.Proofs.Qxb6605209a.EW
set_option linter.unusedVariables false

set_option maxHeartbeats 400000 in
theorem bytes22 (a : Option Addr) (n c : Nat) (x y z : Int) (w : World) (h : n ≤ maxLen) :
    Calls Try.prog 22 #[.slice a n c, .int .i64 x, .int .i64 y, .int .i64 z] w fun e w' => e = .returned (.bool (decide (n ≤ 1048576))) ∧ w' = w := by
  unfold maxLen at h
  by_cases h1 : n ≤ 1048576
  all_goals
    go_enter Try.func22, Try.ntmps22
    go_wp2
    go_ret
    exact ⟨by simp [h1], rfl⟩

set_option maxRecDepth 8000 in
/-- Too long, or a negative start: true at once. -/
theorem law7_out (a : Option Addr) (n c : Nat) (x y z : Int) (w : World) (hm : n ≤ maxLen) (h : 1048576 < n ∨ x < 0) :
    Calls Try.prog 7 #[.slice a n c, .int .i64 x, .int .i64 y, .int .i64 z] w fun e w' => e = .returned (.bool true) ∧ Below w.heap.size w w' := by
  have hB := bytes22 a n c x y z w hm
  unfold maxLen at hm
  by_cases h3 : n ≤ 1048576
  · rw [decide_eq_true h3] at hB
    have hx : x < 0 := by omega
    clear h
    go_enter Try.func7, Try.ntmps7
    go_wp2_with (go_at_call 22; refine hB.mono ?_; rintro e w' ⟨rfl, rfl⟩)
    go_ret
    exact ⟨rfl, Below.refl _ _⟩
  · rw [decide_eq_false h3] at hB
    clear h
    go_enter Try.func7, Try.ntmps7
    go_wp2_with (go_at_call 22; refine hB.mono ?_; rintro e w' ⟨rfl, rfl⟩)
    go_ret
    exact ⟨rfl, Below.refl _ _⟩

set_option maxRecDepth 8000 in
set_option maxHeartbeats 1000000 in
/-- The start lies at or past the end: nothing moves. -/
theorem law7_far (a : Option Addr) (n c : Nat) (zs : List Int) (HN : Hid (zs.length = n)) (x y z : Int) (w : World) (hn : n ≤ 1048576) (hx : (n : Int) ≤ x) (HZ : Hid (a = none → zs = [])) (HR : Hid (Reads .u8 w a zs)) :
    Calls Try.prog 7 #[.slice a n c, .int .i64 x, .int .i64 y, .int .i64 z] w fun e w' => e = .returned (.bool true) ∧ Below w.heap.size w w' := by
  have hB := bytes22 a n c x y z w (by unfold maxLen; omega)
  rw [decide_eq_true hn] at hB
  go_enter Try.func7, Try.ntmps7
  go_wp2_with fail
  refine hB.mono ?_
  rintro e w' ⟨rfl, rfl⟩
  clear hB
  go_wp2_with fail
  refine (clone8 _ _ _ zs HN.out _ HZ.out HR.out hn).mono ?_
  rintro e w1 ⟨a1, c1, rfl, hz1, hr1, hb1⟩
  have HB1 : Hid (Below w'.heap.size w' w1) := hb1
  clear hb1 hz1 hr1 HZ HR
  go_wp2_with fail
  refine (zz_far _ n _ x y z _ hn hx).mono ?_
  rintro e w2 ⟨rfl, hb2⟩
  have HB2 : Hid (Below w'.heap.size w' w2) := HB1.out.trans (hb2.mono HB1.out.size)
  clear hb2 HB1
  go_wp2
  go_ret
  exact ⟨by simp, HB2.out⟩

/-- Where the skipping has ended a second skip moves nothing. -/
theorem zz_stay (a : Option Addr) (n c : Nat) (zs : List Int) (HN : Hid (zs.length = n)) (off : Nat) (line cl : Int) (w : World) (hn : n ≤ 1048576) (hoff : off ≤ n)
    (HR : Hid (Reads .u8 w a zs)) (HLn : Hid (-9223372036854775808 ≤ line ∧ line ≤ 9223372036854775807)) (HCl : Hid (-9223372036854775808 ≤ cl ∧ cl ≤ 9223372036854775807)) (hf : SK.fin false zs off = off) :
    Calls Try.prog 24 #[.slice a n c, .int .i64 off, .int .i64 line, .int .i64 cl] w fun e w' => e = .returned (.tuple #[.int .i64 off, .int .i64 line, .int .i64 cl]) ∧ Below w.heap.size w w' := by
  refine (zz_in a n c zs HN off line cl w hn hoff HR HLn HCl).mono ?_
  rintro e w' ⟨k, hk, rfl, hb⟩
  have hk0 : k = 0 := by omega
  subst hk0
  refine ⟨?_, hb⟩
  have h1 := HLn.out
  have h2 := HCl.out
  have e1 : lin zs off line 0 = line := by unfold lin; simp only [brk]; rw [wrap_in _ (by omega)]; omega
  have e2 : col zs off cl 0 = cl := by unfold col; rw [if_pos (show lst zs off 0 < 0 by simp [lst]), wrap_in _ (by omega)]; omega
  rw [e1, e2]; rfl

theorem wrap_bd (x : Int) : -9223372036854775808 ≤ wrap64 x ∧ wrap64 x ≤ 9223372036854775807 := by unfold wrap64; omega

set_option maxRecDepth 8000 in
set_option maxHeartbeats 1000000 in
theorem law7_in (a : Option Addr) (n c : Nat) (zs : List Int) (HN : Hid (zs.length = n)) (off : Nat) (y z : Int) (w : World) (hn : n ≤ 1048576) (hoff : off < n) (HZ : Hid (a = none → zs = [])) (HR : Hid (Reads .u8 w a zs))
    (HLn : Hid (-9223372036854775808 ≤ y ∧ y ≤ 9223372036854775807)) (HCl : Hid (-9223372036854775808 ≤ z ∧ z ≤ 9223372036854775807)) :
    Calls Try.prog 7 #[.slice a n c, .int .i64 off, .int .i64 y, .int .i64 z] w fun e w' => e = .returned (.bool true) ∧ Below w.heap.size w w' := by
  have hB := bytes22 a n c off y z w (by unfold maxLen; omega)
  rw [decide_eq_true hn] at hB
  go_enter Try.func7, Try.ntmps7
  go_wp2_with fail
  refine hB.mono ?_
  rintro e w' ⟨rfl, rfl⟩
  clear hB
  go_wp2_with fail
  refine (clone8 _ _ _ zs HN.out _ HZ.out HR.out hn).mono ?_
  rintro e w1 ⟨a1, c1, rfl, hz1, hr1, hb1⟩
  have HB1 : Hid (Below w'.heap.size w' w1) := hb1
  have HR1 : Hid (Reads .u8 w1 a1 zs) := hr1
  clear hb1 hz1 hr1 HZ HR
  go_wp2_with fail
  refine (zz_in _ n _ zs HN off y z _ hn (by omega) HR1 HLn HCl).mono ?_
  rintro e w2 ⟨k, hk, he, hb2⟩
  have HB2 : Hid (Below w'.heap.size w' w2) := HB1.out.trans (hb2.mono HB1.out.size)
  have HR2 : Hid (Reads .u8 w2 a1 zs) := HR1.out.later hb2
  clear hb2 HB1 HR1
  obtain ⟨q, hq⟩ : ∃ q, off + k = q := ⟨_, rfl⟩
  rw [hq] at hk he
  have HK : Hid (off + k = q) := hq
  have HF : Hid (SK.fin false zs off = q) := hk.symm
  have HFq : Hid (SK.fin false zs q = q) := by show _ = _; rw [hk]; exact fin_again zs off
  have hqn : q ≤ n := by have h1 := fin_le false zs off (by rw [HN.out]; omega); have h2 := HN.out; omega
  have hoq : off ≤ q := by omega
  -- the line and the column, as the law reckons them
  obtain ⟨B, hB⟩ : ∃ B, brk zs off k = B := ⟨_, rfl⟩
  have hBk : B ≤ k := by rw [← hB]; exact brk_le zs off k
  have hBq : B ≤ q := by omega
  obtain ⟨t, ht⟩ : ∃ t, lst zs off k = t := ⟨_, rfl⟩
  have htb := lst_bd zs off k
  rw [ht, hq] at htb
  have eL : lin zs off y k = wrap64 (y + (B : Int)) := by unfold lin; rw [hB]
  have HBk : Hid (brk zs off k = B) := hB
  have HTk : Hid (lst zs off k = t) := ht
  have eC : ∃ C : Int, col zs off z k = C ∧ (-9223372036854775808 ≤ C ∧ C ≤ 9223372036854775807) ∧ (t < 0 → C = wrap64 (z + ((q : Int) - (off : Int)))) ∧ (0 ≤ t → C = 1 + ((q : Int) - t - 1)) := by
    refine ⟨_, rfl, ?_, fun h => ?_, fun h => ?_⟩
    · unfold col; rw [ht]; by_cases h : t < 0
      · rw [if_pos h]; exact wrap_bd _
      · rw [if_neg h]; omega
    · unfold col; rw [ht, if_pos h]; congr 2; omega
    · unfold col; rw [ht, if_neg (by omega)]; omega
  obtain ⟨C, eC, hCb, hC1, hC2⟩ := eC
  rw [eL, eC] at he
  subst he
  have HCb : Hid (-9223372036854775808 ≤ C ∧ C ≤ 9223372036854775807) := hCb
  have HC1 : Hid (t < 0 → C = wrap64 (z + ((q : Int) - (off : Int)))) := hC1
  have HC2 : Hid (0 ≤ t → C = 1 + ((q : Int) - t - 1)) := hC2
  have htb1 : -1 ≤ t := htb.1
  have htb2 : t < (q : Int) := htb.2.1
  clear hk hq hB ht htb eL eC hCb hC1 hC2 hBk
  by_cases hlt : q < n
  · obtain ⟨b, o, ha, hbl, hc⟩ := HR2.out.at (i := q) (by have := HN.out; omega)
    subst ha
    have htok := fin_token zs q (by have := HN.out; omega) HFq.out
    obtain ⟨v, hv⟩ : ∃ v, nth zs q = v := ⟨_, rfl⟩
    rw [hv] at hc htok
    have v10 : (v == 10) = false := by simpa using htok.1
    have v32 : (v == 32) = false := by simpa using htok.2.1
    have v9 : (v == 9) = false := by simpa using htok.2.2.1
    have v13 : (v == 13) = false := by simpa using htok.2.2.2.1
    have HV : Hid (¬ (v = 47 ∧ q + 1 < zs.length ∧ nth zs (q + 1) = 47)) := htok.2.2.2.2
    clear htok hv
    by_cases v47 : v = 47
    · subst v47
      clear v10 v32 v9 v13
      by_cases hq1 : q + 1 < n
      · obtain ⟨b', o', ha', hbl', hc'⟩ := HR2.out.at (i := q + 1) (by have := HN.out; omega)
        cases ha'
        obtain ⟨u, hu⟩ : ∃ u, nth zs (q + 1) = u := ⟨_, rfl⟩
        rw [hu] at hc'
        have hu47 : (u == 47) = false := by
          rw [beq_eq_false_iff_ne]; intro h; exact HV.out ⟨rfl, by have := HN.out; omega, by rw [hu]; exact h⟩
        clear hu hbl' HV
        go_wp2_with (go_at_call 25; refine (blanks_any _ n _ zs HN off q _ hn (by omega) hqn HR2 HF).mono ?_; rintro e w3 ⟨rfl, rfl⟩)
        go_loop [13, 14, 15] (fun bv lv pv => ∃ i : Nat, off + i ≤ q ∧ pv = .int .i64 ((off + i : Nat) : Int) ∧ bv = .int .i64 ((brk zs off i : Nat) : Int) ∧ lv = .int .i64 (lst zs off i)) (fun _ _ pv => q - (intOf pv).toNat)
        case atStart => exact ⟨0, by omega, rfl, rfl, rfl⟩
        case round =>
          obtain ⟨i, hiq, rfl, rfl, rfl⟩ := hrel
          obtain ⟨P, hP⟩ : ∃ P, off + i = P := ⟨_, rfl⟩
          obtain ⟨Bi, hBi⟩ : ∃ Bi, brk zs off i = Bi := ⟨_, rfl⟩
          obtain ⟨Ti, hTi⟩ : ∃ Ti, lst zs off i = Ti := ⟨_, rfl⟩
          have hBile : Bi ≤ P := by have := brk_le zs off i; omega
          have hTb := lst_bd zs off i
          rw [hP] at hiq hTb ⊢
          rw [hBi, hTi]
          rw [hTi] at hTb
          have HP : Hid (off + i = P) := hP
          have HBi : Hid (brk zs off i = Bi) := hBi
          have HTi : Hid (lst zs off i = Ti) := hTi
          have hT1 : -1 ≤ Ti := hTb.1
          have hT2 : Ti < (P : Int) := hTb.2.1
          clear hP hBi hTi hTb
          by_cases hPq : P < q
          · obtain ⟨b', o', ha', hbl', hcP⟩ := HR2.out.at (i := P) (by have := HN.out; omega)
            first | subst ha' | cases ha'
            obtain ⟨x, hx⟩ : ∃ x, nth zs P = x := ⟨_, rfl⟩
            rw [hx] at hcP
            have HX : Hid (nth zs (off + i) = x) := by show _ = _; rw [HP.out]; exact hx
            clear hx hbl'
            by_cases x10 : x = 10
            · subst x10
              have e1 := brk_nl zs off i HX.out
              have e2 := lst_nl zs off i HX.out
              rw [HBi.out] at e1
              rw [HP.out] at e2
              have E1 : Hid (brk zs off (i + 1) = Bi + 1) := e1
              have E2 : Hid (lst zs off (i + 1) = (P : Int)) := e2
              clear e1 e2
              go_wp2
              go_round
              case rel => exact ⟨i + 1, by have := HP.out; omega, by rw [← Nat.add_assoc, HP.out]; go_num, by rw [E1.out]; go_num, by rw [E2.out]⟩
              case measure => simp [intOf]; omega
            · have xb : (x == 10) = false := by simpa using x10
              have e1 := brk_other zs off i (by rw [HX.out]; exact x10)
              have e2 := lst_other zs off i (by rw [HX.out]; exact x10)
              rw [HBi.out] at e1
              rw [HTi.out] at e2
              have E1 : Hid (brk zs off (i + 1) = Bi) := e1
              have E2 : Hid (lst zs off (i + 1) = Ti) := e2
              clear e1 e2
              go_wp2
              go_round
              case rel => exact ⟨i + 1, by have := HP.out; omega, by rw [← Nat.add_assoc, HP.out]; go_num, by rw [E1.out], by rw [E2.out]⟩
              case measure => simp [intOf]; omega
          · have hik : i = k := by have := HP.out; have := HK.out; omega
            have hPq' : P = q := by omega
            subst hik
            obtain rfl : Bi = B := HBi.out.symm.trans HBk.out
            obtain rfl : Ti = t := HTi.out.symm.trans HTk.out
            subst hPq'
            by_cases ht : Ti < 0
            · have eC := HC1.out ht
              subst eC
              go_wp2_with (go_at_call 24; refine (zz_stay _ n _ zs HN P _ _ _ hn hqn HR2 (wrap_bd _) HCb HFq.out).mono ?_; rintro e w4 ⟨rfl, hb4⟩)
              go_ret
              exact ⟨by simp, HB2.out.trans (hb4.mono HB2.out.size)⟩
            · have eC := HC2.out (by omega)
              subst eC
              go_wp2_with (go_at_call 24; refine (zz_stay _ n _ zs HN P _ _ _ hn hqn HR2 (wrap_bd _) HCb HFq.out).mono ?_; rintro e w4 ⟨rfl, hb4⟩)
              go_ret
              exact ⟨by simp, HB2.out.trans (hb4.mono HB2.out.size)⟩
      · clear HV
        go_wp2_with (go_at_call 25; refine (blanks_any _ n _ zs HN off q _ hn (by omega) hqn HR2 HF).mono ?_; rintro e w3 ⟨rfl, rfl⟩)
        go_loop [13, 14, 15] (fun bv lv pv => ∃ i : Nat, off + i ≤ q ∧ pv = .int .i64 ((off + i : Nat) : Int) ∧ bv = .int .i64 ((brk zs off i : Nat) : Int) ∧ lv = .int .i64 (lst zs off i)) (fun _ _ pv => q - (intOf pv).toNat)
        case atStart => exact ⟨0, by omega, rfl, rfl, rfl⟩
        case round =>
          obtain ⟨i, hiq, rfl, rfl, rfl⟩ := hrel
          obtain ⟨P, hP⟩ : ∃ P, off + i = P := ⟨_, rfl⟩
          obtain ⟨Bi, hBi⟩ : ∃ Bi, brk zs off i = Bi := ⟨_, rfl⟩
          obtain ⟨Ti, hTi⟩ : ∃ Ti, lst zs off i = Ti := ⟨_, rfl⟩
          have hBile : Bi ≤ P := by have := brk_le zs off i; omega
          have hTb := lst_bd zs off i
          rw [hP] at hiq hTb ⊢
          rw [hBi, hTi]
          rw [hTi] at hTb
          have HP : Hid (off + i = P) := hP
          have HBi : Hid (brk zs off i = Bi) := hBi
          have HTi : Hid (lst zs off i = Ti) := hTi
          have hT1 : -1 ≤ Ti := hTb.1
          have hT2 : Ti < (P : Int) := hTb.2.1
          clear hP hBi hTi hTb
          by_cases hPq : P < q
          · obtain ⟨b', o', ha', hbl', hcP⟩ := HR2.out.at (i := P) (by have := HN.out; omega)
            first | subst ha' | cases ha'
            obtain ⟨x, hx⟩ : ∃ x, nth zs P = x := ⟨_, rfl⟩
            rw [hx] at hcP
            have HX : Hid (nth zs (off + i) = x) := by show _ = _; rw [HP.out]; exact hx
            clear hx hbl'
            by_cases x10 : x = 10
            · subst x10
              have e1 := brk_nl zs off i HX.out
              have e2 := lst_nl zs off i HX.out
              rw [HBi.out] at e1
              rw [HP.out] at e2
              have E1 : Hid (brk zs off (i + 1) = Bi + 1) := e1
              have E2 : Hid (lst zs off (i + 1) = (P : Int)) := e2
              clear e1 e2
              go_wp2
              go_round
              case rel => exact ⟨i + 1, by have := HP.out; omega, by rw [← Nat.add_assoc, HP.out]; go_num, by rw [E1.out]; go_num, by rw [E2.out]⟩
              case measure => simp [intOf]; omega
            · have xb : (x == 10) = false := by simpa using x10
              have e1 := brk_other zs off i (by rw [HX.out]; exact x10)
              have e2 := lst_other zs off i (by rw [HX.out]; exact x10)
              rw [HBi.out] at e1
              rw [HTi.out] at e2
              have E1 : Hid (brk zs off (i + 1) = Bi) := e1
              have E2 : Hid (lst zs off (i + 1) = Ti) := e2
              clear e1 e2
              go_wp2
              go_round
              case rel => exact ⟨i + 1, by have := HP.out; omega, by rw [← Nat.add_assoc, HP.out]; go_num, by rw [E1.out], by rw [E2.out]⟩
              case measure => simp [intOf]; omega
          · have hik : i = k := by have := HP.out; have := HK.out; omega
            have hPq' : P = q := by omega
            subst hik
            obtain rfl : Bi = B := HBi.out.symm.trans HBk.out
            obtain rfl : Ti = t := HTi.out.symm.trans HTk.out
            subst hPq'
            by_cases ht : Ti < 0
            · have eC := HC1.out ht
              subst eC
              go_wp2_with (go_at_call 24; refine (zz_stay _ n _ zs HN P _ _ _ hn hqn HR2 (wrap_bd _) HCb HFq.out).mono ?_; rintro e w4 ⟨rfl, hb4⟩)
              go_ret
              exact ⟨by simp, HB2.out.trans (hb4.mono HB2.out.size)⟩
            · have eC := HC2.out (by omega)
              subst eC
              go_wp2_with (go_at_call 24; refine (zz_stay _ n _ zs HN P _ _ _ hn hqn HR2 (wrap_bd _) HCb HFq.out).mono ?_; rintro e w4 ⟨rfl, hb4⟩)
              go_ret
              exact ⟨by simp, HB2.out.trans (hb4.mono HB2.out.size)⟩
    · have vb : (v == 47) = false := by simpa using v47
      clear HV
      go_wp2_with (go_at_call 25; refine (blanks_any _ n _ zs HN off q _ hn (by omega) hqn HR2 HF).mono ?_; rintro e w3 ⟨rfl, rfl⟩)
      go_loop [13, 14, 15] (fun bv lv pv => ∃ i : Nat, off + i ≤ q ∧ pv = .int .i64 ((off + i : Nat) : Int) ∧ bv = .int .i64 ((brk zs off i : Nat) : Int) ∧ lv = .int .i64 (lst zs off i)) (fun _ _ pv => q - (intOf pv).toNat)
      case atStart => exact ⟨0, by omega, rfl, rfl, rfl⟩
      case round =>
        obtain ⟨i, hiq, rfl, rfl, rfl⟩ := hrel
        obtain ⟨P, hP⟩ : ∃ P, off + i = P := ⟨_, rfl⟩
        obtain ⟨Bi, hBi⟩ : ∃ Bi, brk zs off i = Bi := ⟨_, rfl⟩
        obtain ⟨Ti, hTi⟩ : ∃ Ti, lst zs off i = Ti := ⟨_, rfl⟩
        have hBile : Bi ≤ P := by have := brk_le zs off i; omega
        have hTb := lst_bd zs off i
        rw [hP] at hiq hTb ⊢
        rw [hBi, hTi]
        rw [hTi] at hTb
        have HP : Hid (off + i = P) := hP
        have HBi : Hid (brk zs off i = Bi) := hBi
        have HTi : Hid (lst zs off i = Ti) := hTi
        have hT1 : -1 ≤ Ti := hTb.1
        have hT2 : Ti < (P : Int) := hTb.2.1
        clear hP hBi hTi hTb
        by_cases hPq : P < q
        · obtain ⟨b', o', ha', hbl', hcP⟩ := HR2.out.at (i := P) (by have := HN.out; omega)
          first | subst ha' | cases ha'
          obtain ⟨x, hx⟩ : ∃ x, nth zs P = x := ⟨_, rfl⟩
          rw [hx] at hcP
          have HX : Hid (nth zs (off + i) = x) := by show _ = _; rw [HP.out]; exact hx
          clear hx hbl'
          by_cases x10 : x = 10
          · subst x10
            have e1 := brk_nl zs off i HX.out
            have e2 := lst_nl zs off i HX.out
            rw [HBi.out] at e1
            rw [HP.out] at e2
            have E1 : Hid (brk zs off (i + 1) = Bi + 1) := e1
            have E2 : Hid (lst zs off (i + 1) = (P : Int)) := e2
            clear e1 e2
            go_wp2
            go_round
            case rel => exact ⟨i + 1, by have := HP.out; omega, by rw [← Nat.add_assoc, HP.out]; go_num, by rw [E1.out]; go_num, by rw [E2.out]⟩
            case measure => simp [intOf]; omega
          · have xb : (x == 10) = false := by simpa using x10
            have e1 := brk_other zs off i (by rw [HX.out]; exact x10)
            have e2 := lst_other zs off i (by rw [HX.out]; exact x10)
            rw [HBi.out] at e1
            rw [HTi.out] at e2
            have E1 : Hid (brk zs off (i + 1) = Bi) := e1
            have E2 : Hid (lst zs off (i + 1) = Ti) := e2
            clear e1 e2
            go_wp2
            go_round
            case rel => exact ⟨i + 1, by have := HP.out; omega, by rw [← Nat.add_assoc, HP.out]; go_num, by rw [E1.out], by rw [E2.out]⟩
            case measure => simp [intOf]; omega
        · have hik : i = k := by have := HP.out; have := HK.out; omega
          have hPq' : P = q := by omega
          subst hik
          obtain rfl : Bi = B := HBi.out.symm.trans HBk.out
          obtain rfl : Ti = t := HTi.out.symm.trans HTk.out
          subst hPq'
          by_cases ht : Ti < 0
          · have eC := HC1.out ht
            subst eC
            go_wp2_with (go_at_call 24; refine (zz_stay _ n _ zs HN P _ _ _ hn hqn HR2 (wrap_bd _) HCb HFq.out).mono ?_; rintro e w4 ⟨rfl, hb4⟩)
            go_ret
            exact ⟨by simp, HB2.out.trans (hb4.mono HB2.out.size)⟩
          · have eC := HC2.out (by omega)
            subst eC
            go_wp2_with (go_at_call 24; refine (zz_stay _ n _ zs HN P _ _ _ hn hqn HR2 (wrap_bd _) HCb HFq.out).mono ?_; rintro e w4 ⟨rfl, hb4⟩)
            go_ret
            exact ⟨by simp, HB2.out.trans (hb4.mono HB2.out.size)⟩
  · have hq' : (n : Int) ≤ (q : Int) := by omega
    go_wp2_with (go_at_call 25; refine (blanks_any _ n _ zs HN off q _ hn (by omega) hqn HR2 HF).mono ?_; rintro e w3 ⟨rfl, rfl⟩)
    go_loop [13, 14, 15] (fun bv lv pv => ∃ i : Nat, off + i ≤ q ∧ pv = .int .i64 ((off + i : Nat) : Int) ∧ bv = .int .i64 ((brk zs off i : Nat) : Int) ∧ lv = .int .i64 (lst zs off i)) (fun _ _ pv => q - (intOf pv).toNat)
    case atStart => exact ⟨0, by omega, rfl, rfl, rfl⟩
    case round =>
      obtain ⟨i, hiq, rfl, rfl, rfl⟩ := hrel
      obtain ⟨P, hP⟩ : ∃ P, off + i = P := ⟨_, rfl⟩
      obtain ⟨Bi, hBi⟩ : ∃ Bi, brk zs off i = Bi := ⟨_, rfl⟩
      obtain ⟨Ti, hTi⟩ : ∃ Ti, lst zs off i = Ti := ⟨_, rfl⟩
      have hBile : Bi ≤ P := by have := brk_le zs off i; omega
      have hTb := lst_bd zs off i
      rw [hP] at hiq hTb ⊢
      rw [hBi, hTi]
      rw [hTi] at hTb
      have HP : Hid (off + i = P) := hP
      have HBi : Hid (brk zs off i = Bi) := hBi
      have HTi : Hid (lst zs off i = Ti) := hTi
      have hT1 : -1 ≤ Ti := hTb.1
      have hT2 : Ti < (P : Int) := hTb.2.1
      clear hP hBi hTi hTb
      by_cases hPq : P < q
      · obtain ⟨b', o', ha', hbl', hcP⟩ := HR2.out.at (i := P) (by have := HN.out; omega)
        first | subst ha' | cases ha'
        obtain ⟨x, hx⟩ : ∃ x, nth zs P = x := ⟨_, rfl⟩
        rw [hx] at hcP
        have HX : Hid (nth zs (off + i) = x) := by show _ = _; rw [HP.out]; exact hx
        clear hx hbl'
        by_cases x10 : x = 10
        · subst x10
          have e1 := brk_nl zs off i HX.out
          have e2 := lst_nl zs off i HX.out
          rw [HBi.out] at e1
          rw [HP.out] at e2
          have E1 : Hid (brk zs off (i + 1) = Bi + 1) := e1
          have E2 : Hid (lst zs off (i + 1) = (P : Int)) := e2
          clear e1 e2
          go_wp2
          go_round
          case rel => exact ⟨i + 1, by have := HP.out; omega, by rw [← Nat.add_assoc, HP.out]; go_num, by rw [E1.out]; go_num, by rw [E2.out]⟩
          case measure => simp [intOf]; omega
        · have xb : (x == 10) = false := by simpa using x10
          have e1 := brk_other zs off i (by rw [HX.out]; exact x10)
          have e2 := lst_other zs off i (by rw [HX.out]; exact x10)
          rw [HBi.out] at e1
          rw [HTi.out] at e2
          have E1 : Hid (brk zs off (i + 1) = Bi) := e1
          have E2 : Hid (lst zs off (i + 1) = Ti) := e2
          clear e1 e2
          go_wp2
          go_round
          case rel => exact ⟨i + 1, by have := HP.out; omega, by rw [← Nat.add_assoc, HP.out]; go_num, by rw [E1.out], by rw [E2.out]⟩
          case measure => simp [intOf]; omega
      · have hik : i = k := by have := HP.out; have := HK.out; omega
        have hPq' : P = q := by omega
        subst hik
        obtain rfl : Bi = B := HBi.out.symm.trans HBk.out
        obtain rfl : Ti = t := HTi.out.symm.trans HTk.out
        subst hPq'
        by_cases ht : Ti < 0
        · have eC := HC1.out ht
          subst eC
          go_wp2_with (go_at_call 24; refine (zz_stay _ n _ zs HN P _ _ _ hn hqn HR2 (wrap_bd _) HCb HFq.out).mono ?_; rintro e w4 ⟨rfl, hb4⟩)
          go_ret
          exact ⟨by simp, HB2.out.trans (hb4.mono HB2.out.size)⟩
        · have eC := HC2.out (by omega)
          subst eC
          go_wp2_with (go_at_call 24; refine (zz_stay _ n _ zs HN P _ _ _ hn hqn HR2 (wrap_bd _) HCb HFq.out).mono ?_; rintro e w4 ⟨rfl, hb4⟩)
          go_ret
          exact ⟨by simp, HB2.out.trans (hb4.mono HB2.out.size)⟩
end Go.Proofs.Qxb6605209a.SK
