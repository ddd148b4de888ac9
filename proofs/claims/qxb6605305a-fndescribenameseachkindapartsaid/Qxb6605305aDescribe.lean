/-
  The walk of FnDescribeNamesEachKindApart.
-/
import Derived.Test.Qxb6605305aName
import Derived.Deep.QuietTactic
import Derived.BigQuiet
namespace Go.Proofs.Qxb6605305a.DS
open Go.ChangeShapes Go.WideShapes Go.ChangeAt Go.RowKit
open Go.Proofs.Qxb6605305a.NM
set_option linter.unusedVariables false

def d0 : ByteArray := ⟨#[110, 117, 108, 108]⟩
def d1 : ByteArray := ⟨#[97, 32, 98, 111, 111, 108, 101, 97, 110]⟩
def d2 : ByteArray := ⟨#[97, 32, 110, 117, 109, 98, 101, 114]⟩
def d3 : ByteArray := ⟨#[97, 32, 115, 116, 114, 105, 110, 103]⟩
def d4 : ByteArray := ⟨#[97, 110, 32, 97, 114, 114, 97, 121]⟩
def d5 : ByteArray := ⟨#[97, 110, 32, 111, 98, 106, 101, 99, 116]⟩

/-- What describe answers. -/
def dsc (k : Int) : ByteArray := if k = 0 then d0 else if k = 1 then d1 else if k = 2 then d2 else if k = 3 then d3 else if k = 4 then d4 else d5

theorem ret_str {a b : ByteArray} (h : a = b) : Ending.returned (.string a) = .returned (.string b) := by rw [h]

set_option maxHeartbeats 400000 in
theorem describe27 (k : Int) (w : World) : Calls Try.prog 27 #[.int .i64 k] w fun e w' => e = .returned (.string (dsc k)) ∧ w' = w := by
  by_cases k0 : k = 0
  · subst k0
    go_enter Try.func27, Try.ntmps27
    go_wp2
    go_ret
    exact ⟨rfl, rfl⟩
  by_cases k1 : k = 1
  · subst k1
    go_enter Try.func27, Try.ntmps27
    go_wp2
    go_ret
    exact ⟨rfl, rfl⟩
  by_cases k2 : k = 2
  · subst k2
    go_enter Try.func27, Try.ntmps27
    go_wp2
    go_ret
    exact ⟨rfl, rfl⟩
  by_cases k3 : k = 3
  · subst k3
    go_enter Try.func27, Try.ntmps27
    go_wp2
    go_ret
    exact ⟨rfl, rfl⟩
  by_cases k4 : k = 4
  · subst k4
    go_enter Try.func27, Try.ntmps27
    go_wp2
    go_ret
    exact ⟨rfl, rfl⟩
  have t0 : (k == 0) = false := by simpa using k0
  have t1 : (k == 1) = false := by simpa using k1
  have t2 : (k == 2) = false := by simpa using k2
  have t3 : (k == 3) = false := by simpa using k3
  have t4 : (k == 4) = false := by simpa using k4
  have HD : Hid (d5 = dsc k) := by show _ = _; unfold dsc; rw [if_neg k0, if_neg k1, if_neg k2, if_neg k3, if_neg k4]
  clear k0 k1 k2 k3 k4
  go_enter Try.func27, Try.ntmps27
  go_wp2
  go_ret
  exact ⟨ret_str HD.out, rfl⟩

set_option maxHeartbeats 400000 in
theorem describe21 (k : Int) (w : World) (d : ByteArray) (h : dsc k = d) : Calls Try.prog 21 #[.int .i64 k] w fun e w' => e = .returned (.string d) ∧ w' = w := by
  have HD : Hid (dsc k = d) := h
  clear h
  go_enter Try.func21, Try.ntmps21
  go_wp2_with (go_at_call 27; refine (describe27 k _).mono ?_; rw [HD.out]; rintro e w' ⟨rfl, rfl⟩)
  go_ret
  exact ⟨rfl, rfl⟩

/-- The vowels. -/
def vow (x : Int) : Bool := x == 97 || x == 101 || x == 105 || x == 111 || x == 117

set_option maxHeartbeats 400000 in
theorem vowel_any (x : Int) (w : World) : Calls Try.prog 30 #[.int .u8 x] w fun e w' => e = .returned (.bool (vow x)) ∧ w' = w := by
  go_enter Try.func30, Try.ntmps30
  go_wp2
  all_goals
    go_ret
    refine ⟨ret_bool ?_, rfl⟩
    simp_all [vow]

/-- s has the prefix p. -/
def hp (s p : ByteArray) : Bool := decide (p.size ≤ s.size ∧ ∀ j, j < p.size → byt s j = byt p j)
/-- s from f on is a lower-case word. -/
def low (s : ByteArray) (f : Nat) : Bool := decide (f < s.size ∧ ∀ j, j < s.size → f ≤ j → 97 ≤ byt s j ∧ byt s j ≤ 122)

theorem hp_bad {s p : ByteArray} {k : Nat} (h : k < p.size) (hb : byt s k ≠ byt p k) : hp s p = false := by
  unfold hp; exact decide_eq_false (by rintro ⟨_, g⟩; exact hb (g k h))

set_option maxHeartbeats 400000 in
theorem hasPrefix_any (s p : ByteArray) (w : World) (hs : s.size ≤ 1048576) (hq : p.size ≤ 1048576) :
    Calls Try.prog 28 #[.string s, .string p] w fun e w' => e = .returned (.bool (hp s p)) ∧ ∃ m, w' = w.drewN m := by
  by_cases hl : p.size ≤ s.size
  · go_enter Try.func28, Try.ntmps28
    go_wp2
    go_loopw [5] (fun i wr => ∃ k : Nat, i = .int .i64 k ∧ k ≤ p.size ∧ (∀ j, j < k → byt s j = byt p j) ∧ ∃ m, wr = w.drewN m) (fun i _ => p.size - (intOf i).toNat)
    case atStart => exact ⟨0, rfl, Nat.zero_le _, fun j hj => absurd hj (by omega), 0, rfl⟩
    case round =>
      obtain ⟨k, rfl, hk, hall, m, rfl⟩ := hrel
      have HA : Hid (∀ j, j < k → byt s j = byt p j) := hall
      clear hall
      by_cases hlt : k < p.size
      · have hlt2 : k < s.size := by omega
        have hx := byt_at s k hlt2
        have hy := byt_at p k hlt
        obtain ⟨x, hxx⟩ : ∃ x, byt s k = x := ⟨_, rfl⟩
        obtain ⟨y, hyy⟩ : ∃ y, byt p k = y := ⟨_, rfl⟩
        rw [hxx] at hx
        rw [hyy] at hy
        have HX : Hid (byt s k = x) := hxx
        have HY : Hid (byt p k = y) := hyy
        have i1 : (k : Int) < (s.size : Int) := by omega
        have i2 : (k : Int) < (p.size : Int) := by omega
        clear hxx hyy
        by_cases hxy : x = y
        · subst hxy
          have HS : Hid (∀ j, j < k + 1 → byt s j = byt p j) := by
            intro j hj
            by_cases e : j = k
            · rw [e, HX.out, HY.out]
            · exact HA.out j (by omega)
          go_wp2
          go_quiet (fail)
          go_wp2
          go_roundw
          case rel => exact ⟨k + 1, by go_num, by omega, HS.out, _, rfl⟩
          case measure => simp [intOf]; omega
        · have hne : (x != y) = true := by simpa using hxy
          have HB : Hid (hp s p = false) := hp_bad hlt (by rw [HX.out, HY.out]; exact hxy)
          go_wp2
          go_quiet (fail)
          go_wp2
          go_ret
          exact ⟨ret_bool HB.out.symm, _, World.drewN_drewN ..⟩
      · have HB : Hid (hp s p = true) := by
          show _ = _
          unfold hp
          have e : k = p.size := by omega
          exact decide_eq_true ⟨hl, by rw [← e]; exact HA.out⟩
        go_wp2
        go_ret
        exact ⟨ret_bool HB.out.symm, _, rfl⟩
  · have HB : Hid (hp s p = false) := by
      show _ = _
      unfold hp
      exact decide_eq_false (by rintro ⟨g, _⟩; exact hl g)
    go_enter Try.func28, Try.ntmps28
    go_wp2
    go_ret
    exact ⟨ret_bool HB.out.symm, 0, rfl⟩

set_option maxHeartbeats 400000 in
theorem lower_any (s : ByteArray) (f : Nat) (w : World) (hs : s.size ≤ 1048576) (hf : f < s.size) :
    Calls Try.prog 29 #[.string s, .int .i64 f] w fun e w' => e = .returned (.bool (low s f)) ∧ w' = w := by
  go_enter Try.func29, Try.ntmps29
  go_wp2
  go_loop [5] (fun i => ∃ k : Nat, i = .int .i64 k ∧ f ≤ k ∧ k ≤ s.size ∧ ∀ j, j < k → f ≤ j → 97 ≤ byt s j ∧ byt s j ≤ 122) (fun i => s.size - (intOf i).toNat)
  case atStart => exact ⟨f, rfl, Nat.le_refl _, by omega, fun j hj hj' => absurd hj (by omega)⟩
  case round =>
    obtain ⟨k, rfl, hfk, hk, hall⟩ := hrel
    have HA : Hid (∀ j, j < k → f ≤ j → 97 ≤ byt s j ∧ byt s j ≤ 122) := hall
    clear hall
    by_cases hlt : k < s.size
    · have hx := byt_at s k hlt
      obtain ⟨x, hxx⟩ : ∃ x, byt s k = x := ⟨_, rfl⟩
      rw [hxx] at hx
      have HX : Hid (byt s k = x) := hxx
      clear hxx
      by_cases hok : 97 ≤ x ∧ x ≤ 122
      · have HS : Hid (∀ j, j < k + 1 → f ≤ j → 97 ≤ byt s j ∧ byt s j ≤ 122) := by
          intro j hj hj'
          by_cases e : j = k
          · rw [e, HX.out]; exact hok
          · exact HA.out j (by omega) hj'
        have t1 : decide (x < 97) = false := decide_eq_false (by omega)
        have t2 : decide (122 < x) = false := decide_eq_false (by omega)
        clear hok
        go_wp2
        go_round
        case rel => exact ⟨k + 1, by go_num, by omega, by omega, HS.out⟩
        case measure => simp [intOf]; omega
      · have HB : Hid (low s f = false) := by
          show _ = _
          unfold low
          exact decide_eq_false (by rintro ⟨_, g⟩; have := g k hlt hfk; rw [HX.out] at this; exact hok this)
        by_cases h97 : x < 97
        · have t1 : decide (x < 97) = true := decide_eq_true h97
          clear hok
          go_wp2
          go_ret
          exact ⟨ret_bool HB.out.symm, rfl⟩
        · have t1 : decide (x < 97) = false := decide_eq_false h97
          have t2 : decide (122 < x) = true := decide_eq_true (by omega)
          clear hok
          go_wp2
          go_ret
          exact ⟨ret_bool HB.out.symm, rfl⟩
    · have HB : Hid (low s f = true) := by
        show _ = _
        unfold low
        have e : k = s.size := by omega
        exact decide_eq_true ⟨hf, by rw [← e]; exact HA.out⟩
      go_wp2
      go_ret
      exact ⟨ret_bool HB.out.symm, rfl⟩

/-- The two articles, each with a blank behind it. -/
def pAn : ByteArray := ⟨#[97, 110, 32]⟩
def pA : ByteArray := ⟨#[97, 32]⟩

set_option maxHeartbeats 400000 in
theorem wf_null (d : ByteArray) (w : World) (h1 : (d.toList == [110, 117, 108, 108]) = true) : Calls Try.prog 22 #[.string d] w fun e w' => e = .returned (.bool true) ∧ ∃ m, w' = w.drewN m := by
  go_enter Try.func22, Try.ntmps22
  go_wp2_with fail
  go_ret
  exact ⟨rfl, 0, rfl⟩

set_option maxHeartbeats 400000 in
theorem wf_an (d : ByteArray) (w : World) (h1 : (d.toList == [110, 117, 108, 108]) = false) (H2 : Hid (hp d pAn = true)) (H3 : Hid (low d 3 = true)) (H4 : Hid (vow (byt d 3) = true)) (hs : 3 < d.size) (hm : d.size ≤ 1048576) :
    Calls Try.prog 22 #[.string d] w fun e w' => e = .returned (.bool true) ∧ ∃ m, w' = w.drewN m := by
  have hx := byt_at d 3 hs
  obtain ⟨x, hxx⟩ : ∃ x, byt d 3 = x := ⟨_, rfl⟩
  rw [hxx] at hx
  have HV : Hid (vow x = true) := by show _ = _; rw [← hxx]; exact H4.out
  clear hxx
  have i1 : (3 : Int) < (d.size : Int) := by omega
  go_enter Try.func22, Try.ntmps22
  go_wp2_with fail
  refine (hasPrefix_any d pAn _ hm (by decide)).mono ?_
  rw [H2.out]
  rintro e w1 ⟨rfl, m, rfl⟩
  go_wp2_with fail
  refine (lower_any d 3 _ hm hs).mono ?_
  rw [H3.out]
  rintro e w1 ⟨rfl, rfl⟩
  go_wp2_with fail
  refine (vowel_any x _).mono ?_
  rw [HV.out]
  rintro e w1 ⟨rfl, rfl⟩
  go_wp2
  go_ret
  exact ⟨rfl, m, rfl⟩

set_option maxHeartbeats 400000 in
theorem wf_a (d : ByteArray) (w : World) (h1 : (d.toList == [110, 117, 108, 108]) = false) (H2 : Hid (hp d pAn = false)) (H3 : Hid (hp d pA = true)) (H4 : Hid (low d 2 = true)) (H5 : Hid (vow (byt d 2) = false)) (hs : 2 < d.size) (hm : d.size ≤ 1048576) :
    Calls Try.prog 22 #[.string d] w fun e w' => e = .returned (.bool true) ∧ ∃ m, w' = w.drewN m := by
  have hx := byt_at d 2 hs
  obtain ⟨x, hxx⟩ : ∃ x, byt d 2 = x := ⟨_, rfl⟩
  rw [hxx] at hx
  have HV : Hid (vow x = false) := by show _ = _; rw [← hxx]; exact H5.out
  clear hxx
  have i1 : (2 : Int) < (d.size : Int) := by omega
  go_enter Try.func22, Try.ntmps22
  go_wp2_with fail
  refine (hasPrefix_any d pAn _ hm (by decide)).mono ?_
  rw [H2.out]
  rintro e w1 ⟨rfl, m, rfl⟩
  go_wp2_with fail
  refine (hasPrefix_any d pA _ hm (by decide)).mono ?_
  rw [H3.out]
  rintro e w1 ⟨rfl, m', rfl⟩
  go_wp2_with fail
  refine (lower_any d 2 _ hm hs).mono ?_
  rw [H4.out]
  rintro e w1 ⟨rfl, rfl⟩
  go_wp2_with fail
  refine (vowel_any x _).mono ?_
  rw [HV.out]
  rintro e w1 ⟨rfl, rfl⟩
  go_wp2
  go_ret
  exact ⟨rfl, _, by first | rfl | exact World.drewN_drewN ..⟩

theorem wf_all (k : Int) (w : World) : Calls Try.prog 22 #[.string (dsc k)] w fun e w' => e = .returned (.bool true) ∧ ∃ m, w' = w.drewN m := by
  unfold dsc
  split
  · exact wf_null d0 w (by rw [ByteArray.toList_eq]; rfl)
  split
  · exact wf_a d1 w (by rw [ByteArray.toList_eq]; rfl) (by show _ = _; decide +kernel) (by show _ = _; decide +kernel) (by show _ = _; decide +kernel) (by show _ = _; decide +kernel) (by decide) (by decide)
  split
  · exact wf_a d2 w (by rw [ByteArray.toList_eq]; rfl) (by show _ = _; decide +kernel) (by show _ = _; decide +kernel) (by show _ = _; decide +kernel) (by show _ = _; decide +kernel) (by decide) (by decide)
  split
  · exact wf_a d3 w (by rw [ByteArray.toList_eq]; rfl) (by show _ = _; decide +kernel) (by show _ = _; decide +kernel) (by show _ = _; decide +kernel) (by show _ = _; decide +kernel) (by decide) (by decide)
  split
  · exact wf_an d4 w (by rw [ByteArray.toList_eq]; rfl) (by show _ = _; decide +kernel) (by show _ = _; decide +kernel) (by show _ = _; decide +kernel) (by decide) (by decide)
  · exact wf_an d5 w (by rw [ByteArray.toList_eq]; rfl) (by show _ = _; decide +kernel) (by show _ = _; decide +kernel) (by show _ = _; decide +kernel) (by decide) (by decide)

/-- The descriptions of two kinds are one only where the kinds are one (5 stands for all that is outside). -/
def kd (k : Int) : Int := if 0 ≤ k ∧ k ≤ 4 then k else 5

theorem dsc_apart : ∀ i j : Fin 6, ((dsc (i.val : Int)).toList == (dsc (j.val : Int)).toList) = decide (i.val = j.val) := by
  intro i j
  rw [ByteArray.toList_eq, ByteArray.toList_eq]
  revert i j
  decide +kernel

theorem dsc_out (k : Int) (h : k < 0 ∨ 5 < k) : dsc k = dsc 5 := by
  unfold dsc
  rw [if_neg (by omega), if_neg (by omega), if_neg (by omega), if_neg (by omega), if_neg (by omega)]
  rfl

theorem dsc_same (i j : Int) (hi : 0 ≤ i ∧ i ≤ 5) (hj : 0 ≤ j ∧ j ≤ 5) : ((dsc i).toList == (dsc j).toList) = decide (i = j) := by
  have h := dsc_apart ⟨i.toNat, by omega⟩ ⟨j.toNat, by omega⟩
  have e1 : ((i.toNat : Nat) : Int) = i := by omega
  have e2 : ((j.toNat : Nat) : Int) = j := by omega
  simp only [e1, e2] at h
  rw [h]
  exact decide_eq_decide.2 (by omega)

theorem dsc_null (k : Int) : ((dsc k).toList == [110, 117, 108, 108]) = (k == 0) := by
  have e : (dsc 0).toList = [110, 117, 108, 108] := by rw [ByteArray.toList_eq]; rfl
  rw [← e]
  by_cases h : 0 ≤ k ∧ k ≤ 5
  · rw [dsc_same k 0 h (by omega), Bool.eq_iff_iff]; simp
  · rw [dsc_out k (by omega), dsc_same 5 0 (by omega) (by omega)]
    have : (k == 0) = false := by rw [beq_eq_false_iff_ne]; omega
    rw [this]; rfl

theorem grown_drewN (w : World) (m : Nat) : Grown w (w.drewN m) := by
  have h : Grown w w := Grown.refl w
  exact h

set_option maxHeartbeats 1000000 in
theorem law5 (k : Int) (w : World) : Calls Try.prog 5 #[.int .i64 k] w fun e w' => e = .returned (.bool true) ∧ ∃ m, w' = w.drewN m := by
  obtain ⟨d, hd⟩ : ∃ d, dsc k = d := ⟨_, rfl⟩
  have HW : Hid (∀ w, Calls Try.prog 22 #[.string d] w fun e w' => e = .returned (.bool true) ∧ ∃ m, w' = w.drewN m) := by
    intro w; rw [← hd]; exact wf_all k w
  have HD : Hid (dsc k = d) := hd
  have hn := dsc_null k
  rw [hd] at hn
  clear hd
  by_cases hk : 0 ≤ k ∧ k ≤ 5
  · obtain ⟨g1, g2⟩ := hk
    have HA : Hid (∀ j : Nat, j ≤ 5 → ((dsc (j : Int)).toList == d.toList) = decide ((j : Int) = k)) := by
      intro j hj
      have := dsc_same (j : Int) k (by omega) ⟨g1, g2⟩
      rw [HD.out] at this
      exact this
    have t1 : decide (k < 0) = false := decide_eq_false (by omega)
    have t2 : decide (5 < k) = false := decide_eq_false (by omega)
    cases b0 : (k == 0) with
    | true =>
      rw [b0] at hn
      go_enter Try.func5, Try.ntmps5
      go_wp2_with fail
      refine (describe21 k _ d HD.out).mono ?_
      rintro e w' ⟨rfl, rfl⟩
      go_wp2_with fail
      refine (HW.out _).mono ?_
      rintro e w' ⟨rfl, m, rfl⟩
      go_wp2_with fail
      go_loop [4] (fun i => ∃ j : Nat, i = .int .i64 j ∧ j ≤ 6) (fun i => 6 - (intOf i).toNat)
      case atStart => exact ⟨0, rfl, by omega⟩
      case round =>
        obtain ⟨j, rfl, hj⟩ := hrel
        by_cases hj5 : j ≤ 5
        · have ha := HA.out j hj5
          by_cases hjk : (j : Int) = k
          · have c1 : ((j : Int) != k) = false := by simpa using hjk
            clear hjk ha
            go_wp2_with (fail)
            go_round
            case rel => exact ⟨j + 1, by go_num, by omega⟩
            case measure => simp [intOf]; omega
          · have c1 : ((j : Int) != k) = true := by simpa using hjk
            rw [decide_eq_false hjk] at ha
            obtain ⟨d', hd'⟩ : ∃ d', dsc (j : Int) = d' := ⟨_, rfl⟩
            rw [hd'] at ha
            have HD' : Hid (dsc (j : Int) = d') := hd'
            clear hd' hjk
            go_wp2_with (go_at_call 21; refine (describe21 (j : Int) _ d' HD'.out).mono ?_; rintro e w'' ⟨rfl, rfl⟩)
            go_round
            case rel => exact ⟨j + 1, by go_num, by omega⟩
            case measure => simp [intOf]; omega
        · go_wp2_with (fail)
          go_ret
          exact ⟨rfl, m, rfl⟩
    | false =>
      rw [b0] at hn
      go_enter Try.func5, Try.ntmps5
      go_wp2_with fail
      refine (describe21 k _ d HD.out).mono ?_
      rintro e w' ⟨rfl, rfl⟩
      go_wp2_with fail
      refine (HW.out _).mono ?_
      rintro e w' ⟨rfl, m, rfl⟩
      go_wp2_with fail
      go_loop [4] (fun i => ∃ j : Nat, i = .int .i64 j ∧ j ≤ 6) (fun i => 6 - (intOf i).toNat)
      case atStart => exact ⟨0, rfl, by omega⟩
      case round =>
        obtain ⟨j, rfl, hj⟩ := hrel
        by_cases hj5 : j ≤ 5
        · have ha := HA.out j hj5
          by_cases hjk : (j : Int) = k
          · have c1 : ((j : Int) != k) = false := by simpa using hjk
            clear hjk ha
            go_wp2_with (fail)
            go_round
            case rel => exact ⟨j + 1, by go_num, by omega⟩
            case measure => simp [intOf]; omega
          · have c1 : ((j : Int) != k) = true := by simpa using hjk
            rw [decide_eq_false hjk] at ha
            obtain ⟨d', hd'⟩ : ∃ d', dsc (j : Int) = d' := ⟨_, rfl⟩
            rw [hd'] at ha
            have HD' : Hid (dsc (j : Int) = d') := hd'
            clear hd' hjk
            go_wp2_with (go_at_call 21; refine (describe21 (j : Int) _ d' HD'.out).mono ?_; rintro e w'' ⟨rfl, rfl⟩)
            go_round
            case rel => exact ⟨j + 1, by go_num, by omega⟩
            case measure => simp [intOf]; omega
        · go_wp2_with (fail)
          go_ret
          exact ⟨rfl, m, rfl⟩
  · have b0 : (k == 0) = false := by rw [beq_eq_false_iff_ne]; omega
    rw [b0] at hn
    have H5 : Hid (dsc 5 = d) := by show _ = _; rw [← HD.out]; exact (dsc_out k (by omega)).symm
    have hk' : k < 0 ∨ 5 < k := by omega
    clear hk
    rcases hk' with hk | hk
    · have t1 : decide (k < 0) = true := decide_eq_true hk
      go_enter Try.func5, Try.ntmps5
      go_wp2_with fail
      refine (describe21 k _ d HD.out).mono ?_
      rintro e w' ⟨rfl, rfl⟩
      go_wp2_with fail
      refine (HW.out _).mono ?_
      rintro e w' ⟨rfl, m, rfl⟩
      go_wp2_with fail
      refine (describe21 5 _ d H5.out).mono ?_
      rintro e w' ⟨rfl, rfl⟩
      go_wp2_with fail
      go_ret
      exact ⟨by simp, m, rfl⟩
    · have t1 : decide (k < 0) = false := decide_eq_false (by omega)
      have t2 : decide (5 < k) = true := decide_eq_true hk
      go_enter Try.func5, Try.ntmps5
      go_wp2_with fail
      refine (describe21 k _ d HD.out).mono ?_
      rintro e w' ⟨rfl, rfl⟩
      go_wp2_with fail
      refine (HW.out _).mono ?_
      rintro e w' ⟨rfl, m, rfl⟩
      go_wp2_with fail
      refine (describe21 5 _ d H5.out).mono ?_
      rintro e w' ⟨rfl, rfl⟩
      go_wp2_with fail
      go_ret
      exact ⟨by simp, m, rfl⟩
end Go.Proofs.Qxb6605305a.DS
