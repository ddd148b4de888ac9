/-
  The contracts of isName and of the law's count model.
-/
import Derived.Test.Qxb6605305aRows
import Derived.WalkKit
import Derived.WalkSpells
import Derived.WalkLawsBesides
import Derived.ProofKit
import Derived.Below
namespace Go.Proofs.Qxb6605305a.NM
open Go.ChangeShapes Go.WideShapes Go.ChangeAt Go.RowKit
set_option linter.unusedVariables false

/-- Byte k of a string, as a number. -/
def byt (s : ByteArray) (k : Nat) : Int := if h : k < s.size then ((s[k]'h).toNat : Int) else 0
theorem byt_at (s : ByteArray) (k : Nat) (h : k < s.size) : ((s[k]'h).toNat : Int) = byt s k := by unfold byt; rw [dif_pos h]
theorem byt_bd (s : ByteArray) (k : Nat) : 0 ≤ byt s k ∧ byt s k ≤ 255 := by
  unfold byt; split
  · rename_i h; have := UInt8.toNat_lt (s[k]'h); omega
  · omega

/-- Letters, digits, the underscore. -/
def nameB (x : Int) : Bool := decide (65 ≤ x ∧ x ≤ 90) || decide (97 ≤ x ∧ x ≤ 122) || decide (48 ≤ x ∧ x ≤ 57) || decide (x = 95)
def digB (x : Int) : Bool := decide (48 ≤ x ∧ x ≤ 57)

theorem ret_bool {a b : Bool} (h : a = b) : Ending.returned (.bool a) = .returned (.bool b) := by rw [h]

theorem fold_all : ∀ n : Fin 256, decide (97 ≤ bits BinOp.or IntKind.u8 (n.val : Int) 32 ∧ bits BinOp.or IntKind.u8 (n.val : Int) 32 ≤ 122) = decide ((65 ≤ (n.val : Int) ∧ (n.val : Int) ≤ 90) ∨ (97 ≤ (n.val : Int) ∧ (n.val : Int) ≤ 122)) := by decide +kernel

theorem fold_bit (x : Int) (h0 : 0 ≤ x) (h1 : x ≤ 255) : (97 ≤ bits BinOp.or IntKind.u8 x 32 ∧ bits BinOp.or IntKind.u8 x 32 ≤ 122) ↔ ((65 ≤ x ∧ x ≤ 90) ∨ (97 ≤ x ∧ x ≤ 122)) := by
  have h := fold_all ⟨x.toNat, by omega⟩
  have e : ((x.toNat : Nat) : Int) = x := by omega
  simp only [e] at h
  exact decide_eq_decide.1 h

set_option maxHeartbeats 400000 in
theorem nameByte_any (x : Int) (w : World) (h0 : 0 ≤ x) (h1 : x ≤ 255) :
    Calls Try.prog 24 #[.int .u8 x] w fun e w' => e = .returned (.bool (nameB x)) ∧ w' = w := by
  have HF : Hid _ := fold_bit x h0 h1
  go_enter Try.func24, Try.ntmps24
  go_wp2
  all_goals
    go_ret
    refine ⟨ret_bool ?_, rfl⟩
    have hf := HF.out
    rw [Bool.eq_iff_iff]
    simp [nameB]
    omega

set_option maxHeartbeats 400000 in
theorem bytes23 (s : ByteArray) (w : World) (h : s.size ≤ maxLen) :
    Calls Try.prog 23 #[.string s] w fun e w' => e = .returned (.bool (decide (s.size ≤ 1048576))) ∧ w' = w := by
  unfold maxLen at h
  by_cases h1 : s.size ≤ 1048576
  all_goals
    go_enter Try.func23, Try.ntmps23
    go_wp2
    go_ret
    exact ⟨by simp [h1], rfl⟩

/-- Byte j of a name: no digit at the head. -/
def okB (j : Nat) (x : Int) : Bool := nameB x && !(decide (j = 0) && digB x)

theorem notEmpty (s : ByteArray) : (!s.toList.isEmpty) = decide (0 < s.size) := by
  have hl : s.data.toList.length = s.size := by simp
  rw [ByteArray.toList_eq]
  obtain ⟨l, hd⟩ : ∃ l, s.data.toList = l := ⟨_, rfl⟩
  rw [hd] at hl ⊢
  rw [← hl]
  cases l <;> simp

/-- What isName answers. -/
def isN (s : ByteArray) : Bool := decide (0 < s.size ∧ ∀ j, j < s.size → okB j (byt s j) = true)

theorem isN_bad {s : ByteArray} {k : Nat} (h : k < s.size) (hb : okB k (byt s k) = false) : isN s = false := by
  unfold isN
  rw [decide_eq_false_iff_not]
  rintro ⟨_, h2⟩
  rw [h2 k h] at hb; cases hb

theorem isN_all {s : ByteArray} (h : ∀ j, j < s.size → okB j (byt s j) = true) : isN s = decide (0 < s.size) := by
  unfold isN
  exact decide_eq_decide.2 ⟨fun g => g.1, fun g => ⟨g, h⟩⟩

theorem okB_cases (k : Nat) (x : Int) (h0 : 0 ≤ x) (h1 : x ≤ 255) :
    (okB k x = true ∧ ((95 ≤ x ∧ x ≤ 95) ∨ (97 ≤ x ∧ x ≤ 122) ∨ (65 ≤ x ∧ x ≤ 90) ∨ (48 ≤ x ∧ x ≤ 57 ∧ 0 < k))) ∨
    (okB k x = false ∧ ((x < 48 ∧ k = 0) ∨ (57 < x ∧ x < 65 ∧ k = 0) ∨ (90 < x ∧ x < 95 ∧ k = 0) ∨ (96 ≤ x ∧ x ≤ 96 ∧ k = 0) ∨ (122 < x ∧ k = 0) ∨
      (x < 48 ∧ 0 < k) ∨ (57 < x ∧ x < 65 ∧ 0 < k) ∨ (90 < x ∧ x < 95 ∧ 0 < k) ∨ (96 ≤ x ∧ x ≤ 96 ∧ 0 < k) ∨ (122 < x ∧ 0 < k) ∨ (48 ≤ x ∧ x ≤ 57 ∧ k = 0))) := by
  cases h : okB k x
  · right; refine ⟨rfl, ?_⟩
    have h' : ¬ (okB k x = true) := by rw [h]; exact Bool.false_ne_true
    simp [okB, nameB, digB] at h'
    omega
  · left; refine ⟨rfl, ?_⟩
    simp [okB, nameB, digB] at h
    omega

set_option maxHeartbeats 1000000 in
theorem isName_any (s : ByteArray) (w : World) (h : s.size ≤ 1048576) :
    Calls Try.prog 31 #[.string s] w fun e w' => e = .returned (.bool (isN s)) ∧ w' = w := by
  go_enter Try.func31, Try.ntmps31
  go_wp2
  go_loop [3] (fun v => ∃ k : Nat, v = .int .i64 k ∧ k ≤ s.size ∧ ∀ j, j < k → okB j (byt s j) = true) (fun v => s.size - (intOf v).toNat)
  case atStart => exact ⟨0, rfl, Nat.zero_le _, fun j hj => absurd hj (by omega)⟩
  case round =>
    obtain ⟨k, rfl, hk, hall⟩ := hrel
    have HA : Hid (∀ j, j < k → okB j (byt s j) = true) := hall
    clear hall
    by_cases hlt : k < s.size
    · have hx := byt_at s k hlt
      have hb := byt_bd s k
      obtain ⟨x, hxx⟩ : ∃ x, byt s k = x := ⟨_, rfl⟩
      rw [hxx] at hx hb
      have HX : Hid (byt s k = x) := hxx
      obtain ⟨hb0, hb1⟩ := hb
      clear hxx
      rcases okB_cases k x hb0 hb1 with ⟨hok, hc⟩ | ⟨hok, hc⟩
      · have HS : Hid (∀ j, j < k + 1 → okB j (byt s j) = true) := by
          intro j hj
          by_cases e : j = k
          · rw [e, HX.out]; exact hok
          · exact HA.out j (by omega)
        clear hok
        rcases hc with hc | hc | hc | ⟨hc1, hc2, hk0⟩
        rotate_left 3
        · have b0 : ((k : Int) == 0) = false := by rw [beq_eq_false_iff_ne]; omega
          first | (have b1 : (x != 95) = true := by simp; omega) | (have b1 : (x != 95) = false := by simp; omega)
          first | (have b2 : decide (x < 97) = true := decide_eq_true (by omega)) | (have b2 : decide (x < 97) = false := decide_eq_false (by omega))
          first | (have b3 : decide (122 < x) = true := decide_eq_true (by omega)) | (have b3 : decide (122 < x) = false := decide_eq_false (by omega))
          first | (have b4 : decide (x < 65) = true := decide_eq_true (by omega)) | (have b4 : decide (x < 65) = false := decide_eq_false (by omega))
          first | (have b5 : decide (90 < x) = true := decide_eq_true (by omega)) | (have b5 : decide (90 < x) = false := decide_eq_false (by omega))
          first | (have b6 : decide (x < 48) = true := decide_eq_true (by omega)) | (have b6 : decide (x < 48) = false := decide_eq_false (by omega))
          first | (have b7 : decide (57 < x) = true := decide_eq_true (by omega)) | (have b7 : decide (57 < x) = false := decide_eq_false (by omega))
          go_wp2
          go_round
          case rel => exact ⟨k + 1, by go_num, by omega, HS.out⟩
          case measure => simp [intOf]; omega
        all_goals
          first | (have b1 : (x != 95) = true := by simp; omega) | (have b1 : (x != 95) = false := by simp; omega)
          first | (have b2 : decide (x < 97) = true := decide_eq_true (by omega)) | (have b2 : decide (x < 97) = false := decide_eq_false (by omega))
          first | (have b3 : decide (122 < x) = true := decide_eq_true (by omega)) | (have b3 : decide (122 < x) = false := decide_eq_false (by omega))
          first | (have b4 : decide (x < 65) = true := decide_eq_true (by omega)) | (have b4 : decide (x < 65) = false := decide_eq_false (by omega))
          first | (have b5 : decide (90 < x) = true := decide_eq_true (by omega)) | (have b5 : decide (90 < x) = false := decide_eq_false (by omega))
          first | (have b6 : decide (x < 48) = true := decide_eq_true (by omega)) | (have b6 : decide (x < 48) = false := decide_eq_false (by omega))
          first | (have b7 : decide (57 < x) = true := decide_eq_true (by omega)) | (have b7 : decide (57 < x) = false := decide_eq_false (by omega))
          go_wp2
          go_round
          case rel => exact ⟨k + 1, by go_num, by omega, HS.out⟩
          case measure => simp [intOf]; omega
      · have HB : Hid (isN s = false) := isN_bad hlt (by rw [HX.out]; exact hok)
        clear hok
        rcases hc with ⟨hc, hk0⟩ | ⟨hc, hc', hk0⟩ | ⟨hc, hc', hk0⟩ | ⟨hc, hc', hk0⟩ | ⟨hc, hk0⟩ | ⟨hc, hk0⟩ | ⟨hc, hc', hk0⟩ | ⟨hc, hc', hk0⟩ | ⟨hc, hc', hk0⟩ | ⟨hc, hk0⟩ | ⟨hc, hc', hk0⟩
        all_goals
          first | (have b0 : ((k : Int) == 0) = true := by rw [beq_iff_eq]; omega) | (have b0 : ((k : Int) == 0) = false := by rw [beq_eq_false_iff_ne]; omega)
          first | (have b1 : (x != 95) = true := by simp; omega) | (have b1 : (x != 95) = false := by simp; omega)
          first | (have b2 : decide (x < 97) = true := decide_eq_true (by omega)) | (have b2 : decide (x < 97) = false := decide_eq_false (by omega))
          first | (have b3 : decide (122 < x) = true := decide_eq_true (by omega)) | (have b3 : decide (122 < x) = false := decide_eq_false (by omega))
          first | (have b4 : decide (x < 65) = true := decide_eq_true (by omega)) | (have b4 : decide (x < 65) = false := decide_eq_false (by omega))
          first | (have b5 : decide (90 < x) = true := decide_eq_true (by omega)) | (have b5 : decide (90 < x) = false := decide_eq_false (by omega))
          first | (have b6 : decide (x < 48) = true := decide_eq_true (by omega)) | (have b6 : decide (x < 48) = false := decide_eq_false (by omega))
          first | (have b7 : decide (57 < x) = true := decide_eq_true (by omega)) | (have b7 : decide (57 < x) = false := decide_eq_false (by omega))
          first | clear hk0 | skip
          go_wp2
          go_ret
          exact ⟨ret_bool HB.out.symm, rfl⟩
    · have HB : Hid (isN s = decide (0 < s.size)) := isN_all (by have e : k = s.size := by omega
                                                                 rw [← e]; exact HA.out)
      go_wp2
      go_ret
      exact ⟨ret_bool (by rw [HB.out]; exact notEmpty s), rfl⟩

theorem zzIsName_any (s : ByteArray) (w : World) (h : s.size ≤ 1048576) :
    Calls Try.prog 25 #[.string s] w fun e w' => e = .returned (.bool (isN s)) ∧ w' = w := by
  go_enter Try.func25, Try.ntmps25
  go_wp2_with (go_at_call 31; refine (isName_any s _ h).mono ?_; rintro e w' ⟨rfl, rfl⟩)
  go_ret
  exact ⟨rfl, rfl⟩

/-- How many of the first k bytes are a name's. -/
def cnt (s : ByteArray) : Nat → Nat
  | 0 => 0
  | k + 1 => cnt s k + if nameB (byt s k) then 1 else 0

theorem cnt_le (s : ByteArray) (k : Nat) : cnt s k ≤ k := by
  induction k with
  | zero => simp [cnt]
  | succ k ih => simp only [cnt]; split <;> omega

theorem cnt_full (s : ByteArray) (k : Nat) : cnt s k = k ↔ ∀ j, j < k → nameB (byt s j) = true := by
  induction k with
  | zero => simp [cnt]
  | succ k ih =>
    have hle := cnt_le s k
    simp only [cnt]
    constructor
    · intro h j hj
      cases hb : nameB (byt s k) with
      | false => rw [hb] at h; simp at h; omega
      | true =>
        rw [hb] at h
        simp at h
        by_cases e : j = k
        · rw [e]; exact hb
        · exact ih.1 h j (by omega)
    · intro h
      rw [h k (by omega), ih.2 (fun j hj => h j (by omega))]; simp

theorem isN_cnt (s : ByteArray) (h0 : 0 < s.size) (hd : digB (byt s 0) = false) : isN s = (((cnt s s.size : Nat) : Int) == ((s.size : Nat) : Int)) := by
  rw [Bool.eq_iff_iff]
  unfold isN
  rw [decide_eq_true_iff, beq_iff_eq]
  constructor
  · rintro ⟨_, h⟩
    have := (cnt_full s s.size).2 (fun j hj => by have := h j hj; simp [okB] at this; exact this.1)
    omega
  · intro h
    have h' := (cnt_full s s.size).1 (by omega)
    refine ⟨h0, fun j hj => ?_⟩
    simp only [okB, h' j hj, Bool.true_and]
    by_cases e : j = 0
    · subst e; rw [hd]; rfl
    · simp [e]

set_option maxHeartbeats 1000000 in
theorem law6 (s : ByteArray) (w : World) (h : s.size ≤ maxLen) : Calls Try.prog 6 #[.string s] w fun e w' => e = .returned (.bool true) ∧ w' = w := by
  have hB := bytes23 s w h
  unfold maxLen at h
  by_cases hs : s.size ≤ 1048576
  · rw [decide_eq_true hs] at hB
    have HN : Hid (∀ w, Calls Try.prog 25 #[.string s] w fun e w' => e = .returned (.bool (isN s)) ∧ w' = w) := fun w => zzIsName_any s w hs
    by_cases h0 : 0 < s.size
    · have hx := byt_at s 0 h0
      obtain ⟨hb0, hb1⟩ := byt_bd s 0
      obtain ⟨x, hxx⟩ : ∃ x, byt s 0 = x := ⟨_, rfl⟩
      rw [hxx] at hx hb0 hb1
      have HX : Hid (byt s 0 = x) := hxx
      clear hxx
      have h0' : (0 : Int) < (s.size : Int) := by omega
      by_cases hd : 48 ≤ x ∧ x ≤ 57
      · obtain ⟨g1, g2⟩ := hd
        have hbad : isN s = false := isN_bad h0 (by rw [HX.out]; simp [okB, digB]; omega)
        have t1 : decide (48 ≤ x) = true := decide_eq_true g1
        have t2 : decide (x ≤ 57) = true := decide_eq_true g2
        go_enter Try.func6, Try.ntmps6
        go_wp2_with (first | (go_at_call 23; refine hB.mono ?_; rintro e w' ⟨rfl, rfl⟩) | (go_at_call 25; refine (HN.out _).mono ?_; rw [hbad]; rintro e w' ⟨rfl, rfl⟩))
        go_ret
        exact ⟨rfl, rfl⟩
      · have HD : Hid (digB (byt s 0) = false) := by
          show _ = _
          rw [HX.out]; unfold digB; exact decide_eq_false hd
        have HC : Hid (isN s = (((cnt s s.size : Nat) : Int) == ((s.size : Nat) : Int))) := isN_cnt s h0 HD.out
        have hd' : x < 48 ∨ 57 < x := by omega
        clear hd
        rcases hd' with hd | hd
        · have t1 : decide (48 ≤ x) = false := decide_eq_false (by omega)
          go_enter Try.func6, Try.ntmps6
          go_wp2_with (first | (go_at_call 23; refine hB.mono ?_; rintro e w' ⟨rfl, rfl⟩))
          clear hB hx
          go_loop [4, 5] (fun n i => ∃ k : Nat, i = .int .i64 k ∧ k ≤ s.size ∧ n = .int .i64 ((cnt s k : Nat) : Int)) (fun _ i => s.size - (intOf i).toNat)
          case atStart => exact ⟨0, rfl, Nat.zero_le _, rfl⟩
          case round =>
            obtain ⟨k, rfl, hk, rfl⟩ := hrel
            by_cases hlt : k < s.size
            · have hy := byt_at s k hlt
              obtain ⟨yb0, yb1⟩ := byt_bd s k
              obtain ⟨y, hyy⟩ : ∃ y, byt s k = y := ⟨_, rfl⟩
              obtain ⟨m, hm⟩ : ∃ m, cnt s k = m := ⟨_, rfl⟩
              have hmk : m ≤ k := by rw [← hm]; exact cnt_le s k
              have e1 : cnt s (k + 1) = m + if nameB y then 1 else 0 := by simp only [cnt]; rw [hm, hyy]
              rw [hyy] at hy yb0 yb1
              rw [hm]
              have E1 : Hid (cnt s (k + 1) = m + if nameB y then 1 else 0) := e1
              clear hyy hm e1
              cases hnb : nameB y with
              | true =>
                go_wp2_with (go_at_call 24; refine (nameByte_any y _ yb0 yb1).mono ?_; rw [hnb]; rintro e w' ⟨rfl, rfl⟩)
                go_round
                case rel => exact ⟨k + 1, by go_num, by omega, by rw [E1.out, hnb]; go_num⟩
                case measure => simp [intOf]; omega
              | false =>
                go_wp2_with (go_at_call 24; refine (nameByte_any y _ yb0 yb1).mono ?_; rw [hnb]; rintro e w' ⟨rfl, rfl⟩)
                go_round
                case rel => exact ⟨k + 1, by go_num, by omega, by rw [E1.out, hnb]; rfl⟩
                case measure => simp [intOf]; omega
            · have hks : k = s.size := by omega
              rw [hks]
              have HC' : Hid (isN s = (((cnt s s.size : Nat) : Int) == ((s.size : Nat) : Int))) := HC
              obtain ⟨m, hm⟩ : ∃ m, cnt s s.size = m := ⟨_, rfl⟩
              have hC := HC.out
              rw [hm] at hC
              rw [hm]
              clear hks hm HC HC'
              have HC2 : Hid (isN s = ((m : Int) == ((s.size : Nat) : Int))) := hC
              clear hC
              go_wp2_with (go_at_call 25; refine (HN.out _).mono ?_; rintro e w' ⟨rfl, rfl⟩)
              go_ret
              exact ⟨ret_bool (by rw [HC2.out]; simp), rfl⟩
        · have t1 : decide (48 ≤ x) = true := decide_eq_true (by omega)
          have t2 : decide (x ≤ 57) = false := decide_eq_false (by omega)
          go_enter Try.func6, Try.ntmps6
          go_wp2_with (first | (go_at_call 23; refine hB.mono ?_; rintro e w' ⟨rfl, rfl⟩))
          clear hB hx
          go_loop [4, 5] (fun n i => ∃ k : Nat, i = .int .i64 k ∧ k ≤ s.size ∧ n = .int .i64 ((cnt s k : Nat) : Int)) (fun _ i => s.size - (intOf i).toNat)
          case atStart => exact ⟨0, rfl, Nat.zero_le _, rfl⟩
          case round =>
            obtain ⟨k, rfl, hk, rfl⟩ := hrel
            by_cases hlt : k < s.size
            · have hy := byt_at s k hlt
              obtain ⟨yb0, yb1⟩ := byt_bd s k
              obtain ⟨y, hyy⟩ : ∃ y, byt s k = y := ⟨_, rfl⟩
              obtain ⟨m, hm⟩ : ∃ m, cnt s k = m := ⟨_, rfl⟩
              have hmk : m ≤ k := by rw [← hm]; exact cnt_le s k
              have e1 : cnt s (k + 1) = m + if nameB y then 1 else 0 := by simp only [cnt]; rw [hm, hyy]
              rw [hyy] at hy yb0 yb1
              rw [hm]
              have E1 : Hid (cnt s (k + 1) = m + if nameB y then 1 else 0) := e1
              clear hyy hm e1
              cases hnb : nameB y with
              | true =>
                go_wp2_with (go_at_call 24; refine (nameByte_any y _ yb0 yb1).mono ?_; rw [hnb]; rintro e w' ⟨rfl, rfl⟩)
                go_round
                case rel => exact ⟨k + 1, by go_num, by omega, by rw [E1.out, hnb]; go_num⟩
                case measure => simp [intOf]; omega
              | false =>
                go_wp2_with (go_at_call 24; refine (nameByte_any y _ yb0 yb1).mono ?_; rw [hnb]; rintro e w' ⟨rfl, rfl⟩)
                go_round
                case rel => exact ⟨k + 1, by go_num, by omega, by rw [E1.out, hnb]; rfl⟩
                case measure => simp [intOf]; omega
            · have hks : k = s.size := by omega
              rw [hks]
              have HC' : Hid (isN s = (((cnt s s.size : Nat) : Int) == ((s.size : Nat) : Int))) := HC
              obtain ⟨m, hm⟩ : ∃ m, cnt s s.size = m := ⟨_, rfl⟩
              have hC := HC.out
              rw [hm] at hC
              rw [hm]
              clear hks hm HC HC'
              have HC2 : Hid (isN s = ((m : Int) == ((s.size : Nat) : Int))) := hC
              clear hC
              go_wp2_with (go_at_call 25; refine (HN.out _).mono ?_; rintro e w' ⟨rfl, rfl⟩)
              go_ret
              exact ⟨ret_bool (by rw [HC2.out]; simp), rfl⟩
    · have e0 : s.size = 0 := by omega
      have hbad : isN s = false := by unfold isN; exact decide_eq_false (by rintro ⟨g, _⟩; omega)
      have t0 : decide ((0 : Int) < (s.size : Int)) = false := decide_eq_false (by omega)
      clear e0
      go_enter Try.func6, Try.ntmps6
      go_wp2_with (first | (go_at_call 23; refine hB.mono ?_; rintro e w' ⟨rfl, rfl⟩) | (go_at_call 25; refine (HN.out _).mono ?_; rw [hbad]; rintro e w' ⟨rfl, rfl⟩))
      go_ret
      exact ⟨rfl, rfl⟩
  · rw [decide_eq_false hs] at hB
    go_enter Try.func6, Try.ntmps6
    go_wp2_with (go_at_call 23; refine hB.mono ?_; rintro e w' ⟨rfl, rfl⟩)
    go_ret
    exact ⟨rfl, rfl⟩
end Go.Proofs.Qxb6605305a.NM
