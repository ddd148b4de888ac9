/-
  The walk of FnIsNewMatchesSetModel: its guards and its count.
-/
import Derived.Test.Qxb6605305aNewWalk
namespace Go.Proofs.Qxb6605305a.KS
open Go.ChangeShapes Go.WideShapes Go.ChangeAt Go.RowKit
set_option linter.unusedVariables false

set_option maxRecDepth 8000 in
set_option maxHeartbeats 1000000 in
theorem bytes7 (a : Option Addr) (n c : Nat) (S : List ByteArray) (HN : Hid (S.length = n)) (hm : Bool) (a1 : Option Addr) (n1 c1 : Nat) (T : List ByteArray) (HT : Hid (T.length = n1)) (s : ByteArray) (w : World) (HR : Hid (Reads w a S)) (HR1 : Hid (Reads w a1 T)) (hn : n ≤ maxLen) (hn1 : n1 ≤ maxLen) :
    Calls Try.prog 7 #[.slice a n c, .bool hm, .slice a1 n1 c1, .string s] w fun e w' => SomeBool e ∧ w' = w := by
  unfold maxLen at hn hn1
  go_enter Try.func7, Try.ntmps7
  go_wp2
  · go_ret
    exact ⟨⟨_, rfl⟩, rfl⟩
  go_loop [9, 10] (fun t i => ∃ k : Nat, i = .int .i64 k ∧ k ≤ n ∧ ∃ q : Int, t = .int .i64 q) (fun _ i => n - (intOf i).toNat)
  case atStart => exact ⟨0, rfl, Nat.zero_le _, _, rfl⟩
  case round =>
    obtain ⟨k, rfl, hk, q, rfl⟩ := hrel
    by_cases hlt : k < n
    · obtain ⟨b, off, rfl, hbl, hc⟩ := HR.out.at (i := k) (by have := HN.out; omega)
      obtain ⟨x, hx⟩ : ∃ x, kth S k = x := ⟨_, rfl⟩
      rw [hx] at hc
      clear hx
      go_wp2
      · go_ret
        exact ⟨⟨_, rfl⟩, rfl⟩
      · go_ret
        exact ⟨⟨_, rfl⟩, rfl⟩
      · go_round
        case rel => exact ⟨k + 1, by go_num, by omega, _, rfl⟩
        case measure => simp [intOf]; omega
    · go_wp2
      · go_ret
        exact ⟨⟨_, rfl⟩, rfl⟩
      · go_ret
        exact ⟨⟨_, rfl⟩, rfl⟩
      go_loop [9, 11] (fun t i => ∃ k : Nat, i = .int .i64 k ∧ k ≤ n1 ∧ ∃ q : Int, t = .int .i64 q) (fun _ i => n1 - (intOf i).toNat)
      case atStart => exact ⟨0, rfl, Nat.zero_le _, _, rfl⟩
      case round =>
        obtain ⟨j, rfl, hj, r, rfl⟩ := hrel
        by_cases hjlt : j < n1
        · obtain ⟨b, off, rfl, hbl, hc⟩ := HR1.out.at (i := j) (by have := HT.out; omega)
          obtain ⟨x, hx⟩ : ∃ x, kth T j = x := ⟨_, rfl⟩
          rw [hx] at hc
          clear hx
          go_wp2
          · go_ret
            exact ⟨⟨_, rfl⟩, rfl⟩
          · go_ret
            exact ⟨⟨_, rfl⟩, rfl⟩
          · go_round
            case rel => exact ⟨j + 1, by go_num, by omega, _, rfl⟩
            case measure => simp [intOf]; omega
        · go_wp2
          all_goals
            go_ret
            exact ⟨⟨_, rfl⟩, rfl⟩

set_option maxHeartbeats 400000 in
theorem count_any (a : Option Addr) (n c : Nat) (S : List ByteArray) (HN' : Hid (S.length = n)) (w : World) (HR : Hid (Reads w a S)) (hn : n ≤ 4096) :
    Calls Try.prog 16 #[.slice a n c] w fun e w' => e = .returned (.int .i64 ((cntL S S.length : Nat) : Int)) ∧ w' = w := by
  rw [HN'.out]
  go_enter Try.func16, Try.ntmps16
  go_wp2
  go_loop [3, 4] (fun t i => ∃ k : Nat, i = .int .i64 k ∧ k ≤ n ∧ t = .int .i64 ((cntL S k : Nat) : Int)) (fun _ i => n - (intOf i).toNat)
  case atStart => exact ⟨0, rfl, Nat.zero_le _, rfl⟩
  case round =>
    obtain ⟨k, rfl, hk, rfl⟩ := hrel
    obtain ⟨m, hm⟩ : ∃ m, cntL S k = m := ⟨_, rfl⟩
    have hmk : m ≤ k := by rw [← hm]; exact cntL_le S k
    rw [hm]
    by_cases hlt : k < n
    · obtain ⟨b, off, rfl, hbl, hc⟩ := HR.out.at (i := k) (by have := HN'.out; omega)
      obtain ⟨x, hx⟩ : ∃ x, kth S k = x := ⟨_, rfl⟩
      have e1 : cntL S (k + 1) = m + if mem (S.take k) x then 0 else 1 := by simp only [cntL]; rw [hm, hx]
      rw [hx] at hc
      have E1 : Hid (cntL S (k + 1) = m + if mem (S.take k) x then 0 else 1) := e1
      clear hx hm e1
      cases hmem : mem (S.take k) x with
      | true =>
        go_wp2_with (go_at_call 14; refine (contains_any _ n _ S HN' k x _ HR hn (by omega)).mono ?_; rw [hmem]; rintro e w' ⟨rfl, rfl⟩)
        go_round
        case rel => exact ⟨k + 1, by go_num, by omega, by rw [E1.out, hmem]; rfl⟩
        case measure => simp [intOf]; omega
      | false =>
        go_wp2_with (go_at_call 14; refine (contains_any _ n _ S HN' k x _ HR hn (by omega)).mono ?_; rw [hmem]; rintro e w' ⟨rfl, rfl⟩)
        go_round
        case rel => exact ⟨k + 1, by go_num, by omega, by rw [E1.out, hmem]; go_num⟩
        case measure => simp [intOf]; omega
    · have hkn : k = n := by omega
      have HM : Hid (m = cntL S n) := by show _ = _; rw [← hm, hkn]
      clear hm hkn
      go_wp2
      go_ret
      exact ⟨by rw [HM.out]; rfl, rfl⟩
end Go.Proofs.Qxb6605305a.KS
