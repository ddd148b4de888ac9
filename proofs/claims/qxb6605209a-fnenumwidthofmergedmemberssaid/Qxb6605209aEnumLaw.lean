/-
  The walk of FnEnumWidthFewestBytes.
-/
import Derived.Test.Qxb6605209aEnum
import Derived.OpenShut
namespace Go.Proofs.Qxb6605209a.EW
open Go.ChangeShapes Go.WideShapes Go.ChangeAt Go.RowKit
set_option linter.unusedVariables false

theorem u64_bounds {x : Int} (h : (Lit.int .u64 x).wf = true) : 0 ≤ x ∧ x < 18446744073709551616 := by
  have := bounds_u64 h; omega

set_option maxHeartbeats 400000 in
theorem bytes16_yes (a : Option Addr) (n c : Nat) (w : World) (h : n ≤ 1048576) :
    Calls Try.prog 16 #[.slice a n c] w fun e w' => e = .returned (.bool true) ∧ w' = w := by
  refine (bytes16 a n c w (by unfold maxLen; omega)).mono fun e w' h' => ?_
  rw [decide_eq_true h] at h'; exact h'

set_option maxHeartbeats 400000 in
theorem bytes16_no (a : Option Addr) (n c : Nat) (w : World) (h : ¬ n ≤ 1048576) (hm : n ≤ maxLen) :
    Calls Try.prog 16 #[.slice a n c] w fun e w' => e = .returned (.bool false) ∧ w' = w := by
  refine (bytes16 a n c w hm).mono fun e w' h' => ?_
  rw [decide_eq_false h] at h'; exact h'

set_option maxHeartbeats 400000 in
theorem law5 (a : Option Addr) (n c : Nat) (zs : List Int) (HL : Hid (zs.length = n)) (w : World) (HZ : Hid (a = none → zs = [])) (HR : Hid (Reads .u64 w a zs)) (hmax : n ≤ maxLen) (HW : Hid (∀ x ∈ zs, 0 ≤ x ∧ x < 18446744073709551616)) :
    Calls Try.prog 5 #[.slice a n c] w fun e w' => e = .returned (.bool true) ∧ Below w.heap.size w w' := by
  have hmax' := hmax
  unfold maxLen at hmax'
  by_cases h2 : n ≤ 1048576
  · by_cases h1 : n ≤ 131072
    · go_enter Try.func5, Try.ntmps5
      go_wp2_with (go_at_call 16; refine (bytes16_yes _ _ _ _ h2).mono ?_; rintro e w' ⟨rfl, rfl⟩)
      refine (clone64 _ _ _ zs HL.out _ HZ.out HR.out h2).mono ?_
      rintro e w1 ⟨a1, c1, rfl, hz1, hr1, hb1⟩
      clear HZ HR
      have HR1 : Hid (Reads .u64 w1 a1 zs) := hr1
      have HB1 : Hid (Below _ _ w1) := hb1
      go_wp2_with fail
      refine (enum_any _ _ _ zs HL.out _ hz1 hr1 h2).mono ?_
      rintro e w2 ⟨g, rfl, hen, hb2⟩
      go_wp2_with fail
      refine (width_any g zs _ hen HW.out (by rw [HL.out]; exact h2)).mono ?_
      rintro e w3 ⟨rfl, rfl⟩
      have hr2 := hr1.later hb2
      have hb := HB1.out.trans (hb2.mono HB1.out.size)
      clear hz1 hr1 hb1 hb2 hen HR1 HB1
      go_wp2_with fail
      refine (fewest_wid _ _ _ zs HL.out _ hr2 h2 HW.out).mono ?_
      rintro e w3 ⟨rfl, rfl⟩
      go_wp2
      go_ret
      exact ⟨rfl, hb⟩
    · go_enter Try.func5, Try.ntmps5
      go_wp2_with (go_at_call 16; refine (bytes16_yes _ _ _ _ h2).mono ?_; rintro e w' ⟨rfl, rfl⟩)
      go_ret
      exact ⟨rfl, Below.refl _ _⟩
  · go_enter Try.func5, Try.ntmps5
    go_wp2_with (go_at_call 16; refine (bytes16_no _ _ _ _ h2 hmax).mono ?_; rintro e w' ⟨rfl, rfl⟩)
    go_ret
    exact ⟨rfl, Below.refl _ _⟩
end Go.Proofs.Qxb6605209a.EW
