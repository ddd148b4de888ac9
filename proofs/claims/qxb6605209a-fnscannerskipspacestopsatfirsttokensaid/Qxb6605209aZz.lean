/-
  The contracts of ZZSkipSpace and blanksAndComments.
-/
import Derived.Test.Qxb6605209aScan
namespace Go.Proofs.Qxb6605209a.SK
open Go.ChangeShapes Go.WideShapes Go.ChangeAt Go.RowKit
open Go.Proofs.Qxb6605209a.EW
set_option linter.unusedVariables false

set_option maxRecDepth 8000 in
set_option maxHeartbeats 1000000 in
theorem skip_far (w : World) (S : Nat) (a : Option Addr) (n c : Nat) (p l k : Int) (wr0 : World) (hn : n ≤ 1048576) (hp : (n : Int) ≤ p) (HA : Hid (Scan w S a n c p l k wr0)) :
    Calls Try.prog 31 #[.pointer (some ⟨S, 0, none⟩)] wr0 fun e w' => e = .returned (.tuple #[]) ∧ Scan w S a n c p l k w' := by
  have c0 := HA.out.c0
  have c1 := HA.out.c1
  have hd : decide (p < (n : Int)) = false := decide_eq_false (by omega)
  go_enter Try.func31, Try.ntmps31
  go_wp2
  refine wp_loop_rounds 1 ?_; rw [rounds_succ]
  go_wp2
  go_quiet (fail)
  go_wp2
  go_end0
  exact ⟨rfl, HA.out.drewN _⟩

theorem Scan.new (w : World) (a : Option Addr) (n c : Nat) (p l k : Int) : Scan w w.heap.size a n c p l k (w.alloc (.cells #[.slice a n c, .int .i64 p, .int .i64 l, .int .i64 k] 63)) := by
  refine ⟨?_, ?_, ?_, ?_, fun i => ?_, (Below.refl _ _).alloc (Nat.le_refl _) _⟩
  · rw [World.cell?_alloc_at _ _ _ _ rfl]; rfl
  · rw [World.cell?_alloc_at _ _ _ _ rfl]; rfl
  · rw [World.cell?_alloc_at _ _ _ _ rfl]; rfl
  · rw [World.cell?_alloc_at _ _ _ _ rfl]; rfl
  · rw [World.frozen?_alloc_at _ _ _ _ rfl]

theorem At.new (w : World) (a : Option Addr) (n c off : Nat) (line cl : Int) (zs : List Int) (hoff : off ≤ zs.length) (hl : -9223372036854775808 ≤ line ∧ line ≤ 9223372036854775807) (hc : -9223372036854775808 ≤ cl ∧ cl ≤ 9223372036854775807) :
    At false w w.heap.size a n c zs off line cl (SK.fin false zs off) 0 (w.alloc (.cells #[.slice a n c, .int .i64 off, .int .i64 line, .int .i64 cl] 63)) := by
  refine ⟨by omega, rfl, ?_⟩
  have e1 : lin zs off line 0 = line := by unfold lin; simp only [brk]; rw [wrap_in _ (by omega)]; omega
  have e2 : col zs off cl 0 = cl := by unfold col; rw [if_pos (show lst zs off 0 < 0 by simp [lst]), wrap_in _ (by omega)]; omega
  rw [e1, e2]
  exact Scan.new w a n c off line cl

/-- What ZZSkipSpace leaves. -/
def Zz (w : World) (zs : List Int) (off : Nat) (line cl : Int) (e : Ending) (w' : World) : Prop :=
  ∃ k, off + k = SK.fin false zs off ∧ e = .returned (.tuple #[.int .i64 ((off + k : Nat) : Int), .int .i64 (lin zs off line k), .int .i64 (col zs off cl k)]) ∧ Below w.heap.size w w'

set_option maxHeartbeats 400000 in
theorem zz_in (a : Option Addr) (n c : Nat) (zs : List Int) (HN : Hid (zs.length = n)) (off : Nat) (line cl : Int) (w : World) (hn : n ≤ 1048576) (hoff : off ≤ n)
    (HR : Hid (Reads .u8 w a zs)) (HLn : Hid (-9223372036854775808 ≤ line ∧ line ≤ 9223372036854775807)) (HCl : Hid (-9223372036854775808 ≤ cl ∧ cl ≤ 9223372036854775807)) :
    Calls Try.prog 24 #[.slice a n c, .int .i64 off, .int .i64 line, .int .i64 cl] w (Zz w zs off line cl) := by
  go_enter Try.func24, Try.ntmps24
  go_wp2_with fail
  refine (skip_any w _ a n c zs HN off line cl _ hn hoff HR rfl (At.new w a n c off line cl zs (by rw [HN.out]; exact hoff) HLn.out HCl.out)).mono ?_
  rintro e w1 ⟨rfl, k, hk, hs⟩
  have c1 := hs.c1
  have c2 := hs.c2
  have c3 := hs.c3
  have HB : Hid (Below w.heap.size w w1) := hs.below
  have HK : Hid (off + k = SK.fin false zs off) := hk
  clear hs hk
  go_wp2
  go_quiet (fail)
  go_wp2
  go_ret3
  refine ⟨k, HK.out, rfl, ?_⟩
  exact ⟨HB.out.os, HB.out.tape, HB.out.output, HB.out.size, HB.out.block⟩

set_option maxHeartbeats 400000 in
theorem zz_far (a : Option Addr) (n c : Nat) (p line cl : Int) (w : World) (hn : n ≤ 1048576) (hp : (n : Int) ≤ p) :
    Calls Try.prog 24 #[.slice a n c, .int .i64 p, .int .i64 line, .int .i64 cl] w fun e w' => e = .returned (.tuple #[.int .i64 p, .int .i64 line, .int .i64 cl]) ∧ Below w.heap.size w w' := by
  go_enter Try.func24, Try.ntmps24
  go_wp2_with fail
  refine (skip_far w _ a n c p line cl _ hn hp (Scan.new w a n c p line cl)).mono ?_
  rintro e w1 ⟨rfl, hs⟩
  have c1 := hs.c1
  have c2 := hs.c2
  have c3 := hs.c3
  have HB : Hid (Below w.heap.size w w1) := hs.below
  clear hs
  go_wp2
  go_quiet (fail)
  go_wp2
  go_ret3
  refine ⟨rfl, ?_⟩
  exact ⟨HB.out.os, HB.out.tape, HB.out.output, HB.out.size, HB.out.block⟩

set_option maxRecDepth 8000 in
set_option maxHeartbeats 1000000 in
theorem blanks_any (a : Option Addr) (n c : Nat) (zs : List Int) (HN : Hid (zs.length = n)) (off q : Nat) (w : World) (hn : n ≤ 1048576) (hoff : off ≤ n) (hq : q ≤ n)
    (HR : Hid (Reads .u8 w a zs)) (HQ : Hid (SK.fin false zs off = q)) :
    Calls Try.prog 25 #[.slice a n c, .int .i64 off, .int .i64 q] w fun e w' => e = .returned (.bool true) ∧ w' = w := by
  go_enter Try.func25, Try.ntmps25
  go_wp2
  go_loop [7] (fun v => ∃ k : Nat, v = .int .i64 k ∧ k ≤ q ∧ SK.fin false zs k = q) (fun v => q - (intOf v).toNat)
  case atStart => exact ⟨off, rfl, by have := fin_ge false zs off; have := HQ.out; omega, HQ.out⟩
  case round =>
    obtain ⟨k, rfl, hk, hf⟩ := hrel
    have HF : Hid (SK.fin false zs k = q) := hf
    clear hf
    by_cases hlt : k < q
    · go_wp2
      go_loop [7] (fun v => ∃ j : Nat, v = .int .i64 j ∧ k ≤ j ∧ j ≤ q ∧ SK.fin false zs j = q) (fun v => q - (intOf v).toNat)
      case atStart => exact ⟨k, rfl, Nat.le_refl _, by omega, HF.out⟩
      case round =>
        obtain ⟨j, rfl, hkj, hjq, hf⟩ := hrel
        have HF1 : Hid (SK.fin false zs j = q) := hf
        clear hf
        by_cases hjlt : j < q
        · obtain ⟨b, o, ha, hbl, hc⟩ := HR.out.at (i := j) (by have := HN.out; omega)
          subst ha
          obtain ⟨z, hz⟩ : ∃ z, nth zs j = z := ⟨_, rfl⟩
          rw [hz] at hc
          have HZ : Hid (nth zs j = z) := hz
          clear hz
          by_cases zb : z = 32 ∨ z = 9 ∨ z = 13
          · have HZB : Hid (SK.fin false zs (j + 1) = q) := by
              show _ = _
              rw [← fin_blank zs j (by have := HN.out; omega) (by rw [HZ.out]; exact zb)]; exact HF1.out
            rcases zb with rfl | rfl | rfl
            all_goals
              go_wp2
              go_round
              case rel => exact ⟨j + 1, by go_num, by omega, by omega, HZB.out⟩
              case measure => simp [intOf]; omega
          · have z32 : (z == 32) = false := by simpa using fun h => zb (.inl h)
            have z9 : (z == 9) = false := by simpa using fun h => zb (.inr (.inl h))
            have z13 : (z == 13) = false := by simpa using fun h => zb (.inr (.inr h))
            have HZB : Hid (¬ (z = 32 ∨ z = 9 ∨ z = 13)) := zb
            clear zb
            by_cases z10 : z = 10
            · subst z10
              have HZN : Hid (SK.fin false zs (j + 1) = q) := by
                show _ = _
                rw [← fin_nl false zs j (by have := HN.out; omega) HZ.out]; exact HF1.out
              go_wp2
              go_round
              case rel => exact ⟨j + 1, by go_num, by omega, HZN.out⟩
              case measure => simp [intOf]; omega
            · have hrun := fin_run zs j (by have := HN.out; omega) (by have := HF1.out; omega) (by rw [HZ.out]; exact z10) (by rw [HZ.out]; exact fun h => HZB.out (.inl h)) (by rw [HZ.out]; exact fun h => HZB.out (.inr (.inl h))) (by rw [HZ.out]; exact fun h => HZB.out (.inr (.inr h)))
              obtain ⟨r1, r2, r3, r4, r5⟩ := hrun
              have e47 : z = 47 := by rw [← HZ.out]; exact r1
              subst e47
              obtain ⟨b', o', ha', hbl', hc'⟩ := HR.out.at (i := j + 1) r2
              cases ha'
              rw [r3] at hc'
              have hj2 : j + 2 ≤ q := by have := HF1.out; omega
              have HT : Hid (SK.fin true zs (j + 2) = q) := by show _ = _; rw [← r5]; exact HF1.out
              clear r1 r2 r3 r4 r5 hbl' z10 z32 z9 z13 HZB
              go_wp2
              go_loop [7] (fun v => ∃ i : Nat, v = .int .i64 i ∧ j + 2 ≤ i ∧ i ≤ q ∧ SK.fin true zs i = q) (fun v => q - (intOf v).toNat)
              case atStart => exact ⟨j + 2, by go_num, Nat.le_refl _, hj2, HT.out⟩
              case round =>
                obtain ⟨i, rfl, hji, hiq, hf⟩ := hrel
                have HF2 : Hid (SK.fin true zs i = q) := hf
                clear hf hc hc' HT
                by_cases hilt : i < q
                · obtain ⟨b', o', ha', hbl', hc⟩ := HR.out.at (i := i) (by have := HN.out; omega)
                  cases ha'
                  obtain ⟨y, hy⟩ : ∃ y, nth zs i = y := ⟨_, rfl⟩
                  rw [hy] at hc
                  have HY : Hid (nth zs i = y) := hy
                  clear hy hbl'
                  by_cases y10 : y = 10
                  · subst y10
                    have HZN : Hid (SK.fin false zs (i + 1) = q) := by
                      show _ = _
                      rw [← fin_nl true zs i (by have := HN.out; omega) HY.out]; exact HF2.out
                    go_wp2
                    go_round
                    case rel => exact ⟨i + 1, by go_num, by omega, HZN.out⟩
                    case measure => simp [intOf]; omega
                  · have hyn : (y != 10) = true := by simpa using y10
                    have HZN : Hid (SK.fin true zs (i + 1) = q) := by
                      show _ = _
                      rw [← fin_com zs i (by have := HN.out; omega) (by rw [HY.out]; exact y10)]; exact HF2.out
                    go_wp2
                    go_round
                    case rel => exact ⟨i + 1, by go_num, by omega, by omega, HZN.out⟩
                    case measure => simp [intOf]; omega
                · have hiq' : i = q := by omega
                  subst hiq'
                  have hin : i = n := by rw [fin_true_end zs i (by rw [HN.out]; exact hq) HF2.out]; exact HN.out
                  have HI : Hid (i = n) := hin
                  clear hin
                  have hqn : ((i : Int) == (n : Int)) = true := by rw [beq_iff_eq]; have := HI.out; omega
                  go_wp2
                  go_ret
                  exact ⟨rfl, rfl⟩
        · have hjq' : j = q := by omega
          subst hjq'
          go_wp2
          go_ret
          exact ⟨rfl, rfl⟩
    · go_wp2
      go_ret
      exact ⟨rfl, rfl⟩
end Go.Proofs.Qxb6605209a.SK
