/-
  The walk of FnIsNewScriptAcceptsExactlyFirstOccurrences.
-/
import Derived.Test.Qxb6605305aScript0
namespace Go.Proofs.Qxb6605305a.KS
open Go.ChangeShapes Go.WideShapes Go.ChangeAt Go.RowKit
set_option linter.unusedVariables false

/-- What ZZAdd does, for whoever calls it. -/
def AddLaw : Prop := ∀ (B : Nat) (w : World) (F V : Nat) (ks : List ByteArray) (mo : Option (List ByteArray)) (wr : World) (s : ByteArray), St B w F V ks mo wr → ks.length ≤ 100000 →
  Calls Try.prog 20 #[.pointer (some ⟨F, 0, none⟩), .string s] wr fun e w' => e = .returned (.tuple #[]) ∧ St B w F V (ks ++ [s]) mo w'

/-- Too many keys: true at once, whatever zzBytes says. -/
theorem law4_big (a : Option Addr) (n c : Nat) (S : List ByteArray) (HN : Hid (S.length = n)) (w : World) (HR : Hid (Reads w a S)) (hm : n ≤ maxLen) (hn : ¬ n ≤ 4096) :
    Calls Try.prog 4 #[.slice a n c] w fun e w' => e = .returned (.bool true) ∧ Below w.heap.size w w' := by
  have hB := bytes19 a n c S HN w HR hm
  unfold maxLen at hm
  have hd : decide ((4096 : Int) < (n : Int)) = true := decide_eq_true (by omega)
  go_enter Try.func4, Try.ntmps4
  go_wp2_with fail
  refine hB.mono ?_
  rintro e w' ⟨⟨q, rfl⟩, rfl⟩
  clear hB
  cases q with
  | true =>
    go_wp2_with fail
    go_ret
    exact ⟨rfl, Below.refl _ _⟩
  | false =>
    go_wp2_with fail
    go_ret
    exact ⟨rfl, Below.refl _ _⟩

set_option maxRecDepth 8000 in
set_option maxHeartbeats 1000000 in
theorem law4 (HA : Hid AddLaw) (a : Option Addr) (n c : Nat) (S : List ByteArray) (HN : Hid (S.length = n)) (w : World) (HZ : Hid (a = none → S = [])) (HR : Hid (Reads w a S)) (hn : n ≤ 4096) (HW : Hid (∀ s ∈ S, s.size ≤ maxLen)) :
    Calls Try.prog 4 #[.slice a n c] w fun e w' => e = .returned (.bool true) ∧ Below w.heap.size w w' := by
  have hB := bytes19 a n c S HN w HR (by unfold maxLen; omega)
  have hWg := weigh_any a n c S HN w HR (by unfold maxLen; omega)
  have hd : decide ((4096 : Int) < (n : Int)) = false := decide_eq_false (by omega)
  go_enter Try.func4, Try.ntmps4
  go_wp2_with fail
  refine hB.mono ?_
  rintro e w' ⟨⟨q, rfl⟩, rfl⟩
  clear hB
  cases q with
  | false =>
    go_wp2_with fail
    go_ret
    exact ⟨rfl, Below.refl _ _⟩
  | true =>
    go_wp2_with fail
    refine hWg.mono ?_
    rintro e w' ⟨⟨t, rfl⟩, rfl⟩
    clear hWg
    by_cases ht : 1048576 < t
    · have htd : decide (1048576 < t) = true := decide_eq_true ht
      go_wp2_with fail
      go_ret
      exact ⟨rfl, Below.refl _ _⟩
    · have htd : decide (1048576 < t) = false := decide_eq_false ht
      go_wp2_with fail
      refine (clone_any _ _ _ S HN.out _ HZ.out HR.out hn).mono ?_
      rintro e w1 ⟨a1, c1, rfl, hz1, hr1, hb1⟩
      have HR1 : Hid (Reads w1 a1 S) := hr1
      have HB1 : Hid (Below w'.heap.size w' w1) := hb1
      clear hz1 hr1 hb1 HR HZ
      go_wp2_with fail
      refine (new_nil w1).mono ?_
      rintro e w2 ⟨F, V, rfl, hst⟩
      have HS2 : Hid (St w1.heap.size w1 F V [] none w2) := hst
      clear hst
      go_wp2_with fail
      go_loopw [4, 5, 6] (fun ad mw i wr => ∃ k : Nat, i = .int .i64 k ∧ k ≤ n ∧ ∃ ks mo, ad = .int .i64 ((ks.length : Nat) : Int) ∧ mw = .bool (Option.isSome mo) ∧ St w1.heap.size w1 F V ks mo wr ∧ Inv S k ks mo) (fun _ _ i _ => n - (intOf i).toNat)
      case atStart => exact ⟨0, rfl, Nat.zero_le _, [], none, rfl, rfl, HS2.out, Inv.start S⟩
      case round =>
        obtain ⟨k, rfl, hk, ks, mo, rfl, rfl, hst, hI⟩ := hrel
        clear HS2
        have HI : Hid (Inv S k ks mo) := hI
        have HSt : Hid (St w1.heap.size w1 F V ks mo wr) := hst
        obtain ⟨m, hm⟩ : ∃ m, ks.length = m := ⟨_, rfl⟩
        obtain ⟨mw, hmw⟩ : ∃ mw, Option.isSome mo = mw := ⟨_, rfl⟩
        have hmk : m ≤ k := by rw [← hm]; exact hI.le
        rw [hm, hmw]
        have HM : Hid (ks.length = m) := hm
        have HMw : Hid (Option.isSome mo = mw) := hmw
        have HLk : Hid (ks.length ≤ 100000 ∧ ∀ T, mo = some T → T.length ≤ 100000) := ⟨by omega, fun T hT => by rw [hI.map T hT]; omega⟩
        have HKs : Hid (∀ x ∈ ks, x.size ≤ maxLen) := fun x hx => HW.out x (hI.sub x hx)
        have hbelow := hst.below
        clear hm hmw hI
        by_cases hlt : k < n
        · obtain ⟨b, off, ha, hbl, hc⟩ := HR1.out.at (i := k) (by have := HN.out; omega)
          subst ha
          obtain ⟨s, hx⟩ : ∃ s, kth S k = s := ⟨_, rfl⟩
          rw [hx] at hc
          have c0 : wr.cell? ⟨b, off + k, none⟩ = some (.string s) := (hbelow.cell (by exact hbl)).trans hc
          have HX : Hid (kth S k = s) := hx
          have HSs : Hid (s.size ≤ maxLen) := by show _ ≤ _; rw [← hx]; exact HW.out _ (kth_mem S k (by have := HN.out; omega))
          clear hx hst hbelow
          by_cases h16 : 16 ≤ m
          · have hd16 : decide (16 ≤ m) = true := decide_eq_true h16
            have hd16' : decide ((16 : Int) ≤ (m : Int)) = true := decide_eq_true (by omega)
            cases hmem : mem ks s with
            | true =>
              go_wp2_with fail
              refine (zzIsNew_any w1.heap.size w1 F V ks mo wr s HSt.out HSs.out HKs.out HLk.out.1 HLk.out.2).mono ?_
              rintro e w3 ⟨he, hst3⟩
              rw [HI.out.cur, hmem] at he
              subst he
              have c3 : w3.cell? ⟨b, off + k, none⟩ = some (.string s) := (hst3.below.cell (by exact hbl)).trans hc
              have HS3 : Hid (St w1.heap.size w1 F V ks (nxt ks s mo) w3) := hst3
              have HR3 : Hid (Reads w3 (some ⟨b, off, none⟩) S) := HR1.out.later hst3.below
              clear hst3 c0
              go_wp2_with fail
              refine (contains_any _ n _ S HN k s w3 HR3 hn (by omega)).mono ?_
              rw [← HI.out.same s, hmem]
              rintro e w4 ⟨rfl, rfl⟩
              go_wp2_with fail
              go_roundw
              case rel => exact ⟨k + 1, by go_num, by omega, ks, nxt ks s mo, by rw [HM.out], by rw [nxt_some, HMw.out, HM.out, hd16]; simp, HS3.out, by have hh := HI.out.old (by have := HN.out; omega) (by rw [HX.out]; exact hmem); rw [HX.out] at hh; exact hh⟩
              case measure => simp [intOf]; omega
            | false =>
              go_wp2_with fail
              refine (zzIsNew_any w1.heap.size w1 F V ks mo wr s HSt.out HSs.out HKs.out HLk.out.1 HLk.out.2).mono ?_
              rintro e w3 ⟨he, hst3⟩
              rw [HI.out.cur, hmem] at he
              subst he
              have c3 : w3.cell? ⟨b, off + k, none⟩ = some (.string s) := (hst3.below.cell (by exact hbl)).trans hc
              have HS3 : Hid (St w1.heap.size w1 F V ks (nxt ks s mo) w3) := hst3
              have HR3 : Hid (Reads w3 (some ⟨b, off, none⟩) S) := HR1.out.later hst3.below
              clear hst3 c0
              go_wp2_with fail
              refine (contains_any _ n _ S HN k s w3 HR3 hn (by omega)).mono ?_
              rw [← HI.out.same s, hmem]
              rintro e w4 ⟨rfl, rfl⟩
              go_wp2_with fail
              refine (HA.out w1.heap.size w1 F V ks (nxt ks s mo) _ s HS3.out HLk.out.1).mono ?_
              rintro e w5 ⟨rfl, hst5⟩
              have HS5 : Hid (St w1.heap.size w1 F V (ks ++ [s]) (nxt ks s mo) w5) := hst5
              clear hst5 c3
              go_wp2_with fail
              go_roundw
              case rel => exact ⟨k + 1, by go_num, by omega, ks ++ [s], nxt ks s mo, by rw [List.length_append, HM.out]; go_num, by rw [nxt_some, HMw.out, HM.out, hd16]; simp, HS5.out, by have hh := HI.out.new (by have := HN.out; omega) (by rw [HX.out]; exact hmem); rw [HX.out] at hh; exact hh⟩
              case measure => simp [intOf]; omega
          · have hd16 : decide (16 ≤ m) = false := decide_eq_false h16
            have hd16' : decide ((16 : Int) ≤ (m : Int)) = false := decide_eq_false (by omega)
            cases hmem : mem ks s with
            | true =>
              go_wp2_with fail
              refine (zzIsNew_any w1.heap.size w1 F V ks mo wr s HSt.out HSs.out HKs.out HLk.out.1 HLk.out.2).mono ?_
              rintro e w3 ⟨he, hst3⟩
              rw [HI.out.cur, hmem] at he
              subst he
              have c3 : w3.cell? ⟨b, off + k, none⟩ = some (.string s) := (hst3.below.cell (by exact hbl)).trans hc
              have HS3 : Hid (St w1.heap.size w1 F V ks (nxt ks s mo) w3) := hst3
              have HR3 : Hid (Reads w3 (some ⟨b, off, none⟩) S) := HR1.out.later hst3.below
              clear hst3 c0
              go_wp2_with fail
              refine (contains_any _ n _ S HN k s w3 HR3 hn (by omega)).mono ?_
              rw [← HI.out.same s, hmem]
              rintro e w4 ⟨rfl, rfl⟩
              go_wp2_with fail
              go_roundw
              case rel => exact ⟨k + 1, by go_num, by omega, ks, nxt ks s mo, by rw [HM.out], by rw [nxt_some, HMw.out, HM.out, hd16]; simp, HS3.out, by have hh := HI.out.old (by have := HN.out; omega) (by rw [HX.out]; exact hmem); rw [HX.out] at hh; exact hh⟩
              case measure => simp [intOf]; omega
            | false =>
              go_wp2_with fail
              refine (zzIsNew_any w1.heap.size w1 F V ks mo wr s HSt.out HSs.out HKs.out HLk.out.1 HLk.out.2).mono ?_
              rintro e w3 ⟨he, hst3⟩
              rw [HI.out.cur, hmem] at he
              subst he
              have c3 : w3.cell? ⟨b, off + k, none⟩ = some (.string s) := (hst3.below.cell (by exact hbl)).trans hc
              have HS3 : Hid (St w1.heap.size w1 F V ks (nxt ks s mo) w3) := hst3
              have HR3 : Hid (Reads w3 (some ⟨b, off, none⟩) S) := HR1.out.later hst3.below
              clear hst3 c0
              go_wp2_with fail
              refine (contains_any _ n _ S HN k s w3 HR3 hn (by omega)).mono ?_
              rw [← HI.out.same s, hmem]
              rintro e w4 ⟨rfl, rfl⟩
              go_wp2_with fail
              refine (HA.out w1.heap.size w1 F V ks (nxt ks s mo) _ s HS3.out HLk.out.1).mono ?_
              rintro e w5 ⟨rfl, hst5⟩
              have HS5 : Hid (St w1.heap.size w1 F V (ks ++ [s]) (nxt ks s mo) w5) := hst5
              clear hst5 c3
              go_wp2_with fail
              go_roundw
              case rel => exact ⟨k + 1, by go_num, by omega, ks ++ [s], nxt ks s mo, by rw [List.length_append, HM.out]; go_num, by rw [nxt_some, HMw.out, HM.out, hd16]; simp, HS5.out, by have hh := HI.out.new (by have := HN.out; omega) (by rw [HX.out]; exact hmem); rw [HX.out] at hh; exact hh⟩
              case measure => simp [intOf]; omega
        · have hB' : Below w'.heap.size w' wr := HB1.out.trans (hbelow.mono HB1.out.size)
          have HB' : Hid (Below w'.heap.size w' wr) := hB'
          clear hst hbelow hB'
          cases mo with
          | none =>
            obtain rfl : mw = false := HMw.out.symm
            go_wp2_with fail
            refine (itemsLen_any _ _ _ _ ks none wr HSt.out).mono ?_
            rw [HM.out]
            rintro e w3 ⟨rfl, rfl⟩
            go_wp2_with fail
            refine (keysNil_any _ _ _ _ ks none _ HSt.out).mono ?_
            rintro e w3 ⟨rfl, rfl⟩
            go_wp2_with fail
            go_ret
            exact ⟨rfl, HB'.out⟩
          | some T =>
            obtain rfl : mw = true := HMw.out.symm
            go_wp2_with fail
            refine (itemsLen_any _ _ _ _ ks (some T) wr HSt.out).mono ?_
            rw [HM.out]
            rintro e w3 ⟨rfl, rfl⟩
            go_wp2_with fail
            refine (keysNil_any _ _ _ _ ks (some T) _ HSt.out).mono ?_
            rintro e w3 ⟨rfl, rfl⟩
            go_wp2_with fail
            refine (keysLen_any _ _ _ _ ks T _ HSt.out).mono ?_
            rw [HI.out.map T rfl, HI.out.one, HM.out]
            rintro e w3 ⟨rfl, rfl⟩
            go_wp2_with fail
            go_ret
            exact ⟨rfl, HB'.out⟩
end Go.Proofs.Qxb6605305a.KS
