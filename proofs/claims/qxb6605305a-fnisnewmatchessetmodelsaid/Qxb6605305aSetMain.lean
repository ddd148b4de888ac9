/-
  The walk of FnIsNewMatchesSetModel.
-/
import Derived.Test.Qxb6605305aSetLaw
namespace Go.Proofs.Qxb6605305a.KS
open Go.ChangeShapes Go.WideShapes Go.ChangeAt Go.RowKit
set_option linter.unusedVariables false

theorem KM.drewN {B : Nat} {r : Option Nat} {mo : Option (List ByteArray)} {wr : World} (h : KM B r mo wr) (m : Nat) : KM B r mo (wr.drewN m) := by
  match r, mo, h with
  | none, none, _ => trivial
  | some M, some S, ⟨h1, h2⟩ => exact ⟨h1, h2⟩
theorem St.drewN {B : Nat} {w : World} {F V : Nat} {ks : List ByteArray} {mo : Option (List ByteArray)} {wr : World} (h : St B w F V ks mo wr) (m : Nat) : St B w F V ks mo (wr.drewN m) := by
  obtain ⟨r, a, cap, h1, h2⟩ := h
  exact ⟨r, a, cap, h1.drewN m, h2.drewN m⟩

/-- The set behind isNew. -/
def grownSet (U : List ByteArray) (s : ByteArray) : List ByteArray := if mem U s then U else U ++ [s]

theorem grownSet_cnt (U : List ByteArray) (s : ByteArray) : cntL (grownSet U s) (grownSet U s).length = cntL U U.length + if mem U s then 0 else 1 := by
  unfold grownSet
  cases h : mem U s with
  | true => simp
  | false => simp only [Bool.false_eq_true, if_false]; rw [cntL_snoc, h]; simp

theorem grownSet_mem (U : List ByteArray) (s : ByteArray) : mem (grownSet U s) s = true := by
  unfold grownSet
  cases h : mem U s with
  | true => simpa using h
  | false => simp only [Bool.false_eq_true, if_false]; rw [mem_snoc, same_self, Bool.or_true]

theorem grownSet_old (U : List ByteArray) (s x : ByteArray) (h : x ∈ U) : mem (grownSet U s) x = true := by
  unfold grownSet
  have hx := (mem_iff U x).2 h
  cases mem U s with
  | true => simpa using hx
  | false => simp only [Bool.false_eq_true, if_false]; rw [mem_snoc, hx, Bool.true_or]

set_option maxRecDepth 8000 in
set_option maxHeartbeats 400000 in
/-- A list too long, or a key too long: true at once. -/
theorem law3_big (a : Option Addr) (n c : Nat) (S : List ByteArray) (HN : Hid (S.length = n)) (hm : Bool) (a1 : Option Addr) (n1 c1 : Nat) (T : List ByteArray) (HT : Hid (T.length = n1)) (s : ByteArray) (w : World) (HR : Hid (Reads w a S)) (HR1 : Hid (Reads w a1 T)) (hn : n ≤ maxLen) (hn1 : n1 ≤ maxLen) (hs : s.size ≤ maxLen)
    (h : ¬ (n ≤ 4096 ∧ n1 ≤ 4096 ∧ s.size ≤ 1048576)) :
    Calls Try.prog 3 #[.slice a n c, .bool hm, .slice a1 n1 c1, .string s] w fun e w' => e = .returned (.bool true) ∧ Below w.heap.size w w' := by
  have hB := bytes7 a n c S HN hm a1 n1 c1 T HT s w HR HR1 hn hn1
  unfold maxLen at hn hn1 hs
  have h3 : 4096 < n ∨ (n ≤ 4096 ∧ 4096 < n1) ∨ (n ≤ 4096 ∧ n1 ≤ 4096 ∧ 1048576 < s.size) := by omega
  clear h
  rcases h3 with h1 | ⟨h1, h2⟩ | ⟨h1, h2, h3⟩
  · have d1 : decide ((4096 : Int) < (n : Int)) = true := decide_eq_true (by omega)
    go_enter Try.func3, Try.ntmps3
    go_wp2_with fail
    refine hB.mono ?_
    rintro e w' ⟨⟨q, rfl⟩, rfl⟩
    clear hB
    cases q
    all_goals
      go_wp2_with fail
      go_ret
      exact ⟨rfl, Below.refl _ _⟩
  · have d1 : decide ((4096 : Int) < (n : Int)) = false := decide_eq_false (by omega)
    have d2 : decide ((4096 : Int) < (n1 : Int)) = true := decide_eq_true (by omega)
    go_enter Try.func3, Try.ntmps3
    go_wp2_with fail
    refine hB.mono ?_
    rintro e w' ⟨⟨q, rfl⟩, rfl⟩
    clear hB
    cases q
    all_goals
      go_wp2_with fail
      go_ret
      exact ⟨rfl, Below.refl _ _⟩
  · have d1 : decide ((4096 : Int) < (n : Int)) = false := decide_eq_false (by omega)
    have d2 : decide ((4096 : Int) < (n1 : Int)) = false := decide_eq_false (by omega)
    have d3 : decide ((1048576 : Int) < (s.size : Int)) = true := decide_eq_true (by omega)
    go_enter Try.func3, Try.ntmps3
    go_wp2_with fail
    refine hB.mono ?_
    rintro e w' ⟨⟨q, rfl⟩, rfl⟩
    clear hB
    cases q
    all_goals
      go_wp2_with fail
      go_ret
      exact ⟨rfl, Below.refl _ _⟩

set_option maxRecDepth 8000 in
set_option maxHeartbeats 2000000 in
theorem law3 (a : Option Addr) (n c : Nat) (S : List ByteArray) (HN : Hid (S.length = n)) (hm : Bool) (a1 : Option Addr) (n1 c1 : Nat) (T : List ByteArray) (HT : Hid (T.length = n1)) (s : ByteArray) (w : World) (HZ : Hid (a = none → S = [])) (HZ1 : Hid (a1 = none → T = [])) (HR : Hid (Reads w a S)) (HR1 : Hid (Reads w a1 T))
    (hn : n ≤ 4096) (hn1 : n1 ≤ 4096) (hs : s.size ≤ 1048576) (HW : Hid (∀ x ∈ S, x.size ≤ maxLen)) (HW1 : Hid (∀ x ∈ T, x.size ≤ maxLen)) :
    Calls Try.prog 3 #[.slice a n c, .bool hm, .slice a1 n1 c1, .string s] w fun e w' => e = .returned (.bool true) ∧ Below w.heap.size w w' := by
  have hB := bytes7 a n c S HN hm a1 n1 c1 T HT s w HR HR1 (by unfold maxLen; omega) (by unfold maxLen; omega)
  have d1 : decide ((4096 : Int) < (n : Int)) = false := decide_eq_false (by omega)
  have d2 : decide ((4096 : Int) < (n1 : Int)) = false := decide_eq_false (by omega)
  have d3 : decide ((1048576 : Int) < (s.size : Int)) = false := decide_eq_false (by omega)
  go_enter Try.func3, Try.ntmps3
  go_wp2_with fail
  refine hB.mono ?_
  rintro e w' ⟨⟨q, rfl⟩, rfl⟩
  clear hB
  cases q with
  | false =>
    go_wp2_with fail
    go_ret
    exact ⟨rfl, Below.refl _ _⟩
  | true =>
    go_wp2_with fail
    refine (weigh_any a n c S HN w' HR (by unfold maxLen; omega)).mono ?_
    rintro e w1 ⟨⟨t1, rfl⟩, rfl⟩
    go_wp2_with fail
    refine (weigh_any a1 n1 c1 T HT w1 HR1 (by unfold maxLen; omega)).mono ?_
    rintro e w2 ⟨⟨t2, rfl⟩, rfl⟩
    clear d1 d2 d3
    obtain ⟨t, ht⟩ : ∃ t, wrap64 (wrap64 (t1 + t2) + (s.size : Int)) = t := ⟨_, rfl⟩
    by_cases ht9 : 1048576 < t
    · have htd : decide (1048576 < t) = true := decide_eq_true ht9
      go_wp2_with fail
      go_ret
      exact ⟨rfl, Below.refl _ _⟩
    · have htd : decide (1048576 < t) = false := decide_eq_false ht9
      go_wp2_with fail
      clear htd ht9 ht
      refine (clone_any _ _ _ S HN.out _ HZ.out HR.out hn).mono ?_
      rintro e w3 ⟨a3, c3, rfl, hz3, hr3, hb3⟩
      have HR3 : Hid (Reads w3 a3 S) := hr3
      have HB3 : Hid (Below w2.heap.size w2 w3) := hb3
      have HRm : Hid (Reads w3 a1 T) := HR1.out.later hb3
      clear hz3 hr3 hb3 HR HZ HR1
      go_wp2_with fail
      refine (clone_any _ _ _ T HT.out _ HZ1.out HRm.out hn1).mono ?_
      rintro e w4 ⟨a4, c4, rfl, hz4, hr4, hb4⟩
      have HRS : Hid (Reads w4 a3 S) := HR3.out.later hb4
      have HRT : Hid (Reads w4 a4 T) := hr4
      have HB4 : Hid (Below w2.heap.size w2 w4) := HB3.out.trans (hb4.mono HB3.out.size)
      clear hz4 hr4 hb4 HR3 HB3 HRm HZ1
      go_wp2_with fail
      refine (new_any a3 n c3 S HN hm a4 n1 c4 T HT w4 HRS HRT hn hn1 HW1).mono ?_
      rintro e w5 ⟨F, V, rfl, hst5⟩
      have HS5 : Hid (St w4.heap.size w4 F V S (mof hm T) w5) := hst5
      clear hst5
      go_wp2_with fail
      refine (zzIsNew_any w4.heap.size w4 F V S (mof hm T) w5 s HS5.out (by unfold maxLen; omega) HW.out (by have := HN.out; omega) (by intro U hU; cases hm with | true => (injection hU with hU; subst hU; have := HT.out; omega) | false => cases hU)).mono ?_
      rintro e w6 ⟨he, hst6⟩
      obtain ⟨got, hgot⟩ : ∃ got, mem (cur S (mof hm T)) s = got := ⟨_, rfl⟩
      rw [hgot] at he
      subst he
      have HGot : Hid (mem (cur S (mof hm T)) s = got) := hgot
      have HS6 : Hid (St w4.heap.size w4 F V S (nxt S s (mof hm T)) w6) := hst6
      clear hst6 hgot HS5
      go_wp2_with fail
      refine (itemsLen_any _ _ _ _ S _ w6 HS6.out).mono ?_
      rw [HN.out]
      rintro e w7 ⟨rfl, rfl⟩
      go_wp2_with fail
      go_loopw [11] (fun i wr => ∃ k : Nat, i = .int .i64 k ∧ k ≤ n ∧ St w4.heap.size w4 F V S (nxt S s (mof hm T)) wr) (fun i _ => n - (intOf i).toNat)
      case atStart => exact ⟨0, rfl, Nat.zero_le _, HS6.out⟩
      case round =>
        obtain ⟨k, rfl, hk, hst⟩ := hrel
        clear HS6
        have HStk : Hid (St w4.heap.size w4 F V S (nxt S s (mof hm T)) wr) := hst
        have hbel := hst.below
        clear hst
        by_cases hlt : k < n
        · obtain ⟨b, off, ha, hbl, hc⟩ := HRS.out.at (i := k) (by have := HN.out; omega)
          subst ha
          obtain ⟨x, hx⟩ : ∃ x, kth S k = x := ⟨_, rfl⟩
          rw [hx] at hc
          have cx : wr.cell? ⟨b, off + k, none⟩ = some (.string x) := (hbel.cell (by exact hbl)).trans hc
          have HIt : Hid (∀ m, Calls Try.prog 13 #[.pointer (some ⟨F, 0, none⟩), .int .i64 k] (wr.drewN m) fun e w' => e = .returned (.string x) ∧ w' = wr.drewN m) := by
            intro m
            have h1 := itemKey_any w4.heap.size w4 F V S (nxt S s (mof hm T)) (wr.drewN m) k (by have := HN.out; omega) (by have := HN.out; omega) (HStk.out.drewN m)
            rw [hx] at h1
            exact h1
          have hk0 : (0 : Int) ≤ (k : Int) := by omega
          have hk1 : (k : Int) < (n : Int) := by omega
          clear hx hc hbel
          go_wp2
          go_quiet ((go_at_call 13; exact Calls.quiet_of_same (HIt.out _)))
          have hst' := HStk.out.drewN nq
          generalize wr.drewN nq = W8 at hst' ⊢
          have HSt8 : Hid (St w4.heap.size w4 F V S (nxt S s (mof hm T)) W8) := hst'
          clear hst' HIt cx
          go_wp2
          go_roundw
          case rel => exact ⟨k + 1, by go_num, by omega, HSt8.out⟩
          case measure => simp [intOf]; omega
        · have HBw : Hid (Below w2.heap.size w2 wr) := HB4.out.trans (hbel.mono HB4.out.size)
          have HRSw : Hid (Reads wr a3 S) := HRS.out.later hbel
          have HRTw : Hid (Reads wr a4 T) := HRT.out.later hbel
          clear HRS HRT hbel HB4
          cases hm with
          | false =>
            by_cases h16 : n < 16
            · have d16 : decide ((n : Int) < 16) = true := decide_eq_true (by omega)
              have HNil : Hid (St w4.heap.size w4 F V S none wr) := by
                have h1 := HStk.out
                have e : nxt S s (mof false T) = none := by simp only [nxt, mof]; rw [if_pos (by have := HN.out; omega)]
                rw [e] at h1; exact h1
              have HMe : Hid (mem (S.take n) s = got) := by
                show _ = _
                have h1 : S.take n = S := List.take_of_length_le (by have := HN.out; omega)
                rw [h1]; exact HGot.out
              clear HStk
              go_wp2_with fail
              refine (contains_any _ n _ S HN n s _ HRSw hn (Nat.le_refl _)).mono ?_
              rw [HMe.out]
              rintro e w8 ⟨rfl, rfl⟩
              cases got
              all_goals
                go_wp2_with fail
                refine (keysNil_any _ _ _ _ S none _ HNil.out).mono ?_
                rintro e w8 ⟨rfl, rfl⟩
                go_wp2_with fail
                go_ret
                exact ⟨by simp, HBw.out⟩
            · have d16 : decide ((n : Int) < 16) = false := decide_eq_false (by omega)
              have HSt : Hid (St w4.heap.size w4 F V S (some (grownSet S s)) wr) := by
                have h1 := HStk.out
                have e : nxt S s (mof false T) = some (grownSet S s) := by simp only [nxt, mof, grownSet]; rw [if_neg (by have := HN.out; omega)]
                rw [e] at h1; exact h1
              have HTake : Hid (S.take n = S) := List.take_of_length_le (by have := HN.out; omega)
              have HRu := HRSw
              have HWu := HW
              have HG2 : Hid (mem S s = got) := HGot.out
              clear HStk
              cases hmem : mem S s with
              | true =>
                have hgot : got = true := by rw [← HG2.out, hmem]
                subst hgot
                have HCn : Hid (cntL (grownSet S s) (grownSet S s).length = cntL S S.length + 0) := by show _ = _; rw [grownSet_cnt, hmem]; rfl
                obtain ⟨z, hz⟩ : ∃ z, cntL S S.length = z := ⟨_, rfl⟩
                have hzle : z ≤ 4096 := by have h1 := cntL_le S S.length; have h2 := HN.out; omega
                have HZ' : Hid (cntL S S.length = z) := hz
                clear hz
                go_wp2_with fail
                refine (contains_any _ n _ S HN n s _ HRu hn (Nat.le_refl _)).mono ?_
                rw [HTake.out, hmem]
                rintro e w8 ⟨rfl, rfl⟩
                go_wp2_with fail
                refine (keysNil_any _ _ _ _ S (some (grownSet S s)) _ HSt.out).mono ?_
                rintro e w8 ⟨rfl, rfl⟩
                go_wp2_with fail
                refine (count_any _ n _ S HN _ HRu hn).mono ?_
                rw [HZ'.out]
                rintro e w8 ⟨rfl, rfl⟩
                go_wp2_with fail
                refine (keysLen_any _ _ _ _ S (grownSet S s) _ HSt.out).mono ?_
                rw [HCn.out, HZ'.out]
                rintro e w8 ⟨rfl, rfl⟩
                go_wp2_with fail
                refine (keysHas_any _ _ _ _ S (grownSet S s) _ s (by unfold maxLen; omega) HSt.out).mono ?_
                rw [grownSet_mem]
                rintro e w8 ⟨rfl, rfl⟩
                go_wp2_with fail
                go_loop [15] (fun i => ∃ j : Nat, i = .int .i64 j ∧ j ≤ n) (fun i => n - (intOf i).toNat)
                case atStart => exact ⟨0, rfl, Nat.zero_le _⟩
                case round =>
                  obtain ⟨j, rfl, hj⟩ := hrel
                  by_cases hjlt : j < n
                  · obtain ⟨b, off, ha, hbl, hc⟩ := HRu.out.at (i := j) (by have := HN.out; omega)
                    first | subst ha | cases ha
                    obtain ⟨x, hx⟩ : ∃ x, kth S j = x := ⟨_, rfl⟩
                    rw [hx] at hc
                    have HXm : Hid (mem (grownSet S s) x = true) := by show _ = _; rw [← hx]; exact grownSet_old S s _ (kth_mem S j (by have := HN.out; omega))
                    have HXs : Hid (x.size ≤ maxLen) := by show _ ≤ _; rw [← hx]; exact HWu.out _ (kth_mem S j (by have := HN.out; omega))
                    clear hx
                    go_wp2_with fail
                    refine (keysHas_any _ _ _ _ S (grownSet S s) _ x HXs.out HSt.out).mono ?_
                    rw [HXm.out]
                    rintro e w9 ⟨rfl, rfl⟩
                    go_wp2_with fail
                    go_round
                    case rel => exact ⟨j + 1, by go_num, by omega⟩
                    case measure => simp [intOf]; omega
                  · go_wp2_with fail
                    go_ret
                    exact ⟨rfl, HBw.out⟩
              | false =>
                have hgot : got = false := by rw [← HG2.out, hmem]
                subst hgot
                have HCn : Hid (cntL (grownSet S s) (grownSet S s).length = cntL S S.length + 1) := by show _ = _; rw [grownSet_cnt, hmem]; rfl
                obtain ⟨z, hz⟩ : ∃ z, cntL S S.length = z := ⟨_, rfl⟩
                have hzle : z ≤ 4096 := by have h1 := cntL_le S S.length; have h2 := HN.out; omega
                have HZ' : Hid (cntL S S.length = z) := hz
                clear hz
                go_wp2_with fail
                refine (contains_any _ n _ S HN n s _ HRu hn (Nat.le_refl _)).mono ?_
                rw [HTake.out, hmem]
                rintro e w8 ⟨rfl, rfl⟩
                go_wp2_with fail
                refine (keysNil_any _ _ _ _ S (some (grownSet S s)) _ HSt.out).mono ?_
                rintro e w8 ⟨rfl, rfl⟩
                go_wp2_with fail
                refine (count_any _ n _ S HN _ HRu hn).mono ?_
                rw [HZ'.out]
                rintro e w8 ⟨rfl, rfl⟩
                go_wp2_with fail
                refine (keysLen_any _ _ _ _ S (grownSet S s) _ HSt.out).mono ?_
                rw [HCn.out, HZ'.out]
                rintro e w8 ⟨rfl, rfl⟩
                go_wp2_with fail
                refine (keysHas_any _ _ _ _ S (grownSet S s) _ s (by unfold maxLen; omega) HSt.out).mono ?_
                rw [grownSet_mem]
                rintro e w8 ⟨rfl, rfl⟩
                go_wp2_with fail
                go_loop [15] (fun i => ∃ j : Nat, i = .int .i64 j ∧ j ≤ n) (fun i => n - (intOf i).toNat)
                case atStart => exact ⟨0, rfl, Nat.zero_le _⟩
                case round =>
                  obtain ⟨j, rfl, hj⟩ := hrel
                  by_cases hjlt : j < n
                  · obtain ⟨b, off, ha, hbl, hc⟩ := HRu.out.at (i := j) (by have := HN.out; omega)
                    first | subst ha | cases ha
                    obtain ⟨x, hx⟩ : ∃ x, kth S j = x := ⟨_, rfl⟩
                    rw [hx] at hc
                    have HXm : Hid (mem (grownSet S s) x = true) := by show _ = _; rw [← hx]; exact grownSet_old S s _ (kth_mem S j (by have := HN.out; omega))
                    have HXs : Hid (x.size ≤ maxLen) := by show _ ≤ _; rw [← hx]; exact HWu.out _ (kth_mem S j (by have := HN.out; omega))
                    clear hx
                    go_wp2_with fail
                    refine (keysHas_any _ _ _ _ S (grownSet S s) _ x HXs.out HSt.out).mono ?_
                    rw [HXm.out]
                    rintro e w9 ⟨rfl, rfl⟩
                    go_wp2_with fail
                    go_round
                    case rel => exact ⟨j + 1, by go_num, by omega⟩
                    case measure => simp [intOf]; omega
                  · go_wp2_with fail
                    go_ret
                    exact ⟨rfl, HBw.out⟩
          | true =>
            have HSt : Hid (St w4.heap.size w4 F V S (some (grownSet T s)) wr) := HStk.out
            have HTake : Hid (T.take n1 = T) := List.take_of_length_le (by have := HT.out; omega)
            have HRu := HRTw
            have HWu := HW1
            have HG2 : Hid (mem T s = got) := HGot.out
            clear HStk
            cases hmem : mem T s with
            | true =>
              have hgot : got = true := by rw [← HG2.out, hmem]
              subst hgot
              have HCn : Hid (cntL (grownSet T s) (grownSet T s).length = cntL T T.length + 0) := by show _ = _; rw [grownSet_cnt, hmem]; rfl
              obtain ⟨z, hz⟩ : ∃ z, cntL T T.length = z := ⟨_, rfl⟩
              have hzle : z ≤ 4096 := by have h1 := cntL_le T T.length; have h2 := HT.out; omega
              have HZ' : Hid (cntL T T.length = z) := hz
              clear hz
              go_wp2_with fail
              refine (contains_any _ n1 _ T HT n1 s _ HRu hn1 (Nat.le_refl _)).mono ?_
              rw [HTake.out, hmem]
              rintro e w8 ⟨rfl, rfl⟩
              go_wp2_with fail
              refine (keysNil_any _ _ _ _ S (some (grownSet T s)) _ HSt.out).mono ?_
              rintro e w8 ⟨rfl, rfl⟩
              go_wp2_with fail
              refine (count_any _ n1 _ T HT _ HRu hn1).mono ?_
              rw [HZ'.out]
              rintro e w8 ⟨rfl, rfl⟩
              go_wp2_with fail
              refine (keysLen_any _ _ _ _ S (grownSet T s) _ HSt.out).mono ?_
              rw [HCn.out, HZ'.out]
              rintro e w8 ⟨rfl, rfl⟩
              go_wp2_with fail
              refine (keysHas_any _ _ _ _ S (grownSet T s) _ s (by unfold maxLen; omega) HSt.out).mono ?_
              rw [grownSet_mem]
              rintro e w8 ⟨rfl, rfl⟩
              go_wp2_with fail
              go_loop [15] (fun i => ∃ j : Nat, i = .int .i64 j ∧ j ≤ n1) (fun i => n1 - (intOf i).toNat)
              case atStart => exact ⟨0, rfl, Nat.zero_le _⟩
              case round =>
                obtain ⟨j, rfl, hj⟩ := hrel
                by_cases hjlt : j < n1
                · obtain ⟨b, off, ha, hbl, hc⟩ := HRu.out.at (i := j) (by have := HT.out; omega)
                  first | subst ha | cases ha
                  obtain ⟨x, hx⟩ : ∃ x, kth T j = x := ⟨_, rfl⟩
                  rw [hx] at hc
                  have HXm : Hid (mem (grownSet T s) x = true) := by show _ = _; rw [← hx]; exact grownSet_old T s _ (kth_mem T j (by have := HT.out; omega))
                  have HXs : Hid (x.size ≤ maxLen) := by show _ ≤ _; rw [← hx]; exact HWu.out _ (kth_mem T j (by have := HT.out; omega))
                  clear hx
                  go_wp2_with fail
                  refine (keysHas_any _ _ _ _ S (grownSet T s) _ x HXs.out HSt.out).mono ?_
                  rw [HXm.out]
                  rintro e w9 ⟨rfl, rfl⟩
                  go_wp2_with fail
                  go_round
                  case rel => exact ⟨j + 1, by go_num, by omega⟩
                  case measure => simp [intOf]; omega
                · go_wp2_with fail
                  go_ret
                  exact ⟨rfl, HBw.out⟩
            | false =>
              have hgot : got = false := by rw [← HG2.out, hmem]
              subst hgot
              have HCn : Hid (cntL (grownSet T s) (grownSet T s).length = cntL T T.length + 1) := by show _ = _; rw [grownSet_cnt, hmem]; rfl
              obtain ⟨z, hz⟩ : ∃ z, cntL T T.length = z := ⟨_, rfl⟩
              have hzle : z ≤ 4096 := by have h1 := cntL_le T T.length; have h2 := HT.out; omega
              have HZ' : Hid (cntL T T.length = z) := hz
              clear hz
              go_wp2_with fail
              refine (contains_any _ n1 _ T HT n1 s _ HRu hn1 (Nat.le_refl _)).mono ?_
              rw [HTake.out, hmem]
              rintro e w8 ⟨rfl, rfl⟩
              go_wp2_with fail
              refine (keysNil_any _ _ _ _ S (some (grownSet T s)) _ HSt.out).mono ?_
              rintro e w8 ⟨rfl, rfl⟩
              go_wp2_with fail
              refine (count_any _ n1 _ T HT _ HRu hn1).mono ?_
              rw [HZ'.out]
              rintro e w8 ⟨rfl, rfl⟩
              go_wp2_with fail
              refine (keysLen_any _ _ _ _ S (grownSet T s) _ HSt.out).mono ?_
              rw [HCn.out, HZ'.out]
              rintro e w8 ⟨rfl, rfl⟩
              go_wp2_with fail
              refine (keysHas_any _ _ _ _ S (grownSet T s) _ s (by unfold maxLen; omega) HSt.out).mono ?_
              rw [grownSet_mem]
              rintro e w8 ⟨rfl, rfl⟩
              go_wp2_with fail
              go_loop [15] (fun i => ∃ j : Nat, i = .int .i64 j ∧ j ≤ n1) (fun i => n1 - (intOf i).toNat)
              case atStart => exact ⟨0, rfl, Nat.zero_le _⟩
              case round =>
                obtain ⟨j, rfl, hj⟩ := hrel
                by_cases hjlt : j < n1
                · obtain ⟨b, off, ha, hbl, hc⟩ := HRu.out.at (i := j) (by have := HT.out; omega)
                  first | subst ha | cases ha
                  obtain ⟨x, hx⟩ : ∃ x, kth T j = x := ⟨_, rfl⟩
                  rw [hx] at hc
                  have HXm : Hid (mem (grownSet T s) x = true) := by show _ = _; rw [← hx]; exact grownSet_old T s _ (kth_mem T j (by have := HT.out; omega))
                  have HXs : Hid (x.size ≤ maxLen) := by show _ ≤ _; rw [← hx]; exact HWu.out _ (kth_mem T j (by have := HT.out; omega))
                  clear hx
                  go_wp2_with fail
                  refine (keysHas_any _ _ _ _ S (grownSet T s) _ x HXs.out HSt.out).mono ?_
                  rw [HXm.out]
                  rintro e w9 ⟨rfl, rfl⟩
                  go_wp2_with fail
                  go_round
                  case rel => exact ⟨j + 1, by go_num, by omega⟩
                  case measure => simp [intOf]; omega
                · go_wp2_with fail
                  go_ret
                  exact ⟨rfl, HBw.out⟩
end Go.Proofs.Qxb6605305a.KS
