/-
  The walk of FnJoinCommutativeIdempotent.
-/
import Derived.Test.Qxb6603851aRows
import Derived.WalkKit
import Derived.WalkSpells
import Derived.ProofKit
import Derived.Below
import Derived.Deep.QuietTactic
import Derived.BigQuiet
namespace Go.Proofs.Qxb6603851a.JN
open Go.ChangeShapes Go.WideShapes Go.ChangeAt Go.RowKit
set_option linter.unusedVariables false

/-- The three fields of a join. -/
def jR (sR oR : Bool) : Bool := sR || oR
def jC (sR sC oR oC : Bool) : Bool := if sR = false then oC else if oR = false then sC else sC || oC
def jK (sR : Bool) (sK : Int) (oR : Bool) (oK : Int) : Int := if sR = false then oK else if oR = false then sK else if sK = -1 then oK else if oK ≠ -1 ∧ oK ≠ sK then -2 else sK

/-- What join leaves. -/
def Joined (w : World) (r c : Bool) (k : Int) (e : Ending) (w' : World) : Prop := e = .returned (.agg #[.bool r, .bool c, .int .i64 k]) ∧ Grown w w'

set_option maxHeartbeats 400000 in
theorem join_un (sC : Bool) (sK : Int) (oR oC : Bool) (oK : Int) (w : World) :
    Calls Try.prog 18 #[.agg #[.bool false, .bool sC, .int .i64 sK], .agg #[.bool oR, .bool oC, .int .i64 oK]] w (Joined w oR oC oK) := by
  go_enter Try.func18, Try.ntmps18
  go_wp2
  exact bodyPost_ret (v := .agg #[.bool oR, .bool oC, .int .i64 oK]) (by simp [results, Try.results18, go_sem]) rfl ⟨rfl, (((Grown.refl _).alloc _ _).alloc _ _).alloc _ _⟩

set_option maxHeartbeats 400000 in
theorem join_only (sC : Bool) (sK : Int) (oC : Bool) (oK : Int) (w : World) :
    Calls Try.prog 18 #[.agg #[.bool true, .bool sC, .int .i64 sK], .agg #[.bool false, .bool oC, .int .i64 oK]] w (Joined w true sC sK) := by
  go_enter Try.func18, Try.ntmps18
  go_wp2
  exact bodyPost_ret (v := .agg #[.bool true, .bool sC, .int .i64 sK]) (by simp [results, Try.results18, go_sem]) rfl ⟨rfl, (((Grown.refl _).alloc _ _).alloc _ _).alloc _ _⟩

set_option maxHeartbeats 1000000 in
theorem join_both (sC : Bool) (sK : Int) (oC : Bool) (oK : Int) (w : World) :
    Calls Try.prog 18 #[.agg #[.bool true, .bool sC, .int .i64 sK], .agg #[.bool true, .bool oC, .int .i64 oK]] w (Joined w true (sC || oC) (jK true sK true oK)) := by
  by_cases h1 : sK = -1
  · have e : jK true sK true oK = oK := by simp [jK, h1]
    rw [e]
    have b1 : (sK == -1) = true := by simpa using h1
    clear e h1
    cases sC
    all_goals
      go_enter Try.func18, Try.ntmps18
      go_wp2
      refine bodyPost_ret (v := .agg #[.bool true, .bool _, .int .i64 oK]) (by simp [results, Try.results18, go_sem]) rfl ⟨rfl, ?_⟩
      repeat (first | exact Grown.refl _ | apply Grown.alloc | apply Grown.drew)
  · have b1 : (sK == -1) = false := by simpa using h1
    by_cases h2 : oK = -1
    · have e : jK true sK true oK = sK := by simp [jK, h1, h2]
      rw [e]
      have b2 : (oK != -1) = false := by simpa using h2
      clear e h1 h2
      cases sC
      all_goals
        go_enter Try.func18, Try.ntmps18
        go_wp2
        refine bodyPost_ret (v := .agg #[.bool true, .bool _, .int .i64 sK]) (by simp [results, Try.results18, go_sem]) rfl ⟨rfl, ?_⟩
        repeat (first | exact Grown.refl _ | apply Grown.alloc | apply Grown.drew)
    · have b2 : (oK != -1) = true := by simpa using h2
      by_cases h3 : oK = sK
      · have e : jK true sK true oK = sK := by simp [jK, h1, h3]
        rw [e]
        have b3 : (oK != sK) = false := by simpa using h3
        clear e h1 h2 h3
        cases sC
        all_goals
          go_enter Try.func18, Try.ntmps18
          go_wp2
          refine bodyPost_ret (v := .agg #[.bool true, .bool _, .int .i64 sK]) (by simp [results, Try.results18, go_sem]) rfl ⟨rfl, ?_⟩
          repeat (first | exact Grown.refl _ | apply Grown.alloc | apply Grown.drew)
      · have e : jK true sK true oK = -2 := by simp [jK, h1, h2, h3]
        rw [e]
        have b3 : (oK != sK) = true := by simpa using h3
        clear e h1 h2 h3
        cases sC
        all_goals
          go_enter Try.func18, Try.ntmps18
          go_wp2
          refine bodyPost_ret (v := .agg #[.bool true, .bool _, .int .i64 (-2)]) (by simp [results, Try.results18, go_sem]) rfl ⟨rfl, ?_⟩
          repeat (first | exact Grown.refl _ | apply Grown.alloc | apply Grown.drew)

theorem join_any (sR sC : Bool) (sK : Int) (oR oC : Bool) (oK : Int) (w : World) :
    Calls Try.prog 18 #[.agg #[.bool sR, .bool sC, .int .i64 sK], .agg #[.bool oR, .bool oC, .int .i64 oK]] w (Joined w (jR sR oR) (jC sR sC oR oC) (jK sR sK oR oK)) := by
  cases sR
  · exact join_un sC sK oR oC oK w
  · cases oR
    · exact join_only sC sK oC oK w
    · exact join_both sC sK oC oK w

/-- What ZZJoin leaves. -/
def Triple (w : World) (r c : Bool) (k : Int) (e : Ending) (w' : World) : Prop := e = .returned (.tuple #[.bool r, .bool c, .int .i64 k]) ∧ Grown w w'

theorem Grown.trans' {a b c : World} (h : Grown a b) (k : Grown b c) : Grown a c := by
  refine ⟨World.keptBut_trans h.1 k.1, fun x => (k.2.1 x).trans (h.2.1 x), Nat.le_trans h.2.2 k.2.2⟩

set_option maxHeartbeats 400000 in
theorem zzJoin_any (sR sC : Bool) (sK : Int) (oR oC : Bool) (oK : Int) (w : World) :
    Calls Try.prog 14 #[.bool sR, .bool sC, .int .i64 sK, .bool oR, .bool oC, .int .i64 oK] w (Triple w (jR sR oR) (jC sR sC oR oC) (jK sR sK oR oK)) := by
  obtain ⟨r, hr⟩ : ∃ r, jR sR oR = r := ⟨_, rfl⟩
  obtain ⟨c, hc⟩ : ∃ c, jC sR sC oR oC = c := ⟨_, rfl⟩
  obtain ⟨k, hk⟩ : ∃ k, jK sR sK oR oK = k := ⟨_, rfl⟩
  have hj := join_any sR sC sK oR oC oK w
  rw [hr, hc, hk] at hj ⊢
  have HJ : Hid (Calls Try.prog 18 #[.agg #[.bool sR, .bool sC, .int .i64 sK], .agg #[.bool oR, .bool oC, .int .i64 oK]] w (Joined w r c k)) := hj
  clear hj hr hc hk
  go_enter Try.func14, Try.ntmps14
  go_wp2_with fail
  refine HJ.out.mono ?_
  rintro e w1 ⟨rfl, hg⟩
  have HG : Hid (Grown w w1) := hg
  clear hg HJ
  go_wp2
  go_quiet (fail)
  go_wp2
  go_ret3
  exact ⟨rfl, HG.out.alloc _ _⟩

theorem jK_self (r : Bool) (k : Int) : jK r k r k = k := by
  unfold jK
  cases r
  · simp
  · by_cases h : k = -1 <;> simp [h]
theorem jC_self (r c : Bool) : jC r c r c = c := by cases r <;> cases c <;> rfl
theorem jR_self (r : Bool) : jR r r = r := by cases r <;> rfl
theorem jR_comm (a b : Bool) : jR a b = jR b a := by cases a <;> cases b <;> rfl
theorem jC_comm (a c b d : Bool) (h : jR a b = true) : jC a c b d = jC b d a c := by cases a <;> cases b <;> cases c <;> cases d <;> first | rfl | cases h
theorem jK_comm (a : Bool) (k : Int) (b : Bool) (l : Int) (h : jR a b = true) : jK a k b l = jK b l a k := by
  unfold jK
  cases a <;> cases b
  · cases h
  · simp
  · simp
  · simp only [Bool.true_eq_false, if_false]
    by_cases h1 : k = -1
    · by_cases h2 : l = -1
      · simp [h1, h2]
      · simp [h1, h2]
    · by_cases h2 : l = -1
      · simp [h1, h2]
      · by_cases h3 : l = k
        · simp [h1, h3]
        · have h4 : ¬ k = l := fun e => h3 e.symm
          simp [h1, h2, h3, h4]

set_option maxRecDepth 8000 in
set_option maxHeartbeats 1000000 in
theorem law4 (sR sC : Bool) (sK : Int) (oR oC : Bool) (oK : Int) (w : World) :
    Calls Try.prog 4 #[.bool sR, .bool sC, .int .i64 sK, .bool oR, .bool oC, .int .i64 oK] w fun e w' => e = .returned (.bool true) ∧ Grown w w' := by
  have h1 := fun w => zzJoin_any sR sC sK sR sC sK w
  have h2 := fun w => zzJoin_any sR sC sK oR oC oK w
  have h3 := fun w => zzJoin_any oR oC oK sR sC sK w
  rw [jR_self, jC_self, jK_self] at h1
  cases hR : jR sR oR with
  | false =>
    have hs : sR = false := by cases sR <;> cases oR <;> first | rfl | cases hR
    have ho : oR = false := by cases sR <;> cases oR <;> first | rfl | cases hR
    subst hs; subst ho
    obtain ⟨c2, e2⟩ : ∃ c2, jC false sC false oC = c2 := ⟨_, rfl⟩
    obtain ⟨k2, f2⟩ : ∃ k2, jK false sK false oK = k2 := ⟨_, rfl⟩
    obtain ⟨c3, e3⟩ : ∃ c3, jC false oC false sC = c3 := ⟨_, rfl⟩
    obtain ⟨k3, f3⟩ : ∃ k3, jK false oK false sK = k3 := ⟨_, rfl⟩
    rw [hR, e2, f2] at h2
    rw [hR, e3, f3] at h3
    clear e2 f2 e3 f3 hR
    have H1 : Hid (∀ w, Calls Try.prog 14 #[.bool false, .bool sC, .int .i64 sK, .bool false, .bool sC, .int .i64 sK] w (Triple w false sC sK)) := h1
    have H2 : Hid (∀ w, Calls Try.prog 14 #[.bool false, .bool sC, .int .i64 sK, .bool false, .bool oC, .int .i64 oK] w (Triple w false c2 k2)) := h2
    have H3 : Hid (∀ w, Calls Try.prog 14 #[.bool false, .bool oC, .int .i64 oK, .bool false, .bool sC, .int .i64 sK] w (Triple w false c3 k3)) := h3
    clear h1 h2 h3
    go_enter Try.func4, Try.ntmps4
    go_wp2_with fail
    refine (H1.out _).mono ?_
    rintro e w1 ⟨rfl, g1⟩
    have G1 : Hid (Grown w w1) := g1
    clear g1
    go_wp2_with fail
    refine (H2.out _).mono ?_
    rintro e w2 ⟨rfl, g2⟩
    have G2 : Hid (Grown w w2) := Grown.trans' G1.out g2
    clear g2 G1
    go_wp2_with fail
    refine (H3.out _).mono ?_
    rintro e w3 ⟨rfl, g3⟩
    have G3 : Hid (Grown w w3) := Grown.trans' G2.out g3
    clear g3 G2
    go_wp2
    go_ret
    exact ⟨rfl, G3.out⟩
  | true =>
    have hR' : jR oR sR = true := by rw [jR_comm]; exact hR
    have hs : sR = true ∨ (sR = false ∧ oR = true) := by cases sR <;> cases oR <;> first | (left; rfl) | (right; exact ⟨rfl, rfl⟩) | cases hR
    rw [jC_comm oR oC sR sC hR', jK_comm oR oK sR sK hR', hR'] at h3
    obtain ⟨c2, e2⟩ : ∃ c2, jC sR sC oR oC = c2 := ⟨_, rfl⟩
    obtain ⟨k2, f2⟩ : ∃ k2, jK sR sK oR oK = k2 := ⟨_, rfl⟩
    rw [hR, e2, f2] at h2
    rw [e2, f2] at h3
    clear e2 f2 hR hR'
    have H1 : Hid (∀ w, Calls Try.prog 14 #[.bool sR, .bool sC, .int .i64 sK, .bool sR, .bool sC, .int .i64 sK] w (Triple w sR sC sK)) := h1
    have H2 : Hid (∀ w, Calls Try.prog 14 #[.bool sR, .bool sC, .int .i64 sK, .bool oR, .bool oC, .int .i64 oK] w (Triple w true c2 k2)) := h2
    have H3 : Hid (∀ w, Calls Try.prog 14 #[.bool oR, .bool oC, .int .i64 oK, .bool sR, .bool sC, .int .i64 sK] w (Triple w true c2 k2)) := h3
    clear h1 h2 h3
    rcases hs with rfl | ⟨rfl, rfl⟩
    all_goals
      go_enter Try.func4, Try.ntmps4
      go_wp2_with fail
      refine (H1.out _).mono ?_
      rintro e w1 ⟨rfl, g1⟩
      have G1 : Hid (Grown w w1) := g1
      clear g1
      go_wp2_with fail
      refine (H2.out _).mono ?_
      rintro e w2 ⟨rfl, g2⟩
      have G2 : Hid (Grown w w2) := Grown.trans' G1.out g2
      clear g2 G1
      go_wp2_with fail
      refine (H3.out _).mono ?_
      rintro e w3 ⟨rfl, g3⟩
      have G3 : Hid (Grown w w3) := Grown.trans' G2.out g3
      clear g3 G2
      go_wp2
      go_ret
      exact ⟨by simp, G3.out⟩
end Go.Proofs.Qxb6603851a.JN
