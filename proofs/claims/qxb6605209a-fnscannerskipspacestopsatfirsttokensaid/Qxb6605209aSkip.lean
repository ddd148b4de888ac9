/-
  The plain mathematics of skipSpace: no Go text in sight.
-/
import Derived.Test.Qxb6605209aBase
import Derived.IntWalk
namespace Go.Proofs.Qxb6605209a.SK
open Go.RowKit
open Go.Proofs.Qxb6605209a.EW (nth)

/-- How many bytes are skipped: outside a comment (false), inside one (true). -/
def sk : Bool → List Int → Nat
  | _, [] => 0
  | false, c :: r => if c = 10 ∨ c = 32 ∨ c = 9 ∨ c = 13 then 1 + sk false r else if c = 47 ∧ r.head? = some 47 then 1 + sk true r else 0
  | true, c :: r => if c = 10 then 1 + sk false r else 1 + sk true r

/-- Where the skipping ends that stands at p. -/
def fin (b : Bool) (zs : List Int) (p : Nat) : Nat := p + sk b (zs.drop p)

theorem drop_nth (zs : List Int) (p : Nat) (h : p < zs.length) : zs.drop p = nth zs p :: zs.drop (p + 1) := by
  rw [List.drop_eq_getElem_cons h]
  unfold nth
  rw [List.getD_eq_getElem?_getD, List.getElem?_eq_getElem h, Option.getD_some]

theorem head_nth (zs : List Int) (p : Nat) : (zs.drop p).head? = if p < zs.length then some (nth zs p) else none := by
  by_cases h : p < zs.length
  · rw [drop_nth zs p h, if_pos h]; rfl
  · rw [if_neg h, List.drop_eq_nil_of_le (by omega)]; rfl

theorem fin_end (b : Bool) (zs : List Int) (p : Nat) (h : zs.length ≤ p) : fin b zs p = p := by
  unfold fin; rw [List.drop_eq_nil_of_le h]; cases b <;> simp [sk]

theorem sk_le (b : Bool) (l : List Int) : sk b l ≤ l.length := by
  induction l generalizing b with
  | nil => cases b <;> simp [sk]
  | cons c r ih =>
    have h0 := ih false
    have h1 := ih true
    cases b <;> simp only [sk, List.length_cons]
    · split
      · omega
      · split <;> omega
    · split <;> omega

theorem fin_ge (b : Bool) (zs : List Int) (p : Nat) : p ≤ fin b zs p := by unfold fin; omega
theorem fin_le (b : Bool) (zs : List Int) (p : Nat) (h : p ≤ zs.length) : fin b zs p ≤ zs.length := by
  have := sk_le b (zs.drop p); unfold fin; simp at this; omega

theorem fin_nl (b : Bool) (zs : List Int) (p : Nat) (h : p < zs.length) (hc : nth zs p = 10) : fin b zs p = fin false zs (p + 1) := by
  unfold fin; rw [drop_nth zs p h, hc]; cases b <;> simp [sk] <;> omega

theorem fin_blank (zs : List Int) (p : Nat) (h : p < zs.length) (hc : nth zs p = 32 ∨ nth zs p = 9 ∨ nth zs p = 13) : fin false zs p = fin false zs (p + 1) := by
  unfold fin; rw [drop_nth zs p h]; simp only [sk]; rw [if_pos (by omega)]; omega

theorem fin_com (zs : List Int) (p : Nat) (h : p < zs.length) (hc : nth zs p ≠ 10) : fin true zs p = fin true zs (p + 1) := by
  unfold fin; rw [drop_nth zs p h]; simp only [sk]; rw [if_neg hc]; omega

theorem fin_slash (zs : List Int) (p : Nat) (h : p + 1 < zs.length) (hc : nth zs p = 47) (hd : nth zs (p + 1) = 47) : fin false zs p = fin true zs p := by
  rw [fin_com zs p (by omega) (by omega)]
  unfold fin; rw [drop_nth zs p (by omega)]; simp only [sk]
  rw [if_neg (by omega), if_pos ⟨hc, by rw [head_nth, if_pos h, hd]⟩]; omega

theorem fin_stop (zs : List Int) (p : Nat) (h : p < zs.length) (h1 : nth zs p ≠ 10) (h2 : nth zs p ≠ 32) (h3 : nth zs p ≠ 9) (h4 : nth zs p ≠ 13) (h5 : ¬ (nth zs p = 47 ∧ p + 1 < zs.length ∧ nth zs (p + 1) = 47)) : fin false zs p = p := by
  unfold fin; rw [drop_nth zs p h]; simp only [sk]
  rw [if_neg (by omega), if_neg]
  · rfl
  · rintro ⟨hc, hd⟩
    rw [head_nth] at hd
    by_cases hp : p + 1 < zs.length
    · rw [if_pos hp] at hd; exact h5 ⟨hc, hp, Option.some.inj hd⟩
    · rw [if_neg hp] at hd; cases hd

theorem fin_true_end (zs : List Int) (p : Nat) (h : p ≤ zs.length) (he : fin true zs p = p) : p = zs.length := by
  by_cases hp : p < zs.length
  · by_cases hc : nth zs p = 10
    · have := fin_nl true zs p hp hc; have := fin_ge false zs (p + 1); omega
    · have := fin_com zs p hp hc; have := fin_ge true zs (p + 1); omega
  · omega

theorem fin_run (zs : List Int) (p : Nat) (h : p < zs.length) (hr : p < fin false zs p) (h1 : nth zs p ≠ 10) (h2 : nth zs p ≠ 32) (h3 : nth zs p ≠ 9) (h4 : nth zs p ≠ 13) :
    nth zs p = 47 ∧ p + 1 < zs.length ∧ nth zs (p + 1) = 47 ∧ p + 2 ≤ fin false zs p ∧ fin false zs p = fin true zs (p + 2) := by
  by_cases h5 : nth zs p = 47 ∧ p + 1 < zs.length ∧ nth zs (p + 1) = 47
  · have e1 := fin_slash zs p h5.2.1 h5.1 h5.2.2
    have e2 := fin_com zs p h (by omega)
    have e3 := fin_com zs (p + 1) h5.2.1 (by omega)
    have e4 := fin_ge true zs (p + 1 + 1)
    exact ⟨h5.1, h5.2.1, h5.2.2, by omega, by rw [e1, e2, e3]⟩
  · have := fin_stop zs p h h1 h2 h3 h4 h5; omega

theorem sk_again (b : Bool) (l : List Int) : sk false (l.drop (sk b l)) = 0 := by
  induction l generalizing b with
  | nil => cases b <;> simp [sk]
  | cons c r ih =>
    have h0 := ih false
    have h1 := ih true
    cases b
    · by_cases hc : c = 10 ∨ c = 32 ∨ c = 9 ∨ c = 13
      · have e : sk false (c :: r) = sk false r + 1 := by simp only [sk]; rw [if_pos hc]; omega
        rw [e, List.drop_succ_cons]; exact h0
      · by_cases hd : c = 47 ∧ r.head? = some 47
        · have e : sk false (c :: r) = sk true r + 1 := by simp only [sk]; rw [if_neg hc, if_pos hd]; omega
          rw [e, List.drop_succ_cons]; exact h1
        · have e : sk false (c :: r) = 0 := by simp only [sk]; rw [if_neg hc, if_neg hd]
          rw [e, List.drop_zero]; exact e
    · by_cases hc : c = 10
      · have e : sk true (c :: r) = sk false r + 1 := by simp only [sk]; rw [if_pos hc]; omega
        rw [e, List.drop_succ_cons]; exact h0
      · have e : sk true (c :: r) = sk true r + 1 := by simp only [sk]; rw [if_neg hc]; omega
        rw [e, List.drop_succ_cons]; exact h1

/-- The skipping that has ended skips nothing more. -/
theorem fin_again (zs : List Int) (p : Nat) : fin false zs (fin false zs p) = fin false zs p := by
  have h := sk_again false (zs.drop p)
  rw [List.drop_drop] at h
  show fin false zs p + sk false (zs.drop (p + sk false (zs.drop p))) = _
  rw [h]; omega

/-- At the end of the skipping stands no blank, no line break, no comment. -/
theorem fin_token (zs : List Int) (q : Nat) (h : q < zs.length) (he : fin false zs q = q) :
    nth zs q ≠ 10 ∧ nth zs q ≠ 32 ∧ nth zs q ≠ 9 ∧ nth zs q ≠ 13 ∧ ¬ (nth zs q = 47 ∧ q + 1 < zs.length ∧ nth zs (q + 1) = 47) := by
  have g := fin_ge false zs (q + 1)
  refine ⟨fun e => ?_, fun e => ?_, fun e => ?_, fun e => ?_, fun e => ?_⟩
  · have := fin_nl false zs q h e; omega
  · have := fin_blank zs q h (.inl e); omega
  · have := fin_blank zs q h (.inr (.inl e)); omega
  · have := fin_blank zs q h (.inr (.inr e)); omega
  · have := fin_slash zs q e.2.1 e.1 e.2.2
    have := fin_true_end zs q (by omega) (by omega)
    omega

/-- Line breaks among the k bytes from off on. -/
def brk (zs : List Int) (off : Nat) : Nat → Nat
  | 0 => 0
  | k + 1 => brk zs off k + if nth zs (off + k) = 10 then 1 else 0

/-- The place of the last of them, or -1. -/
def lst (zs : List Int) (off : Nat) : Nat → Int
  | 0 => -1
  | k + 1 => if nth zs (off + k) = 10 then ((off + k : Nat) : Int) else lst zs off k

theorem brk_le (zs : List Int) (off k : Nat) : brk zs off k ≤ k := by
  induction k with
  | zero => simp [brk]
  | succ k ih => simp only [brk]; split <;> omega

theorem lst_bd (zs : List Int) (off k : Nat) : -1 ≤ lst zs off k ∧ lst zs off k < ((off + k : Nat) : Int) ∧ (0 ≤ lst zs off k → (off : Int) ≤ lst zs off k) := by
  induction k with
  | zero => simp [lst]; omega
  | succ k ih =>
    simp only [lst]
    split <;> omega

/-- The line behind k bytes. -/
def lin (zs : List Int) (off : Nat) (line : Int) (k : Nat) : Int := wrap64 (line + (brk zs off k : Int))
/-- The column behind k bytes. -/
def col (zs : List Int) (off : Nat) (c : Int) (k : Nat) : Int := if lst zs off k < 0 then wrap64 (c + (k : Int)) else ((off + k : Nat) : Int) - lst zs off k

theorem wrap_in (n : Int) (h : -9223372036854775808 ≤ n ∧ n ≤ 9223372036854775807) : wrap64 n = n := by unfold wrap64; omega
theorem wrap_add (x y : Int) : wrap64 (wrap64 x + y) = wrap64 (x + y) := by unfold wrap64; omega

theorem lin_nl (zs : List Int) (off : Nat) (line : Int) (k : Nat) (h : nth zs (off + k) = 10) : lin zs off line (k + 1) = wrap64 (lin zs off line k + 1) := by
  unfold lin; rw [wrap_add]; simp only [brk]; rw [if_pos h]; congr 1; omega
theorem lin_other (zs : List Int) (off : Nat) (line : Int) (k : Nat) (h : nth zs (off + k) ≠ 10) : lin zs off line (k + 1) = lin zs off line k := by
  unfold lin; simp only [brk]; rw [if_neg h]; rfl
theorem lst_nl (zs : List Int) (off k : Nat) (h : nth zs (off + k) = 10) : lst zs off (k + 1) = ((off + k : Nat) : Int) := by simp only [lst]; rw [if_pos h]
theorem lst_other (zs : List Int) (off k : Nat) (h : nth zs (off + k) ≠ 10) : lst zs off (k + 1) = lst zs off k := by simp only [lst]; rw [if_neg h]
theorem brk_nl (zs : List Int) (off k : Nat) (h : nth zs (off + k) = 10) : brk zs off (k + 1) = brk zs off k + 1 := by simp only [brk]; rw [if_pos h]
theorem brk_other (zs : List Int) (off k : Nat) (h : nth zs (off + k) ≠ 10) : brk zs off (k + 1) = brk zs off k := by simp only [brk]; rw [if_neg h]; rfl
theorem col_nl (zs : List Int) (off : Nat) (c : Int) (k : Nat) (h : nth zs (off + k) = 10) : col zs off c (k + 1) = 1 := by
  unfold col; rw [lst_nl zs off k h, if_neg (by omega)]; omega
theorem col_other (zs : List Int) (off : Nat) (c : Int) (k : Nat) (h : nth zs (off + k) ≠ 10) (hb : off + k ≤ 1048576) : col zs off c (k + 1) = wrap64 (col zs off c k + 1) := by
  unfold col
  have hl := lst_bd zs off k
  rw [lst_other zs off k h]
  by_cases hlt : lst zs off k < 0
  · rw [if_pos hlt, if_pos hlt, wrap_add]; congr 1; omega
  · rw [if_neg hlt, if_neg hlt, wrap_in _ (by omega)]; omega

end Go.Proofs.Qxb6605209a.SK
