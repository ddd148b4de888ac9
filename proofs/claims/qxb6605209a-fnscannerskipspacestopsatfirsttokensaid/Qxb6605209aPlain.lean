/-
  The plain mathematics of enum widths: no Go in sight.
-/
namespace Go.Proofs.Qxb6605209a.EW

/-- The largest number of a list, at least 0. -/
def big (zs : List Int) : Int := zs.foldl max 0

theorem foldl_max_eq (zs : List Int) (m : Int) : zs.foldl max m = max m (zs.foldl max 0) ∨ m < 0 := by
  by_cases hm : m < 0
  · exact .inr hm
  · refine .inl ?_
    induction zs generalizing m with
    | nil => simp; omega
    | cons x xs ih =>
      simp only [List.foldl_cons]
      rw [ih (max m x) (by omega), ih (max 0 x) (by omega)]
      omega

theorem big_nonneg (zs : List Int) : 0 ≤ big zs := by
  have := foldl_max_eq zs 0
  unfold big
  omega

theorem big_append (a b : List Int) : big (a ++ b) = max (big a) (big b) := by
  have h := foldl_max_eq b (big a)
  have h0 := big_nonneg a
  unfold big at *
  rw [List.foldl_append]
  omega

theorem big_snoc (a : List Int) (x : Int) : big (a ++ [x]) = max (big a) x := by
  unfold big; rw [List.foldl_append]; rfl

theorem le_big (zs : List Int) : ∀ x ∈ zs, x ≤ big zs := by
  induction zs with
  | nil => intro x hx; cases hx
  | cons y ys ih =>
    intro x hx
    have h := big_append [y] ys
    have hy : y ≤ big [y] := by unfold big; simp; omega
    simp only [List.singleton_append] at h
    rcases List.mem_cons.1 hx with rfl | hx
    · omega
    · have := ih x hx; omega

theorem big_mem (zs : List Int) : big zs = 0 ∨ big zs ∈ zs := by
  induction zs with
  | nil => exact .inl rfl
  | cons y ys ih =>
    have h := big_append [y] ys
    have hy : big [y] = max 0 y := rfl
    have hn := big_nonneg ys
    simp only [List.singleton_append] at h
    rw [h, hy]
    rcases ih with e | e
    · by_cases h0 : y ≤ 0
      · left; omega
      · right; rw [show max (max 0 y) (big ys) = y by omega]; exact List.mem_cons_self
    · by_cases h0 : y ≤ big ys
      · right; rw [show max (max 0 y) (big ys) = big ys by omega]; exact List.mem_cons_of_mem _ e
      · right; rw [show max (max 0 y) (big ys) = y by omega]; exact List.mem_cons_self

/-- The width of the largest number m. -/
def wid (m : Int) : Int := if m ≤ 255 then 1 else if m ≤ 65535 then 2 else if m ≤ 4294967295 then 4 else 8

theorem wid_cases (m : Int) : (wid m = 1 ∧ m ≤ 255) ∨ (wid m = 2 ∧ 255 < m ∧ m ≤ 65535) ∨ (wid m = 4 ∧ 65535 < m ∧ m ≤ 4294967295) ∨ (wid m = 8 ∧ 4294967295 < m) := by
  unfold wid
  split
  · exact .inl ⟨rfl, by omega⟩
  · split
    · exact .inr (.inl ⟨rfl, by omega, by omega⟩)
    · split
      · exact .inr (.inr (.inl ⟨rfl, by omega, by omega⟩))
      · exact .inr (.inr (.inr ⟨rfl, by omega⟩))

theorem wid_max (a b : Int) : wid (max a b) = max (wid a) (wid b) := by
  have ha := wid_cases a
  have hb := wid_cases b
  have hc := wid_cases (max a b)
  omega

/-- What fits in w bytes, w one of 1, 2, 4, 8. -/
def fitB (w : Int) (x : Int) : Bool := if w = 1 then decide (x < 256) else if w = 2 then decide (x < 65536) else if w = 4 then decide (x < 4294967296) else true

/-- 'needed' behind the numbers l at the width w. -/
def needB (w : Int) (l : List Int) : Bool := (w == 1) || l.any (fun x => !fitB (w / 2) x)

theorem needB_snoc (w : Int) (l : List Int) (x : Int) : needB w (l ++ [x]) = (needB w l || !fitB (w / 2) x) := by
  unfold needB; rw [List.any_append]; simp [Bool.or_assoc]

theorem fit_wid (zs : List Int) (x : Int) (hx : x ∈ zs) : fitB (wid (big zs)) x = true := by
  have := le_big zs x hx
  rcases wid_cases (big zs) with ⟨h, h'⟩ | ⟨h, h'⟩ | ⟨h, h'⟩ | ⟨h, h'⟩ <;> simp [h, fitB] <;> omega

theorem need_wid (zs : List Int) : needB (wid (big zs)) zs = true := by
  rcases wid_cases (big zs) with ⟨h, h'⟩ | ⟨h, h', _⟩ | ⟨h, h', _⟩ | ⟨h, h'⟩
  · simp [h, needB]
  all_goals
    rcases big_mem zs with e | e
    · omega
    · unfold needB
      rw [h, Bool.or_eq_true]
      refine .inr (List.any_eq_true.2 ⟨_, e, ?_⟩)
      simp [fitB]
      omega

theorem take_snoc (zs : List Int) (k : Nat) (h : k < zs.length) : zs.take (k + 1) = zs.take k ++ [zs.getD k 0] := by
  rw [List.take_succ_eq_append_getElem h, List.getD_eq_getElem?_getD, List.getElem?_eq_getElem h, Option.getD_some]

end Go.Proofs.Qxb6605209a.EW
