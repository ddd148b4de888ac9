/-
  The small functions over a frame; ZZIsNew; ZZAdd.
-/
import Derived.Test.Qxb6605305aIsNew
namespace Go.Proofs.Qxb6605305a.KS
open Go.ChangeShapes Go.WideShapes Go.ChangeAt Go.RowKit
set_option linter.unusedVariables false

/-- A frame's state: the keys of its items, and its key map (nil, or the set of a list of strings). -/
def St (B : Nat) (w : World) (F V : Nat) (ks : List ByteArray) (mo : Option (List ByteArray)) (wr : World) : Prop := ∃ r a cap, Fr B w F V r a ks.length cap ks wr ∧ KM B r mo wr

theorem St.below {B : Nat} {w : World} {F V : Nat} {ks : List ByteArray} {mo : Option (List ByteArray)} {wr : World} (h : St B w F V ks mo wr) : Below B w wr := by
  obtain ⟨r, a, cap, h, _⟩ := h; exact h.below

/-- The set that isNew looks in. -/
def cur (ks : List ByteArray) : Option (List ByteArray) → List ByteArray
  | none => ks
  | some S => S
/-- The key map behind isNew. -/
def nxt (ks : List ByteArray) (s : ByteArray) : Option (List ByteArray) → Option (List ByteArray)
  | none => if ks.length < 16 then none else some (if mem ks s then ks else ks ++ [s])
  | some S => some (if mem S s then S else S ++ [s])

/-- What isNew leaves. -/
def Asked (B : Nat) (w : World) (F V : Nat) (ks : List ByteArray) (mo : Option (List ByteArray)) (s : ByteArray) (e : Ending) (w' : World) : Prop :=
  e = .returned (.bool (!mem (cur ks mo) s)) ∧ St B w F V ks (nxt ks s mo) w'

theorem isNew_any (B : Nat) (w : World) (F V : Nat) (ks : List ByteArray) (mo : Option (List ByteArray)) (wr : World) (s : ByteArray) (h : St B w F V ks mo wr) (hs : s.size ≤ maxLen) (hks : ∀ x ∈ ks, x.size ≤ maxLen) (hl : ks.length ≤ 100000) (hm : ∀ S, mo = some S → S.length ≤ 100000) :
    Calls Try.prog 26 #[.pointer (some ⟨F, 0, none⟩), .string s] wr (Asked B w F V ks mo s) := by
  obtain ⟨r, a, cap, hF, hK⟩ := h
  match r, mo, hK with
  | none, none, _ =>
    by_cases hn : ks.length < 16
    · refine (isNew_few B w F V a _ cap ks wr s hF hn).mono ?_
      rintro e w' ⟨rfl, rfl⟩
      refine ⟨rfl, ?_⟩
      simp only [nxt, if_pos hn]
      exact ⟨none, a, cap, hF, trivial⟩
    · refine (isNew_many B w F V a _ cap ks wr s hF hn hs hks hl).mono ?_
      rintro e w' ⟨rfl, M, h1, h2, h3⟩
      refine ⟨rfl, ?_⟩
      simp only [nxt, if_neg hn]
      exact ⟨some M, a, cap, h1, h2, h3⟩
  | some M, some S, ⟨hM, hS⟩ =>
    refine (isNew_map B w F V M a _ cap ks wr s S hF hM hS hs (hm S rfl)).mono ?_
    rintro e w' ⟨rfl, M', h1, h2, h3⟩
    exact ⟨rfl, some M', a, cap, h1, h2, h3⟩

theorem zzIsNew_any (B : Nat) (w : World) (F V : Nat) (ks : List ByteArray) (mo : Option (List ByteArray)) (wr : World) (s : ByteArray) (h : St B w F V ks mo wr) (hs : s.size ≤ maxLen) (hks : ∀ x ∈ ks, x.size ≤ maxLen) (hl : ks.length ≤ 100000) (hm : ∀ S, mo = some S → S.length ≤ 100000) :
    Calls Try.prog 11 #[.pointer (some ⟨F, 0, none⟩), .string s] wr (Asked B w F V ks mo s) := by
  have HC : Hid (Calls Try.prog 26 #[.pointer (some ⟨F, 0, none⟩), .string s] wr (Asked B w F V ks mo s)) := isNew_any B w F V ks mo wr s h hs hks hl hm
  clear h hs hks hl hm
  go_enter Try.func11, Try.ntmps11
  go_wp2_with fail
  refine HC.out.mono ?_
  rintro e w' ⟨rfl, hst⟩
  have HS : Hid (St B w F V ks (nxt ks s mo) w') := hst
  clear hst HC
  go_wp2
  go_ret
  exact ⟨rfl, HS.out⟩

theorem itemsLen_any (B : Nat) (w : World) (F V : Nat) (ks : List ByteArray) (mo : Option (List ByteArray)) (wr : World) (h : St B w F V ks mo wr) :
    Calls Try.prog 12 #[.pointer (some ⟨F, 0, none⟩)] wr fun e w' => e = .returned (.int .i64 (ks.length : Nat)) ∧ w' = wr := by
  obtain ⟨r, a, cap, hF, _⟩ := h
  have c0 := hF.c0
  have c5 := hF.c5
  clear hF
  obtain ⟨n, hn⟩ : ∃ n, ks.length = n := ⟨_, rfl⟩
  rw [hn] at c5 ⊢
  clear hn
  go_enter Try.func12, Try.ntmps12
  go_wp2
  go_ret
  exact ⟨rfl, rfl⟩

theorem keysNil_any (B : Nat) (w : World) (F V : Nat) (ks : List ByteArray) (mo : Option (List ByteArray)) (wr : World) (h : St B w F V ks mo wr) :
    Calls Try.prog 15 #[.pointer (some ⟨F, 0, none⟩)] wr fun e w' => e = .returned (.bool mo.isNone) ∧ w' = wr := by
  obtain ⟨r, a, cap, hF, hK⟩ := h
  have c1 := hF.c1
  have q := q44
  have e : r.isNone = mo.isNone := by
    match r, mo, hK with
    | none, none, _ => rfl
    | some _, some _, _ => rfl
  have HE : Hid (r.isNone = mo.isNone) := e
  clear hF hK e
  go_enter Try.func15, Try.ntmps15
  go_wp2
  go_ret
  exact ⟨ret_bool HE.out, rfl⟩

theorem keysLen_any (B : Nat) (w : World) (F V : Nat) (ks S : List ByteArray) (wr : World) (h : St B w F V ks (some S) wr) :
    Calls Try.prog 17 #[.pointer (some ⟨F, 0, none⟩)] wr fun e w' => e = .returned (.int .i64 (cntL S S.length : Nat)) ∧ w' = wr := by
  obtain ⟨r, a, cap, hF, hK⟩ := h
  match r, hK with
  | some M, ⟨hM, hS⟩ =>
    have c1 := hF.c1
    have hlen := fun ty => hS.len ty
    obtain ⟨q, hq⟩ : ∃ q, cntL S S.length = q := ⟨_, rfl⟩
    rw [hq] at hlen ⊢
    clear hF hS hq
    go_enter Try.func17, Try.ntmps17
    go_wp2
    go_ret
    exact ⟨rfl, rfl⟩

theorem keysHas_any (B : Nat) (w : World) (F V : Nat) (ks S : List ByteArray) (wr : World) (s : ByteArray) (hs : s.size ≤ maxLen) (h : St B w F V ks (some S) wr) :
    Calls Try.prog 18 #[.pointer (some ⟨F, 0, none⟩), .string s] wr fun e w' => e = .returned (.bool (mem S s)) ∧ w' = wr := by
  obtain ⟨r, a, cap, hF, hK⟩ := h
  match r, hK with
  | some M, ⟨hM, hS⟩ =>
    have c1 := hF.c1
    have hlook := hS.look s hs
    clear hF hS
    go_enter Try.func18, Try.ntmps18
    go_wp2
    go_ret
    exact ⟨rfl, rfl⟩

theorem itemKey_any (B : Nat) (w : World) (F V : Nat) (ks : List ByteArray) (mo : Option (List ByteArray)) (wr : World) (i : Nat) (hi : i < ks.length) (hl : ks.length ≤ 100000) (h : St B w F V ks mo wr) :
    Calls Try.prog 13 #[.pointer (some ⟨F, 0, none⟩), .int .i64 i] wr fun e w' => e = .returned (.string (kth ks i)) ∧ w' = wr := by
  obtain ⟨r, a, cap, hF, _⟩ := h
  have c0 := hF.c0
  have c5 := hF.c5
  obtain ⟨g, p, ha, d1, d2⟩ := hF.item hi
  subst ha
  clear hF
  obtain ⟨n, hn⟩ : ∃ n, ks.length = n := ⟨_, rfl⟩
  rw [hn] at c5 hi hl
  clear hn
  obtain ⟨x, hx⟩ : ∃ x, kth ks i = x := ⟨_, rfl⟩
  rw [hx] at d2 ⊢
  clear hx
  have h0 : (0 : Int) ≤ (i : Int) := by omega
  have h1 : (i : Int) < (n : Int) := by omega
  go_enter Try.func13, Try.ntmps13
  go_wp2
  go_ret
  exact ⟨rfl, rfl⟩
end Go.Proofs.Qxb6605305a.KS
