/-
  The contracts of skipSpace, advance, ZZSkipSpace and blanksAndComments.
-/
import Derived.Test.Qxb6605209aSkip
import Derived.Deep.QuietTactic
import Derived.BigQuiet
namespace Go.Proofs.Qxb6605209a.SK
open Go.ChangeShapes Go.WideShapes Go.ChangeAt Go.RowKit
open Go.Proofs.Qxb6605209a.EW
set_option linter.unusedVariables false

/-- A scanner lies at block S: its four fields; below S all is as it was in w. -/
structure Scan (w : World) (S : Nat) (a : Option Addr) (n c : Nat) (p l k : Int) (wr : World) : Prop where
  c0 : wr.cell? ⟨S, 0, none⟩ = some (.slice a n c)
  c1 : wr.cell? ⟨S, 1, none⟩ = some (.int .i64 p)
  c2 : wr.cell? ⟨S, 2, none⟩ = some (.int .i64 l)
  c3 : wr.cell? ⟨S, 3, none⟩ = some (.int .i64 k)
  f : ∀ i, wr.frozen? ⟨S, i, none⟩ = false
  below : Below S w wr

theorem Scan.drewN {w : World} {S : Nat} {a : Option Addr} {n c : Nat} {p l k : Int} {wr : World} (h : Scan w S a n c p l k wr) (m : Nat) : Scan w S a n c p l k (wr.drewN m) := by
  exact ⟨h.c0, h.c1, h.c2, h.c3, h.f, ⟨h.below.os, h.below.tape, h.below.output, h.below.size, h.below.block⟩⟩

theorem Scan.set1 {w : World} {S : Nat} {a : Option Addr} {n c : Nat} {p l k : Int} {wr : World} (h : Scan w S a n c p l k wr) (q : Int) : Scan w S a n c q l k (wr.setCell ⟨S, 1, none⟩ (.int .i64 q)) := by
  refine ⟨?_, World.cell?_setCell_same _ _ _ h.c1, ?_, ?_, fun i => ?_, h.below.setCell (Nat.le_refl _) _⟩
  · rw [World.cell?_setCell_other _ _ _ _ (by simp)]; exact h.c0
  · rw [World.cell?_setCell_other _ _ _ _ (by simp)]; exact h.c2
  · rw [World.cell?_setCell_other _ _ _ _ (by simp)]; exact h.c3
  · rw [World.frozen?_setCell]; exact h.f i

theorem Scan.set2 {w : World} {S : Nat} {a : Option Addr} {n c : Nat} {p l k : Int} {wr : World} (h : Scan w S a n c p l k wr) (q : Int) : Scan w S a n c p q k (wr.setCell ⟨S, 2, none⟩ (.int .i64 q)) := by
  refine ⟨?_, ?_, World.cell?_setCell_same _ _ _ h.c2, ?_, fun i => ?_, h.below.setCell (Nat.le_refl _) _⟩
  · rw [World.cell?_setCell_other _ _ _ _ (by simp)]; exact h.c0
  · rw [World.cell?_setCell_other _ _ _ _ (by simp)]; exact h.c1
  · rw [World.cell?_setCell_other _ _ _ _ (by simp)]; exact h.c3
  · rw [World.frozen?_setCell]; exact h.f i

theorem Scan.set3 {w : World} {S : Nat} {a : Option Addr} {n c : Nat} {p l k : Int} {wr : World} (h : Scan w S a n c p l k wr) (q : Int) : Scan w S a n c p l q (wr.setCell ⟨S, 3, none⟩ (.int .i64 q)) := by
  refine ⟨?_, ?_, ?_, World.cell?_setCell_same _ _ _ h.c3, fun i => ?_, h.below.setCell (Nat.le_refl _) _⟩
  · rw [World.cell?_setCell_other _ _ _ _ (by simp)]; exact h.c0
  · rw [World.cell?_setCell_other _ _ _ _ (by simp)]; exact h.c1
  · rw [World.cell?_setCell_other _ _ _ _ (by simp)]; exact h.c2
  · rw [World.frozen?_setCell]; exact h.f i

set_option maxHeartbeats 400000 in
theorem advance_any (w : World) (S : Nat) (a : Option Addr) (n c p : Nat) (l k : Int) (wr : World) (h : Scan w S a n c p l k wr) (hp : p < 1048577) :
    Calls Try.prog 35 #[.pointer (some ⟨S, 0, none⟩), .int .i64 1] wr fun e w' => e = .returned (.tuple #[]) ∧ Scan w S a n c ((p + 1 : Nat) : Int) l (wrap64 (k + 1)) w' := by
  have h1 := (h.set1 ((p : Int) + 1)).set3 (wrap64 (k + 1))
  have hc1 := h.c1
  have hc3 := h.c3
  have hf1 := h.f 1
  have hf3 := h.f 3
  go_enter Try.func35, Try.ntmps35
  go_wp2
  go_end0
  exact ⟨rfl, h1⟩

/-- The scanner's place, read off the world: for the loops' measure. -/
def posOf (S : Nat) (wr : World) : Nat := match wr.cell? ⟨S, 1, none⟩ with | some (.int _ q) => q.toNat | _ => 0

theorem Scan.pos {w : World} {S : Nat} {a : Option Addr} {n c p : Nat} {l k : Int} {wr : World} (h : Scan w S a n c p l k wr) : posOf S wr = p := by
  unfold posOf; rw [h.c1]; simp

/-- The skipping stands k bytes behind off, outside a comment (false) or inside one (true); it will end at q. -/
structure At (b : Bool) (w : World) (S : Nat) (a : Option Addr) (n c : Nat) (zs : List Int) (off : Nat) (line cl : Int) (q k : Nat) (wr : World) : Prop where
  le : off + k ≤ zs.length
  fin : fin b zs (off + k) = q
  scan : Scan w S a n c ((off + k : Nat) : Int) (lin zs off line k) (col zs off cl k) wr

/-- What skipSpace leaves. -/
def Skipped (w : World) (S : Nat) (a : Option Addr) (n c : Nat) (zs : List Int) (off : Nat) (line cl : Int) (e : Ending) (w' : World) : Prop :=
  e = .returned (.tuple #[]) ∧ ∃ k, off + k = SK.fin false zs off ∧ Scan w S a n c ((off + k : Nat) : Int) (lin zs off line k) (col zs off cl k) w'

theorem At.done {w : World} {S : Nat} {a : Option Addr} {n c : Nat} {zs : List Int} {off : Nat} {line cl : Int} {k p : Nat} {l0 k0 : Int} {W : World}
    (hf : SK.fin false zs (off + k) = SK.fin false zs off) (hp : off + k = p) (hl : lin zs off line k = l0) (hk : col zs off cl k = k0) (hs : Scan w S a n c p l0 k0 W) (he : SK.fin false zs p = p) :
    Skipped w S a n c zs off line cl (.returned (.tuple #[])) W := by
  subst hp; subst hl; subst hk
  exact ⟨rfl, k, by rw [← hf, he], hs⟩

/-- A line break is passed. -/
theorem At.nl {b : Bool} {w : World} {S : Nat} {a : Option Addr} {n c : Nat} {zs : List Int} {off : Nat} {line cl : Int} {q k p : Nat} {l0 : Int} {W wr : World}
    (h : At b w S a n c zs off line cl q k wr) (hp : off + k = p) (hl : lin zs off line k = l0) (hlt : p < zs.length) (hz : nth zs p = 10)
    (hs : Scan w S a n c ((p : Int) + 1) (wrap64 (l0 + 1)) 1 W) : At false w S a n c zs off line cl q (k + 1) W := by
  subst hp; subst hl
  refine ⟨by omega, ?_, ?_⟩
  · rw [← h.fin, fin_nl b zs (off + k) hlt hz]; rfl
  · rw [lin_nl zs off line k hz, col_nl zs off cl k hz]; exact hs

/-- A blank is passed. -/
theorem At.blank {w : World} {S : Nat} {a : Option Addr} {n c : Nat} {zs : List Int} {off : Nat} {line cl : Int} {q k p : Nat} {l0 k0 : Int} {W wr : World}
    (h : At false w S a n c zs off line cl q k wr) (hp : off + k = p) (hl : lin zs off line k = l0) (hk : col zs off cl k = k0) (hlt : p < zs.length) (hb : p ≤ 1048576) (hz : nth zs p = 32 ∨ nth zs p = 9 ∨ nth zs p = 13)
    (hs : Scan w S a n c ((p + 1 : Nat) : Int) l0 (wrap64 (k0 + 1)) W) : At false w S a n c zs off line cl q (k + 1) W := by
  subst hp; subst hl; subst hk
  have h10 : nth zs (off + k) ≠ 10 := by omega
  refine ⟨by omega, ?_, ?_⟩
  · rw [← h.fin, fin_blank zs (off + k) hlt hz]; rfl
  · rw [lin_other zs off line k h10, col_other zs off cl k h10 hb]; exact hs

/-- A comment's byte is passed. -/
theorem At.com {w : World} {S : Nat} {a : Option Addr} {n c : Nat} {zs : List Int} {off : Nat} {line cl : Int} {q k p : Nat} {l0 k0 : Int} {W wr : World}
    (h : At true w S a n c zs off line cl q k wr) (hp : off + k = p) (hl : lin zs off line k = l0) (hk : col zs off cl k = k0) (hlt : p < zs.length) (hb : p ≤ 1048576) (hz : nth zs p ≠ 10)
    (hs : Scan w S a n c ((p + 1 : Nat) : Int) l0 (wrap64 (k0 + 1)) W) : At true w S a n c zs off line cl q (k + 1) W := by
  subst hp; subst hl; subst hk
  refine ⟨by omega, ?_, ?_⟩
  · rw [← h.fin, fin_com zs (off + k) hlt hz]; rfl
  · rw [lin_other zs off line k hz, col_other zs off cl k hz hb]; exact hs

theorem At.drewN {b : Bool} {w : World} {S : Nat} {a : Option Addr} {n c : Nat} {zs : List Int} {off : Nat} {line cl : Int} {q k : Nat} {wr : World} (h : At b w S a n c zs off line cl q k wr) (m : Nat) : At b w S a n c zs off line cl q k (wr.drewN m) :=
  ⟨h.le, h.fin, h.scan.drewN m⟩

/-- A comment ends at the text's end or at a line break. -/
theorem At.close {w : World} {S : Nat} {a : Option Addr} {n c : Nat} {zs : List Int} {off : Nat} {line cl : Int} {q k : Nat} {wr W : World} {l0 k0 : Int} {p : Nat} (h : At true w S a n c zs off line cl q k wr) (hp : off + k = p) (hl : lin zs off line k = l0) (hk : col zs off cl k = k0)
    (he : p = zs.length ∨ (p < zs.length ∧ nth zs p = 10)) (hs : Scan w S a n c p l0 k0 W) : At false w S a n c zs off line cl q k W := by
  subst hp; subst hl; subst hk
  refine ⟨h.le, ?_, hs⟩
  rw [← h.fin]
  rcases he with he | ⟨h1, h2⟩
  · rw [fin_end _ _ _ (by omega), fin_end _ _ _ (by omega)]
  · rw [fin_nl _ _ _ h1 h2, fin_nl _ _ _ h1 h2]

/-- A comment begins. -/
theorem At.open {w : World} {S : Nat} {a : Option Addr} {n c : Nat} {zs : List Int} {off : Nat} {line cl : Int} {q k : Nat} {wr W : World} {l0 k0 : Int} {p : Nat} (h : At false w S a n c zs off line cl q k wr) (hp : off + k = p) (hl : lin zs off line k = l0) (hk : col zs off cl k = k0)
    (hlt : p + 1 < zs.length) (h1 : nth zs p = 47) (h2 : nth zs (p + 1) = 47) (hs : Scan w S a n c p l0 k0 W) : At true w S a n c zs off line cl q k W := by
  subst hp; subst hl; subst hk
  exact ⟨h.le, by rw [← h.fin, fin_slash _ _ hlt h1 h2], hs⟩

set_option maxRecDepth 8000 in
set_option maxHeartbeats 1000000 in
theorem skip_any (w : World) (S : Nat) (a : Option Addr) (n c : Nat) (zs : List Int) (HN : Hid (zs.length = n)) (off : Nat) (line cl : Int) (wr0 : World) (hn : n ≤ 1048576) (hoff : off ≤ n)
    (HR : Hid (Reads .u8 w a zs)) (hS : S = w.heap.size) (HA : Hid (At false w S a n c zs off line cl (SK.fin false zs off) 0 wr0)) :
    Calls Try.prog 31 #[.pointer (some ⟨S, 0, none⟩)] wr0 (Skipped w S a n c zs off line cl) := by
  have HS : Hid (S = w.heap.size) := hS
  clear hS
  go_enter Try.func31, Try.ntmps31
  go_wp2
  go_loopw [2] (fun _ wr => ∃ k : Nat, At false w S a n c zs off line cl (SK.fin false zs off) k wr) (fun _ wr => n - posOf S wr)
  case atStart => exact ⟨0, HA.out⟩
  case round =>
    obtain ⟨k, hA⟩ := hrel
    clear HA
    have HL := HN.out
    have hle := hA.le
    have hpos := hA.scan.pos
    have hs := hA.scan
    obtain ⟨p, hp⟩ : ∃ p, off + k = p := ⟨_, rfl⟩
    obtain ⟨l0, hl0⟩ : ∃ l0, lin zs off line k = l0 := ⟨_, rfl⟩
    obtain ⟨k0, hk0⟩ : ∃ k0, col zs off cl k = k0 := ⟨_, rfl⟩
    rw [hp] at hle hpos
    rw [hp, hl0, hk0] at hs
    have HP : Hid (off + k = p) := hp
    have HL0 : Hid (lin zs off line k = l0) := hl0
    have HK0 : Hid (col zs off cl k = k0) := hk0
    have HPos : Hid (posOf S wr = p) := hpos
    have hpn : p ≤ n := by omega
    have HAt : Hid (At false w S a n c zs off line cl (SK.fin false zs off) k wr) := hA
    clear hp hpos hle hA hl0 hk0
    have c0 := hs.c0
    have c1 := hs.c1
    by_cases hlt : p < n
    · obtain ⟨b, o, ha, hbl, hc⟩ := HR.out.at (i := p) (by omega)
      subst ha
      have hcz : ∀ W, Scan w S (some ⟨b, o, none⟩) n c p l0 k0 W → W.cell? ⟨b, o + p, none⟩ = some (.int .u8 (nth zs p)) := fun W h => (h.below.cell (by have := HS.out; show b < S; omega)).trans hc
      obtain ⟨z, hz⟩ : ∃ z, nth zs p = z := ⟨_, rfl⟩
      rw [hz] at hcz
      have HZ : Hid (nth zs p = z) := hz
      have HC : Hid (∀ W, Scan w S (some ⟨b, o, none⟩) n c p l0 k0 W → W.cell? ⟨b, o + p, none⟩ = some (.int .u8 z)) := hcz
      have HSc : Hid (Scan w S (some ⟨b, o, none⟩) n c p l0 k0 wr) := hs
      clear hz hc HL hs hcz
      have hlt' : (p : Int) < (n : Int) := by omega
      go_wp2
      go_quiet (fail)
      have hs1 := HSc.out.drewN nq
      clear c0 c1
      generalize wr.drewN nq = W1 at hs1 ⊢
      have c0 := hs1.c0
      have c1 := hs1.c1
      have cz := HC.out _ hs1
      have HS1 : Hid (Scan w S (some ⟨b, o, none⟩) n c p l0 k0 W1) := hs1
      clear hs1
      go_wp2
      go_quiet (fail)
      have hs2 := HS1.out.drewN nq
      clear c0 c1 cz
      generalize W1.drewN nq = W2 at hs2 ⊢
      have HS2 : Hid (Scan w S (some ⟨b, o, none⟩) n c p l0 k0 W2) := hs2
      by_cases z10 : z = 10
      · subst z10
        have c1 := hs2.c1
        have c2 := hs2.c2
        have f1 := hs2.f 1
        have f2 := hs2.f 2
        have f3 := hs2.f 3
        have hc3 := hs2.c3
        have h5 := ((hs2.set1 ((p : Int) + 1)).set2 (wrap64 (l0 + 1))).set3 1
        have h6 := HAt.out.nl HP.out HL0.out (by have := HN.out; omega) HZ.out h5
        have HM : Hid (posOf S _ = _) := h5.pos (p := p + 1)
        have H6 : Hid (At false w S (some ⟨b, o, none⟩) n c zs off line cl (SK.fin false zs off) (k + 1) _) := h6
        clear h5 h6 hs2
        go_wp2
        go_roundw
        case rel => exact ⟨k + 1, H6.out⟩
        case measure => rw [HM.out, HPos.out]; omega
      · clear hs2
        by_cases zb : z = 32 ∨ z = 9 ∨ z = 13
        · have HZB : Hid (nth zs p = 32 ∨ nth zs p = 9 ∨ nth zs p = 13) := by show _ ∨ _ ∨ _; rw [HZ.out]; exact zb
          rcases zb with rfl | rfl | rfl
          all_goals
            go_wp2_with (go_at_call 35; refine (advance_any w S _ n c p l0 k0 W2 HS2.out (by omega)).mono ?_; rintro e w' ⟨rfl, hs3⟩)
            go_roundw
            case rel => exact ⟨k + 1, HAt.out.blank HP.out HL0.out HK0.out (by have := HN.out; omega) (by omega) HZB.out hs3⟩
            case measure => rw [hs3.pos, HPos.out]; omega
        · have z32 : ¬ z = 32 := fun h => zb (.inl h)
          have z9 : ¬ z = 9 := fun h => zb (.inr (.inl h))
          have z13 : ¬ z = 13 := fun h => zb (.inr (.inr h))
          clear zb
          by_cases z47 : z = 47
          · subst z47
            by_cases hp1 : p + 1 < n
            · obtain ⟨b', o', ha', hbl', hc'⟩ := HR.out.at (i := p + 1) (by have := HN.out; omega)
              cases ha'
              obtain ⟨y, hy⟩ : ∃ y, nth zs (p + 1) = y := ⟨_, rfl⟩
              rw [hy] at hc'
              have cy : W2.cell? ⟨b, o + (p + 1), none⟩ = some (.int .u8 y) := (HS2.out.below.cell (by have := HS.out; show b < S; omega)).trans hc'
              have HY : Hid (nth zs (p + 1) = y) := hy
              clear hy hc' hbl'
              have c0 := HS2.out.c0
              have c1 := HS2.out.c1
              have cz := HC.out _ HS2.out
              have hp1' : (p : Int) + 1 < (n : Int) := by omega
              by_cases y47 : y = 47
              · subst y47
                have h5 := HAt.out.open HP.out HL0.out HK0.out (by have := HN.out; omega) HZ.out HY.out HS2.out
                have H5 : Hid (At true w S (some ⟨b, o, none⟩) n c zs off line cl (SK.fin false zs off) k W2) := h5
                clear h5
                go_wp2
                go_quiet (fail)
                have h6 := H5.out.drewN nq
                generalize W2.drewN nq = W3 at h6 ⊢
                have H6 : Hid (At true w S (some ⟨b, o, none⟩) n c zs off line cl (SK.fin false zs off) k W3) := h6
                clear h6 c0 c1 cz cy H5
                clear HS2 HSc HS1 HAt HL0 HK0 HC
                go_wp2
                go_loopw [86] (fun _ wi => ∃ j : Nat, k ≤ j ∧ At true w S (some ⟨b, o, none⟩) n c zs off line cl (SK.fin false zs off) j wi) (fun _ wi => n - posOf S wi)
                case atStart => exact ⟨k, Nat.le_refl _, H6.out⟩
                case round =>
                  obtain ⟨j, hkj, hA⟩ := hrel
                  clear H6
                  have HL := HN.out
                  have hle := hA.le
                  have hpos := hA.scan.pos
                  have hs := hA.scan
                  obtain ⟨p', hp⟩ : ∃ p', off + j = p' := ⟨_, rfl⟩
                  obtain ⟨l1, hl1⟩ : ∃ l1, lin zs off line j = l1 := ⟨_, rfl⟩
                  obtain ⟨k1, hk1⟩ : ∃ k1, col zs off cl j = k1 := ⟨_, rfl⟩
                  rw [hp] at hle hpos
                  rw [hp, hl1, hk1] at hs
                  have HP1 : Hid (off + j = p') := hp
                  have HL1 : Hid (lin zs off line j = l1) := hl1
                  have HK1 : Hid (col zs off cl j = k1) := hk1
                  have HPos1 : Hid (posOf S wr = p') := hpos
                  have hpn1 : p' ≤ n := by omega
                  have hpp : p ≤ p' := by have := HP.out; omega
                  have HA1 : Hid (At true w S (some ⟨b, o, none⟩) n c zs off line cl (SK.fin false zs off) j wr) := hA
                  have HS3 : Hid (Scan w S (some ⟨b, o, none⟩) n c p' l1 k1 wr) := hs
                  have c0 := hs.c0
                  have c1 := hs.c1
                  clear hp hpos hle hA hl1 hk1
                  by_cases hlt2 : p' < n
                  · obtain ⟨b', o', ha', hbl', hc'⟩ := HR.out.at (i := p') (by omega)
                    cases ha'
                    obtain ⟨y, hy⟩ : ∃ y, nth zs p' = y := ⟨_, rfl⟩
                    rw [hy] at hc'
                    have cy : wr.cell? ⟨b, o + p', none⟩ = some (.int .u8 y) := (hs.below.cell (by have := HS.out; show b < S; omega)).trans hc'
                    have HY' : Hid (nth zs p' = y) := hy
                    have hlt2' : (p' : Int) < (n : Int) := by omega
                    clear hy hc' hbl' hs HL
                    by_cases y10 : y = 10
                    · subst y10
                      have hne : p < p' := by
                        have h1 := HZ.out
                        have h2 := HY'.out
                        rcases Nat.lt_or_ge p p' with h | h
                        · exact h
                        · have : p = p' := by omega
                          rw [this] at h1; omega
                      go_wp2
                      go_quiet (fail)
                      have h7 := HA1.out.close HP1.out HL1.out HK1.out (.inr ⟨by have := HN.out; omega, HY'.out⟩) (HS3.out.drewN nq)
                      have h8 := (HS3.out.drewN nq).pos
                      generalize wr.drewN nq = W4 at h7 h8 ⊢
                      have H7 : Hid (At false w S (some ⟨b, o, none⟩) n c zs off line cl (SK.fin false zs off) j W4) := h7
                      have H8 : Hid (posOf S W4 = p') := h8
                      clear h7 h8
                      go_wp2
                      go_roundw
                      case rel => exact ⟨j, H7.out⟩
                      case measure => rw [H8.out, HPos.out]; omega
                    · have hyb : (y == 10) = false := by simpa using y10
                      have hyn : (y != 10) = true := by simpa using y10
                      go_wp2
                      go_quiet (fail)
                      have h7 := HS3.out.drewN nq
                      generalize wr.drewN nq = W4 at h7 ⊢
                      have H7 : Hid (Scan w S (some ⟨b, o, none⟩) n c p' l1 k1 W4) := h7
                      clear h7
                      go_wp2_with (go_at_call 35; refine (advance_any w S _ n c p' l1 k1 W4 H7.out (by omega)).mono ?_; rintro e w' ⟨rfl, hs3⟩)
                      go_roundw
                      case rel => exact ⟨j + 1, by omega, HA1.out.com HP1.out HL1.out HK1.out (by have := HN.out; omega) (by omega) (by rw [HY'.out]; exact y10) hs3⟩
                      case measure => rw [hs3.pos, HPos1.out]; omega
                  · have hd : decide ((p' : Int) < (n : Int)) = false := decide_eq_false (by omega)
                    have hpe : p' = zs.length := by omega
                    have HPE : Hid (p' = zs.length) := hpe
                    clear hs HL hpe
                    go_wp2
                    go_quiet (fail)
                    have h7 := HA1.out.close HP1.out HL1.out HK1.out (.inl HPE.out) (HS3.out.drewN nq)
                    have h8 := (HS3.out.drewN nq).pos
                    generalize wr.drewN nq = W4 at h7 h8 ⊢
                    have H7 : Hid (At false w S (some ⟨b, o, none⟩) n c zs off line cl (SK.fin false zs off) j W4) := h7
                    have H8 : Hid (posOf S W4 = p') := h8
                    clear h7 h8
                    go_wp2
                    go_roundw
                    case rel => exact ⟨j, H7.out⟩
                    case measure => rw [H8.out, HPos.out]; omega
              · have hq : SK.fin false zs p = p := fin_stop _ _ (by have := HN.out; omega) (by rw [HZ.out]; omega) (by rw [HZ.out]; omega) (by rw [HZ.out]; omega) (by rw [HZ.out]; omega) (by rintro ⟨_, _, h⟩; rw [HY.out] at h; exact y47 h)
                have HD : Hid (∀ m, Skipped w S _ n c zs off line cl (.returned (.tuple #[])) (W2.drewN m)) := fun m => At.done HAt.out.fin HP.out HL0.out HK0.out (HS2.out.drewN m) hq
                clear hq
                go_wp2
                go_quiet (fail)
                go_wp2
                go_end0
                exact HD.out _
            · have hd : decide ((p : Int) + 1 < (n : Int)) = false := decide_eq_false (by omega)
              have hq : SK.fin false zs p = p := fin_stop _ _ (by have := HN.out; omega) (by rw [HZ.out]; omega) (by rw [HZ.out]; omega) (by rw [HZ.out]; omega) (by rw [HZ.out]; omega) (by rintro ⟨_, h, _⟩; have := HN.out; omega)
              have HD : Hid (∀ m, Skipped w S _ n c zs off line cl (.returned (.tuple #[])) (W2.drewN m)) := fun m => At.done HAt.out.fin HP.out HL0.out HK0.out (HS2.out.drewN m) hq
              have c0 := HS2.out.c0
              have c1 := HS2.out.c1
              clear hq
              go_wp2
              go_quiet (fail)
              go_wp2
              go_end0
              exact HD.out _
          · have hd : (z == 47) = false := by simpa using z47
            have hd1 : (z == 10) = false := by simpa using z10
            have hd2 : (z == 32) = false := by simpa using z32
            have hd3 : (z == 9) = false := by simpa using z9
            have hd4 : (z == 13) = false := by simpa using z13
            have hq : SK.fin false zs p = p := fin_stop _ _ (by have := HN.out; omega) (by rw [HZ.out]; omega) (by rw [HZ.out]; omega) (by rw [HZ.out]; omega) (by rw [HZ.out]; omega) (by rintro ⟨h, _, _⟩; rw [HZ.out] at h; exact z47 h)
            have HD : Hid (∀ m, Skipped w S _ n c zs off line cl (.returned (.tuple #[])) (W2.drewN m)) := fun m => At.done HAt.out.fin HP.out HL0.out HK0.out (HS2.out.drewN m) hq
            clear hq
            go_wp2
            go_quiet (fail)
            go_wp2
            go_end0
            exact HD.out _
    · have hd : decide ((p : Int) < (n : Int)) = false := decide_eq_false (by omega)
      have hq : SK.fin false zs p = p := fin_end _ _ _ (by omega)
      have HD : Hid (∀ m, Skipped w S a n c zs off line cl (.returned (.tuple #[])) (wr.drewN m)) := fun m => At.done HAt.out.fin HP.out HL0.out HK0.out (hs.drewN m) hq
      clear HL hq hs
      go_wp2
      go_quiet (fail)
      go_wp2
      go_end0
      exact HD.out _
end Go.Proofs.Qxb6605209a.SK
