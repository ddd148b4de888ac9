/-
  The walk of ZZNewFrame.
-/
import Derived.Test.Qxb6605305aNew
namespace Go.Proofs.Qxb6605305a.KS
open Go.ChangeShapes Go.WideShapes Go.ChangeAt Go.RowKit
set_option linter.unusedVariables false

/-- The key map that ZZNewFrame is asked for. -/
def mof (hm : Bool) (T : List ByteArray) : Option (List ByteArray) := match hm with | true => some T | false => none

/-- Behind k rounds of the first loop. -/
def Vk (w : World) (ks : List ByteArray) (k : Nat) (wr : World) : Prop := ∃ a cap, Vl w.heap.size w w.heap.size a k cap (ks.take k) wr

set_option maxRecDepth 100000 in
set_option maxHeartbeats 3200000 in
theorem new_any (a0 : Option Addr) (n0 c0 : Nat) (ks : List ByteArray) (HN : Hid (ks.length = n0)) (hm : Bool) (a1 : Option Addr) (n1 c1 : Nat) (T : List ByteArray) (HT : Hid (T.length = n1)) (w : World) (HR0 : Hid (Reads w a0 ks)) (HR1 : Hid (Reads w a1 T))
    (hn0 : n0 ≤ 4096) (hn1 : n1 ≤ 4096) (HW1 : Hid (∀ s ∈ T, s.size ≤ maxLen)) :
    Calls Try.prog 10 #[.slice a0 n0 c0, .bool hm, .slice a1 n1 c1] w (Framed w ks (mof hm T)) := by
  obtain ⟨i0, hi0, hz0, hz1, hz2⟩ := info_parts Try.info39
  have hfresh := Vl.fresh w (.pointer none) (.string { data := #[] }) (.int .i64 5) (.string { data := #[] }) (.bool false)
  have hmk := fun w' n => run_makeMap_hint w' n
  go_enter Try.func10, Try.ntmps10
  go_wp2
  go_loopw [8] (fun i wr => ∃ k : Nat, i = .int .i64 k ∧ k ≤ n0 ∧ Vk w ks k wr) (fun i _ => n0 - (intOf i).toNat)
  case atStart => exact ⟨0, rfl, Nat.zero_le _, none, 0, hfresh⟩
  case round =>
    obtain ⟨k, rfl, hk, a, cap, hvl⟩ := hrel
    clear hfresh
    have HV : Hid (Vl w.heap.size w w.heap.size a k cap (ks.take k) wr) := hvl
    have hbel := hvl.below
    by_cases hlt : k < n0
    · obtain ⟨b, off, ha, hbl, hc⟩ := HR0.out.at (i := k) (by have := HN.out; omega)
      subst ha
      obtain ⟨s, hx⟩ : ∃ s, kth ks k = s := ⟨_, rfl⟩
      rw [hx] at hc
      have HTk : Hid (ks.take (k + 1) = ks.take k ++ [s]) := by show _ = _; rw [take_kth ks k (by have := HN.out; omega), hx]
      have cs : wr.cell? ⟨b, off + k, none⟩ = some (.string s) := (hbel.cell (by exact hbl)).trans hc
      have hblt : b < wr.heap.size := Nat.lt_of_lt_of_le hbl hbel.size
      have c5 := hvl.c5
      have f5 := hvl.f5
      have hVlt := hvl.vlt
      have hbsz := hvl.bsz
      obtain ⟨ps, hown, hit⟩ := hvl.row
      have HI : Hid (∀ i p, ps[i]? = some p → p ≠ w.heap.size ∧ ItemAt wr p (kth (ks.take k) i)) := hit
      have HO : Hid (wr.ownsRow w.heap.size 39 1 (.slice a k cap) k (ps.map ptr)) := hown
      have nV : (Value.slice a k cap).ownBlock ≠ some w.heap.size := by
        obtain ⟨x0, x1, x2, x3, x4, hV⟩ := hvl.hV
        exact hvl.rowNe hV (by intro cur; simp)
      have HNew : Hid (∀ o1 o2 : Obj, ((wr.alloc o1).alloc o2).heap[wr.heap.size + 1]? = some o2) := by
        intro o1 o2
        have := heap_alloc_new (wr.alloc o1) o2
        simpa using this
      have HFz : Hid (∀ o1 o2 : Obj, ((wr.alloc o1).alloc o2).frozen? ⟨w.heap.size, 5, none⟩ = false) := by
        intro o1 o2
        rw [World.frozen?_alloc_past _ _ _ (by simp; omega), World.frozen?_alloc_past _ _ _ hVlt]; exact f5
      have HC5 : Hid (∀ o1 o2 : Obj, ((wr.alloc o1).alloc o2).cell? ⟨w.heap.size, 5, none⟩ = some (.slice a k cap)) := by
        intro o1 o2
        rw [World.cell?_alloc_past _ _ _ (by simp; omega), World.cell?_alloc_past _ _ _ hVlt]; exact c5
      clear hit hown hvl hc hx hbel
      go_wp2
      go_region_law
        ((refine step_append_lies _ (by rfl) _ _ _ (by rfl) w.heap.size 39 i0 _ 1 8 Try.underlying41 hi0 hz0 hz1 hz2 rfl (by omega) (.slice a k cap) k (ps.map ptr) (by rfl) (((HO.out.drew).alloc _).alloc _)
            ⟨wr.heap.size + 1, 0, none⟩ 1 1 [ptr wr.heap.size] (by rfl) (by rfl) (World.news_of_block (cs := #[ptr wr.heap.size]) (t := 39) (fr := (0, 0)) (HNew.out _ _)) (by simp [Value.oneCell', ptr])
            (by omega) (by unfold maxLen; omega) (by omega) (by simp; omega) (wr.heap.size + 2) (by simp) ?_; intro gg cap' w1 hown1 hgrow hat hlt; have f5' : w1.frozen? ⟨w.heap.size, 5, none⟩ = false := (hgrow.frozen_far ⟨w.heap.size, 5, none⟩ (by simp; omega) (Ne.symm nV)).trans (HFz.out _ _); have c5' : w1.cell? ⟨w.heap.size, 5, none⟩ = some (.slice a k cap) := (hgrow.cell_far ⟨w.heap.size, 5, none⟩ (by simp; omega) (Ne.symm nV)).trans (HC5.out _ _); have HA : Hid (Vl w.heap.size w w.heap.size (some ⟨gg, 0, none⟩) (k + 1) cap' (ks.take k ++ [s]) (w1.setCell ⟨w.heap.size, 5, none⟩ (.slice (some ⟨gg, 0, none⟩) (k + 1) cap'))) := HV.out.added HO.out HI.out rfl hown1 hgrow; clear hown1 hgrow hat hlt))
      all_goals
        go_wp2
        go_roundw
        case rel => exact ⟨k + 1, by go_num, by omega, _, _, by rw [HTk.out]; exact HA.out⟩
        case measure => simp [intOf]; omega
    · have hke : ks.take k = ks := List.take_of_length_le (by have := HN.out; omega)
      have hkn : k = n0 := by omega
      rw [hke, hkn] at hvl
      have hfr := hvl.frame none
      have hfs := hvl.bsz
      have hfm := hvl.frameMap
      have HFr : Hid (Fr w.heap.size w wr.heap.size w.heap.size none a n0 cap ks (wr.alloc (.cells #[.pointer (some ⟨w.heap.size, 0, none⟩), .map none] 46))) := hfr
      clear hke hkn hvl HV hfr
      cases hm with
      | false =>
        clear hfm
        go_wp2
        go_ret
        refine ⟨wr.heap.size, w.heap.size, rfl, none, a, cap, ?_, trivial⟩
        rw [HN.out]; exact HFr.out
      | true =>
        obtain ⟨F, hF⟩ : ∃ F, wr.heap.size = F := ⟨_, rfl⟩
        have HFm : Hid (Fr w.heap.size w wr.heap.size w.heap.size (some (wr.heap.size + 1)) a n0 cap ks ((wr.alloc (.cells #[.pointer (some ⟨w.heap.size, 0, none⟩), .map (some (wr.heap.size + 1))] 46)).alloc (.map #[] 0)) ∧ SetAt ((wr.alloc (.cells #[.pointer (some ⟨w.heap.size, 0, none⟩), .map (some (wr.heap.size + 1))] 46)).alloc (.map #[] 0)) (wr.heap.size + 1) []) := hfm
        have HFF : Hid (wr.heap.size = F) := hF
        clear hfm hF HFr
        go_wp2
        have hfm := HFm.out
        generalize (wr.alloc (.cells #[.pointer (some ⟨w.heap.size, 0, none⟩), .map (some (wr.heap.size + 1))] 46)).alloc (.map #[] 0) = W1 at hfm ⊢
        rw [HFF.out] at hfm hfs ⊢
        have HF1 : Hid (Fr w.heap.size w F w.heap.size (some (F + 1)) a n0 cap ks W1) := hfm.1
        have HS1 : Hid (SetAt W1 (F + 1) []) := hfm.2
        clear hfm HFm hbel
        go_loopw [10] (fun i wi => ∃ j : Nat, i = .int .i64 j ∧ j ≤ n1 ∧ Fr w.heap.size w F w.heap.size (some (F + 1)) a n0 cap ks wi ∧ SetAt wi (F + 1) (T.take j)) (fun i _ => n1 - (intOf i).toNat)
        case atStart => exact ⟨0, rfl, Nat.zero_le _, HF1.out, HS1.out⟩
        case round =>
          obtain ⟨j, rfl, hj, hFr, hSt⟩ := hrel
          clear HF1 HS1
          have HFr : Hid (Fr w.heap.size w F w.heap.size (some (F + 1)) a n0 cap ks wr) := hFr
          have HSt : Hid (SetAt wr (F + 1) (T.take j)) := hSt
          have e1 := hFr.c1
          by_cases hjlt : j < n1
          · obtain ⟨b, off, ha, hbl, hc⟩ := HR1.out.at (i := j) (by have := HT.out; omega)
            subst ha
            obtain ⟨x, hx⟩ : ∃ x, kth T j = x := ⟨_, rfl⟩
            have hxs : x.size ≤ maxLen := by rw [← hx]; exact HW1.out _ (kth_mem T j (by have := HT.out; omega))
            have HTk : Hid (T.take (j + 1) = T.take j ++ [x]) := by show _ = _; rw [take_kth T j (by have := HT.out; omega), hx]
            rw [hx] at hc
            have d2 : wr.cell? ⟨b, off + j, none⟩ = some (.string x) := (hFr.below.cell (by exact hbl)).trans hc
            have hSd : SetAt wr.drew (F + 1) (T.take j) := hSt
            have hkl : (T.take j).length < maxLen := by have h1 : (T.take j).length ≤ j := List.length_take_le _ _; unfold maxLen; omega
            obtain ⟨w2, hrun, hset, hgrow⟩ := hSd.put x hxs hkl
            have hFr2 : Fr w.heap.size w F w.heap.size (some (F + 1)) a n0 cap ks w2 := (hFr.drewN 1).kept hgrow (fun b e => by cases e; exact ⟨by omega, hSt.block⟩)
            have e3 := hFr2.c1
            have e2 : w2.cell? ⟨b, off + j, none⟩ = some (.string x) := hgrow.cell (w := wr.drew) d2 (by have := hSt.ne d2; simpa using this)
            have HFr2 : Hid (Fr w.heap.size w F w.heap.size (some (F + 1)) a n0 cap ks w2) := hFr2
            have HSet : Hid (SetAt w2 (F + 1) (T.take j ++ [x])) := hset
            have hj0 : (0 : Int) ≤ (j : Int) := by omega
            have hj1 : (j : Int) < (n1 : Int) := by omega
            clear hFr hSt hSd hset hgrow hx hFr2 hkl hc
            go_wp2
            go_region_held3 (fun w' => w'.cell? ⟨F, 1, none⟩ = some (.map (some (F + 1))) ∧ w'.cell? ⟨b, off + j, none⟩ = some (.string x)) (go_keep) (fail)
            go_wp2
            go_roundw
            case rel => exact ⟨j + 1, by go_num, by omega, HFr2.out, by rw [HTk.out]; exact HSet.out⟩
            case measure => simp [intOf]; omega
          · have hje : T.take j = T := List.take_of_length_le (by have := HT.out; omega)
            rw [hje] at hSt
            have HSk : Hid (SetAt wr (F + 1) T) := hSt
            clear hFr hSt hje HSt
            go_wp2
            go_ret
            refine ⟨F, w.heap.size, rfl, some (F + 1), a, cap, ?_, ?_⟩
            · rw [HN.out]; exact HFr.out
            · exact ⟨by omega, HSk.out⟩
end Go.Proofs.Qxb6605305a.KS
