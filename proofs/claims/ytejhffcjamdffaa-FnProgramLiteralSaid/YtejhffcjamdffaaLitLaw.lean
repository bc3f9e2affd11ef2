/-
  The walk of the law FnProgramLiteral. Condition: the slice holds runes in memory that was there.
-/
import Derived.Test.YtejhffcjamdffaaLitHelp
namespace Go.Proofs.Ytejhffcjamdffaa
open Go.RowKit

set_option maxRecDepth 100000 in
set_option maxHeartbeats 4000000 in
theorem law_literal (zs : List Int) (ao : Option Addr) (cap : Nat) (w : World) (hm : zs.length ≤ 9223372036854775807) (h : Runes w (.slice ao zs.length cap) zs) (hwd : Wd w.heap.size (.slice ao zs.length cap)) :
    Calls Try.prog 11 #[.slice ao zs.length cap] w fun e w' => e = .returned (.bool true) ∧ Below w.heap.size w w' := by
  obtain ⟨i0, hi, hz0, hz1, hz2⟩ := info_parts Try.info28
  have HR := Lib.hid h
  have HW := Lib.hid hwd
  have HC := Lib.hid (contains_bad _ zs w h hm)
  have HZ : Hid (zs = [] ∨ ∃ b off, ao = some ⟨b, off, none⟩ ∧ b < w.heap.size ∧ ∀ j z, zs[j]? = some z → w.cell? ⟨b, off + j, none⟩ = some (.int .i32 z)) := by
    obtain ⟨ao', cap', e, hz⟩ := h.open
    injection e with e1 e2 e3
    subst e1
    rcases hz with hz | ⟨b, off, rfl, hc⟩
    · exact .inl hz
    · cases hzz : zs with
      | nil => exact .inl rfl
      | cons z zt =>
        rw [hzz] at hc
        exact .inr ⟨b, off, rfl, World.block_lt_of_cell? w _ (hc 0 z rfl), hc⟩
  clear h hwd
  have hbad : zs.any badB = true ∨ zs.any badB = false := by cases zs.any badB <;> simp
  generalize hN : zs.length = n at *
  have HN := Lib.hid hN
  clear hN
  by_cases h1 : 50 < n
  · by_cases h2 : 2147483647 < n
    · go_enter Try.func11, Try.ntmps11
      go_wp2_with fail
      go_ret
      exact ⟨rfl, Below.refl _ _⟩
    · go_enter Try.func11, Try.ntmps11
      go_wp2_with fail
      go_ret
      exact ⟨rfl, Below.refl _ _⟩
  · rcases hbad with hbad | hbad
    · rw [hbad] at HC
      clear hbad
      go_enter Try.func11, Try.ntmps11
      go_wp2_with (go_at_call 36; refine HC.out.mono ?_; rintro e w' ⟨rfl, rfl⟩)
      go_ret
      exact ⟨rfl, Below.refl _ _⟩
    · rw [hbad] at HC
      have HB := Lib.hid hbad
      clear hbad
      go_enter Try.func11, Try.ntmps11
      go_wp2_with (go_at_call 36; refine HC.out.mono ?_; rintro e w' ⟨rfl, rfl⟩)
      go_loopw [3, 21] (fun l i wr => ∃ k : Nat, k ≤ n ∧ i = .int .i64 k ∧ (∃ cs, OwnInsts wr w.heap.size l (litsK zs k) cs) ∧ Below w.heap.size w wr) (fun _ i _ => n - (intOf i).toNat)
      case atStart => exact ⟨0, Nat.zero_le _, rfl, ⟨[], World.ownsRow_made w #[] 0 (Nat.le_refl _) (by decide) rfl, fun k i h => by simp [litsK] at h⟩, below1 w _⟩
      case round =>
        obtain ⟨k, hk, rfl, ⟨cs, hown⟩, hbel⟩ := hrel
        by_cases hkn : k < n
        · obtain ⟨z, hks⟩ : ∃ z, zs[k]? = some z := ⟨zs[k]'(by rw [HN.out]; exact hkn), List.getElem?_eq_getElem _⟩
          rcases HZ.out with h0 | ⟨b, off, rfl, hb, hcell⟩
          · rw [h0] at hks; simp at hks
          have hc := (hbel.cell (p := ⟨b, off + k, none⟩) hb).trans (hcell k z hks)
          have hS := litsK_succ zs k
          rw [List.getD, hks, Option.getD_some] at hS
          have HS := Lib.hid hS
          obtain ⟨v, ca, hv⟩ := owns_slice hown.1
          rw [litsK_length] at hv
          subst hv
          have HO := Lib.hid hown
          have HOwn : Hid (wr.ownsRow w.heap.size 28 4 (.slice v k ca) k cs) := by have h := hown.1; rw [litsK_length] at h; exact h
          clear hown hcell hks hS
          have hsz := hbel.size
          go_wp2_with (at_builtin; refine wpList_append_lies _ rfl _ _ _ rfl w.heap.size 28 i0 _ 4 48 Try.underlying31 hi hz0 hz1 hz2 rfl (by omega) (.slice v k ca) k cs rfl ((HOwn.out.alloc _).alloc _) ⟨wr.heap.size + 1, 0, none⟩ 1 1 _ rfl ?_ (World.news_of_block (t := 28) (fr := (0, 0)) (by have := heap_alloc_new (wr.alloc (.cells #[.int .i32 z] 21)) (.cells #[.int .i64 8, .int .i64 ((k : Int) + 1), .int .i64 0, .slice (some ⟨wr.heap.size, 0, none⟩) 1 1] 28); simpa using this)) ?_ (by omega) (by unfold maxLen; omega) (by omega) (by simp; omega) (wr.heap.size + 2) (by simp) ?_)
          · simp [Value.oneCell']
          · intro g cap1 w2 hown2 hgrow hat hlt2
            have hB2 := ((hbel.alloc hsz (.cells #[.int .i32 z] 21)).alloc (by simp; omega) (.cells #[.int .i64 8, .int .i64 ((k : Int) + 1), .int .i64 0, .slice (some ⟨wr.heap.size, 0, none⟩) 1 1] 28)).grown hgrow (by simp; omega) (fun j hj => (HOwn.out.lt j hj).1)
            have hnext := lit_next HS.out hsz HO.out hgrow hown2
            have HNx := Lib.hid hnext
            have HB2 := Lib.hid hB2
            clear hnext hB2 hown2 hgrow hat hlt2 HO HOwn HS hbel
            go_wp2
            go_roundw
            case rel => exact ⟨k + 1, by omega, by go_num, HNx.out, HB2.out⟩
            case measure => simp [intOf]; omega
        · have hkn' : k = n := by omega
          subst hkn'
          obtain ⟨v, ca, hv⟩ := owns_slice hown.1
          rw [litsK_length] at hv
          subst hv
          have HO : Hid (OwnInsts wr w.heap.size (.slice v k ca) (litsK zs zs.length) cs) := by rw [HN.out]; exact hown
          have HOwn : Hid (wr.ownsRow w.heap.size 28 4 (.slice v k ca) k cs) := by have h := hown.1; rw [litsK_length] at h; exact h
          clear hown
          have hsz := hbel.size
          go_wp2_with (first
              | (at_builtin; refine wpList_append_lies _ rfl _ _ _ rfl w.heap.size 28 i0 _ 4 48 Try.underlying31 hi hz0 hz1 hz2 rfl (by omega) (.slice v k ca) k cs rfl (HOwn.out.alloc _) ⟨wr.heap.size, 0, none⟩ 1 1 _ rfl ?_ (World.news_of_block (t := 28) (fr := (0, 0)) (heap_alloc_new wr _)) ?_ (by omega) (by unfold maxLen; omega) (by omega) (by simp; omega) (wr.heap.size + 1) (by simp) ?_)
              | (go_at_call 39; fail))
          · simp [Value.oneCell']
          · intro g cap1 w2 hown2 hgrow hat hlt2
            have hB2 := (hbel.alloc hsz (.cells #[.int .i64 4, .int .i64 0, .int .i64 0, .slice none 0 0] 28)).grown hgrow (by simp; omega) (fun j hj => (HOwn.out.lt j hj).1)
            have HNx := Lib.hid (lit_last (v' := .slice (some ⟨g, 0, none⟩) (k + 1) cap1) HO.out hgrow (by rw [HN.out]; exact hown2))
            have HB2 := Lib.hid hB2
            clear hB2 hown2 hgrow hat hlt2 HO HOwn hbel
            have H39 := Lib.hid (lit_call zs _ w2 HNx.out (by rw [HN.out]; omega) HB.out)
            have HCV : Hid (∀ w3, Below w2.heap.size w2 w3 → (convert 26 9 (.slice ao k cap)).run Try.prog w3 = .ok (.string ⟨(encs zs).toArray⟩) w3) := fun w3 hb3 => by
              have hr := RowN.belowW HR.out (HB2.out.trans (hb3.mono HB2.out.size)) HW.out
              exact conv_right _ zs w3 hr (not_bad HB.out).1
            generalize (⟨(encs zs).toArray⟩ : ByteArray) = bs at *
            go_wp2_with (go_at_call 39; refine H39.out.mono ?_; rintro e w3 ⟨rfl, hb3⟩; have hcv := HCV.out w3 hb3; have HB3 := Lib.hid hb3; clear hb3)
            all_goals
              go_ret
              exact ⟨ret_bool (by simp), HB2.out.trans (HB3.out.mono HB2.out.size)⟩
end Go.Proofs.Ytejhffcjamdffaa
