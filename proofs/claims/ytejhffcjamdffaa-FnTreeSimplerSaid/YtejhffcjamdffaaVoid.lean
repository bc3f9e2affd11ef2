/-
  The contracts of Void and Plain. Condition: repetitions have a part.
-/
import Derived.Test.YtejhffcjamdffaaReFunc
namespace Go.Proofs.Ytejhffcjamdffaa
open Go.RowKit

set_option maxRecDepth 100000 in
set_option maxHeartbeats 4000000 in
theorem voidnot_any (S : Nat → Prop) (d : Nat) (p : Rx → Bool) (IH : Hid (ReIH S d 71 p)) : ReIH S d 87 (fun s => !p s) := by
  intro rx cs w h h1 hS
  obtain ⟨eo, en, ec, neg, lazy, cap, what, name, ao, c, rfl⟩ := h.form
  have HRep := Lib.hid h
  have H1 := Lib.hid h1
  have HS := Lib.hid hS
  clear h h1 hS
  go_enter Try.func87, Try.ntmps87
  go_wp2_with (go_at_call 71; refine (IH.out rx _ _ (HRep.out.alloc HS.out _) H1.out (lt_below HS.out (by simp))).mono ?_; rintro e w1 ⟨rfl, hb1⟩; have HB := Lib.hid ((below1 w _).trans (hb1.mono (by simp))); clear hb1)
  go_ret
  exact ⟨rfl, HB.out⟩

/-- The cells of the first part. -/
theorem ReSubs.first {w : World} {S : Nat → Prop} {d : Nat} {ao : Option Addr} {rs : List Rx} (h : ReSubs w S d ao rs) (hn : 1 ≤ rs.length) : ∃ b off s, ao = some ⟨b, off, none⟩ ∧ S b ∧ rs[0]? = some s ∧ rs.take 1 = [s] ∧ ∃ cs', Cells w b off cs' ∧ ReRep w S d s cs' := by
  rcases h with rfl | ⟨b, off, rfl, hb, hs⟩
  · simp at hn
  · cases rs with
    | nil => simp at hn
    | cons s ss =>
      obtain ⟨cs', hc, hr⟩ := hs 0 s rfl
      exact ⟨b, off, s, rfl, hb, rfl, rfl, cs', by simpa using hc, hr⟩

set_option maxRecDepth 100000 in
set_option maxHeartbeats 8000000 in
theorem void_step (S : Nat → Prop) (d : Nat) (IH : Hid (ReIH S d 71 (voidF d))) : ReIH S (d + 1) 71 (voidF (d + 1)) := by
  intro rx cs w h h1 hS
  obtain ⟨eo, en, ec, neg, lazy, cap, what, name, ao, c, rfl, hn, hs⟩ := h.open
  have HOne := Lib.hid h1.2
  have HHead := Lib.hid h1.1
  have HS := Lib.hid hS
  have HSub : Hid (ReSubs w S d ao rx.subs) := hs
  have IHn := Lib.hid (voidnot_any S d (voidF d) IH)
  have HF : Hid (voidF (d + 1) rx = if rx.kind = 1 ∨ rx.kind = 7 then true
    else if rx.kind = 3 ∨ rx.kind = 6 then !(rx.subs.any fun s => !voidF d s)
    else if rx.kind = 4 then rx.subs.any (voidF d)
    else if rx.kind = 5 then decide (rx.mn = 0) || (rx.subs.take 1).any (voidF d)
    else false) := rfl
  clear h h1 hS hs
  generalize voidF (d + 1) rx = r at *
  generalize rx.subs = subs at *
  generalize rx.kind = kd at *
  generalize rx.mn = mn at *
  generalize rx.mx = mx at *
  have hc : kd = 1 ∨ kd = 7 ∨ kd = 3 ∨ kd = 6 ∨ kd = 4 ∨ kd = 5 ∨ ((kd == 1) = false ∧ (kd == 7) = false ∧ (kd == 3) = false ∧ (kd == 6) = false ∧ (kd == 4) = false ∧ (kd == 5) = false) := by
    simp only [beq_eq_false_iff_ne]; omega
  have hls : ∀ b, S b → b < (w.alloc (.cells #[.int .i64 kd, .slice eo en ec, .bool neg, .int .i64 mn, .int .i64 mx, .bool lazy, .int .i64 cap, .string name, .int .i64 what, .slice ao subs.length c] 63)).heap.size := lt_below HS.out (by simp)
  have HLs := Lib.hid hls
  have HSub1 := Lib.hid (HSub.out.keeps (Keeps.of_below (below1 w (.cells #[.int .i64 kd, .slice eo en ec, .bool neg, .int .i64 mn, .int .i64 mx, .bool lazy, .int .i64 cap, .string name, .int .i64 what, .slice ao subs.length c] 63)) HS.out))
  clear hls
  rcases hc with rfl | rfl | rfl | rfl | rfl | rfl | ⟨k1, k7, k3, k6, k4, k5⟩
  · go_enter Try.func71, Try.ntmps71
    go_wp2
    go_ret
    exact ⟨ret_bool (by rw [HF.out]; rfl), below1 w _⟩
  · go_enter Try.func71, Try.ntmps71
    go_wp2
    go_ret
    exact ⟨ret_bool (by rw [HF.out]; rfl), below1 w _⟩
  · go_enter Try.func71, Try.ntmps71
    go_wp2_with (go_at_call 72; refine (contains_re87 S d _ IHn ao c subs _ HSub1.out HOne.out hn HLs.out).mono ?_; rintro e w1 ⟨rfl, hb1⟩; have HB := Lib.hid ((below1 w _).trans (hb1.mono (by simp))); clear hb1)
    go_ret
    exact ⟨ret_bool (by rw [HF.out]; rfl), HB.out⟩
  · go_enter Try.func71, Try.ntmps71
    go_wp2_with (go_at_call 72; refine (contains_re87 S d _ IHn ao c subs _ HSub1.out HOne.out hn HLs.out).mono ?_; rintro e w1 ⟨rfl, hb1⟩; have HB := Lib.hid ((below1 w _).trans (hb1.mono (by simp))); clear hb1)
    go_ret
    exact ⟨ret_bool (by rw [HF.out]; rfl), HB.out⟩
  · go_enter Try.func71, Try.ntmps71
    go_wp2_with (go_at_call 72; refine (contains_re71 S d _ IH ao c subs _ HSub1.out HOne.out hn HLs.out).mono ?_; rintro e w1 ⟨rfl, hb1⟩; have HB := Lib.hid ((below1 w _).trans (hb1.mono (by simp))); clear hb1)
    go_ret
    exact ⟨ret_bool (by rw [HF.out]; rfl), HB.out⟩
  · have hm : mn = 0 ∨ (mn == 0) = false := by simp only [beq_eq_false_iff_ne]; omega
    rcases hm with rfl | hm
    · go_enter Try.func71, Try.ntmps71
      go_wp2
      go_ret
      exact ⟨ret_bool (by rw [HF.out]; rfl), below1 w _⟩
    · have hn1 := HHead.out rfl
      obtain ⟨b, off, s, rfl, hb, hs0, htk, cs', hcells, hrep⟩ := HSub1.out.first hn1
      obtain ⟨eo', en', ec', neg', lazy', cap', what', name', ao', c', rfl, c0, c1, c2, c3, c4, c5, c6, c7, c8, c9⟩ := hrep.cells hcells
      have HRep := Lib.hid hrep
      have HO := Lib.hid (HOne.out s (List.mem_of_getElem? hs0))
      have HTk := Lib.hid htk
      have hlen : 0 < subs.length := hn1
      clear hcells hrep hs0 htk
      go_enter Try.func71, Try.ntmps71
      go_wp2_with (go_at_call 71; refine (IH.out s _ _ HRep.out HO.out HLs.out).mono ?_; rintro e w1 ⟨rfl, hb1⟩; have HB := Lib.hid ((below1 w _).trans (hb1.mono (by simp))); clear hb1)
      go_ret
      refine ⟨ret_bool ?_, HB.out⟩
      rw [HF.out, HTk.out]
      have hm0 : mn ≠ 0 := by simpa using hm
      simp [hm0]
  · go_enter Try.func71, Try.ntmps71
    go_wp2
    go_ret
    refine ⟨ret_bool ?_, below1 w _⟩
    simp only [beq_eq_false_iff_ne] at k1 k7 k3 k6 k4 k5
    rw [HF.out, if_neg (by omega), if_neg (by omega), if_neg (by omega), if_neg (by omega)]

theorem void_any (S : Nat → Prop) (d : Nat) : ReIH S d 71 (voidF d) := by
  induction d with
  | zero => intro rx cs w h; cases h
  | succ d ih => exact void_step S d (Lib.hid ih)

set_option maxRecDepth 100000 in
set_option maxHeartbeats 4000000 in
theorem plainnot_any (S : Nat → Prop) (d : Nat) (p : Rx → Bool) (IH : Hid (ReIH S d 44 p)) : ReIH S d 73 (fun s => !p s) := by
  intro rx cs w h h1 hS
  obtain ⟨eo, en, ec, neg, lazy, cap, what, name, ao, c, rfl⟩ := h.form
  have HRep := Lib.hid h
  have H1 := Lib.hid h1
  have HS := Lib.hid hS
  clear h h1 hS
  go_enter Try.func73, Try.ntmps73
  go_wp2_with (go_at_call 44; refine (IH.out rx _ _ (HRep.out.alloc HS.out _) H1.out (lt_below HS.out (by simp))).mono ?_; rintro e w1 ⟨rfl, hb1⟩; have HB := Lib.hid ((below1 w _).trans (hb1.mono (by simp))); clear hb1)
  go_ret
  exact ⟨rfl, HB.out⟩

set_option maxRecDepth 100000 in
set_option maxHeartbeats 8000000 in
theorem plain_step (S : Nat → Prop) (d : Nat) (IH : Hid (ReIH S d 44 (plainF d))) : ReIH S (d + 1) 44 (plainF (d + 1)) := by
  intro rx cs w h h1 hS
  obtain ⟨eo, en, ec, neg, lazy, cap, what, name, ao, c, rfl, hn, hs⟩ := h.open
  have HOne := Lib.hid h1.2
  have HHead := Lib.hid h1.1
  have HS := Lib.hid hS
  have HSub : Hid (ReSubs w S d ao rx.subs) := hs
  have IHn := Lib.hid (plainnot_any S d (plainF d) IH)
  have HF : Hid (plainF (d + 1) rx = ((decide (rx.kind ≠ 5) || !(rx.subs.take 1).any (voidF d)) && !(rx.subs.any fun s => !plainF d s))) := rfl
  clear h h1 hS hs
  generalize plainF (d + 1) rx = r at *
  generalize rx.subs = subs at *
  generalize rx.kind = kd at *
  generalize rx.mn = mn at *
  generalize rx.mx = mx at *
  have hls : ∀ b, S b → b < (w.alloc (.cells #[.int .i64 kd, .slice eo en ec, .bool neg, .int .i64 mn, .int .i64 mx, .bool lazy, .int .i64 cap, .string name, .int .i64 what, .slice ao subs.length c] 63)).heap.size := lt_below HS.out (by simp)
  have HLs := Lib.hid hls
  have HSub1 := Lib.hid (HSub.out.keeps (Keeps.of_below (below1 w (.cells #[.int .i64 kd, .slice eo en ec, .bool neg, .int .i64 mn, .int .i64 mx, .bool lazy, .int .i64 cap, .string name, .int .i64 what, .slice ao subs.length c] 63)) HS.out))
  clear hls
  have hc : kd = 5 ∨ (kd != 5) = true := by simp only [bne_iff_ne]; omega
  rcases hc with rfl | hc
  · have hn1 := HHead.out rfl
    obtain ⟨b, off, s, rfl, hb, hs0, htk, cs', hcells, hrep⟩ := HSub1.out.first hn1
    obtain ⟨eo', en', ec', neg', lazy', cap', what', name', ao', c', rfl, c0, c1, c2, c3, c4, c5, c6, c7, c8, c9⟩ := hrep.cells hcells
    have HRep := Lib.hid hrep
    have HO := Lib.hid (HOne.out s (List.mem_of_getElem? hs0))
    have HTk := Lib.hid htk
    have hlen : 0 < subs.length := hn1
    clear hcells hrep hs0 htk
    have hv : voidF d s = true ∨ voidF d s = false := by cases voidF d s <;> simp
    rcases hv with hv | hv
    · go_enter Try.func44, Try.ntmps44
      go_wp2_with (go_at_call 71; refine (void_any S d s _ _ HRep.out HO.out HLs.out).mono ?_; rintro e w1 ⟨rfl, hb1⟩; rw [hv]; have HB := Lib.hid ((below1 w _).trans (hb1.mono (by simp))); clear hb1)
      go_ret
      refine ⟨ret_bool ?_, HB.out⟩
      rw [HF.out, HTk.out]
      simp [hv]
    · go_enter Try.func44, Try.ntmps44
      go_wp2_with (first
        | (go_at_call 71
           refine (void_any S d s _ _ HRep.out HO.out HLs.out).mono ?_
           rintro e w1 ⟨rfl, hb1⟩
           rw [hv]
           have hx1 := (hb1.block w.heap.size (by simp)).trans (heap_alloc_new w _)
           have d9 : w1.cell? ⟨w.heap.size, 9, none⟩ = some (.slice (some ⟨b, off, none⟩) subs.length c) := by rw [cell_at hx1]; rfl
           have HSub2 := Lib.hid (HSub1.out.keeps (Keeps.of_below hb1 HLs.out))
           have HL2 := Lib.hid (lt_below HLs.out hb1.size)
           have HB := Lib.hid ((below1 w _).trans (hb1.mono (by simp)))
           clear hb1 hx1)
        | (go_at_call 72
           refine (contains_re73 S d _ IHn _ c subs _ HSub2.out HOne.out hn HL2.out).mono ?_
           rintro e w2 ⟨rfl, hb2⟩
           have HB2 := Lib.hid (HB.out.trans (hb2.mono HB.out.size))
           clear hb2))
      go_ret
      refine ⟨ret_bool ?_, HB2.out⟩
      rw [HF.out, HTk.out]
      simp [hv]
  · go_enter Try.func44, Try.ntmps44
    go_wp2_with (go_at_call 72; refine (contains_re73 S d _ IHn ao c subs _ HSub1.out HOne.out hn HLs.out).mono ?_; rintro e w1 ⟨rfl, hb1⟩; have HB := Lib.hid ((below1 w _).trans (hb1.mono (by simp))); clear hb1)
    go_ret
    refine ⟨ret_bool ?_, HB.out⟩
    have hk : kd ≠ 5 := by simpa using hc
    rw [HF.out]
    simp [hk]

theorem plain_any (S : Nat → Prop) (d : Nat) : ReIH S d 44 (plainF d) := by
  induction d with
  | zero => intro rx cs w h; cases h
  | succ d ih => exact plain_step S d (Lib.hid ih)
end Go.Proofs.Ytejhffcjamdffaa
