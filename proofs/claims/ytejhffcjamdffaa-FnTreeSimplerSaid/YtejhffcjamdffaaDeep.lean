/-
  The contract of Deep: how deep repetitions stand in one another. Condition: no more than a thousand.
-/
import Derived.Test.YtejhffcjamdffaaSimpPlain
namespace Go.Proofs.Ytejhffcjamdffaa
open Go.RowKit

theorem maxs_bd (gs : List Int) (k : Nat) (a : Int) (h0 : 0 ≤ a) (h : ∀ x, x ∈ gs → x ≤ a) : 0 ≤ maxs 0 (gs.take k) ∧ maxs 0 (gs.take k) ≤ a :=
  ⟨(maxs_ge _ 0).1, maxs_le _ _ _ h0 (fun x hx => h x (List.mem_of_mem_take hx))⟩

set_option maxRecDepth 100000 in
set_option maxHeartbeats 4000000 in
theorem deep_any (S : Nat → Prop) (d : Nat) : ∀ (rx : Rx) (cs : List Value) (w : World), ReRep w S d rx cs → deepF d rx ≤ 1000 → (∀ b, S b → b < w.heap.size) →
    Calls Try.prog 41 #[.agg cs.toArray] w fun e w' => e = .returned (.int .i64 (deepF d rx)) ∧ Below w.heap.size w w' := by
  induction d with
  | zero => intro rx cs w h; cases h
  | succ d ih =>
    intro rx cs w h hB hS
    obtain ⟨eo, en, ec, neg, lazy, cap, what, name, ao, c, rfl, hn, hs⟩ := h.open
    have IH := Lib.hid ih
    have HS := Lib.hid hS
    have HSub := Lib.hid hs
    clear ih h hS hs
    have HF : Hid (deepF (d + 1) rx = if rx.kind = 5 then maxs 0 (rx.subs.map (deepF d)) + 1 else maxs 0 (rx.subs.map (deepF d))) := rfl
    have hB1 : maxs 0 (rx.subs.map (deepF d)) ≤ 1000 := by
      have h1 := hB
      rw [HF.out] at h1
      split at h1 <;> omega
    clear hB
    have HBs : Hid (∀ s, s ∈ rx.subs → deepF d s ≤ 1000) := fun s hs => by
      have := (maxs_ge (rx.subs.map (deepF d)) 0).2 _ (List.mem_map.2 ⟨s, hs, rfl⟩)
      omega
    have HBd : Hid (∀ k, 0 ≤ maxs 0 ((rx.subs.map (deepF d)).take k) ∧ maxs 0 ((rx.subs.map (deepF d)).take k) ≤ 1000) := fun k => maxs_bd _ _ _ (by omega) (fun x hx => by
      obtain ⟨s, hs, rfl⟩ := List.mem_map.1 hx
      exact HBs.out s hs)
    clear hB1
    generalize hG : rx.subs.map (deepF d) = gs at *
    have HG := Lib.hid hG
    generalize hN : rx.subs.length = n at *
    have HN := Lib.hid hN
    have HL : Hid (gs.length = n) := by rw [← hG, List.length_map]; exact hN
    clear hN hG
    go_enter Try.func41, Try.ntmps41
    go_wp2
    go_loopw [3, 9] (fun m i wr => ∃ k : Nat, k ≤ n ∧ i = .int .i64 k ∧ m = .int .i64 (maxs 0 (gs.take k)) ∧ Below (w.heap.size + 1) (w.alloc (.cells #[.int .i64 rx.kind, .slice eo en ec, .bool neg, .int .i64 rx.mn, .int .i64 rx.mx, .bool lazy, .int .i64 cap, .string name, .int .i64 what, .slice ao n c] 63)) wr) (fun _ i _ => n - (intOf i).toNat)
    case atStart => exact ⟨0, Nat.zero_le _, rfl, rfl, Below.refl _ _⟩
    case round =>
      obtain ⟨k, hk, rfl, rfl, hbox⟩ := hrel
      have hbel : Below w.heap.size w wr := (below1 w _).trans (hbox.mono (by omega))
      by_cases hkn : k < n
      · obtain ⟨s, hks⟩ := get_of_lt HN.out hkn
        rcases HSub.out with h0 | ⟨b, off, rfl, hb, hsub⟩
        · rw [h0] at hks; simp at hks
        · obtain ⟨cs', hcells, hrep⟩ := hsub k s hks
          have hkeep : Keeps S w wr := Keeps.of_below hbel HS.out
          obtain ⟨eo', en', ec', neg', lazy', cap', what', name', ao', c', rfl, c0, c1, c2, c3, c4, c5, c6, c7, c8, c9⟩ := (ReRep.keeps hkeep _ _ _ hrep).cells (hcells.keeps hkeep hb)
          have HRep := Lib.hid (ReRep.keeps hkeep _ _ _ hrep)
          have hsz := hbel.size
          have HLt := Lib.hid (lt_below HS.out hsz)
          have HMx := Lib.hid (maxs_take 0 (deepF d s) gs k (map_get HG.out hks))
          have HBk := Lib.hid (HBs.out s (List.mem_of_getElem? hks))
          have hsz1 : w.heap.size + 1 ≤ wr.heap.size := by have := hbox.size; simp at this; exact this
          have HBox := Lib.hid hbox
          clear hsub hcells hrep hkeep hks hbox
          go_wp2_with (go_at_call 41; refine (IH.out s _ _ (HRep.out.alloc HLt.out _) HBk.out (lt_below HLt.out (by simp))).mono ?_; rintro e w1 ⟨rfl, hb1⟩)
          have hbox2 := HBox.out.trans (((below1 wr _).trans (hb1.mono (by simp))).mono hsz1)
          go_roundw
          case rel =>
            refine ⟨k + 1, by omega, by go_num, ?_, hbox2⟩
            rw [HMx.out]
          case measure => simp [intOf]; omega
      · have hkn' : k = n := by omega
        subst hkn'
        have d0 : wr.cell? ⟨w.heap.size, 0, none⟩ = some (.int .i64 rx.kind) := by rw [hbox.cell (p := ⟨w.heap.size, 0, none⟩) (Nat.lt_succ_self _)]; simp [World.cell?_alloc_new]
        have HT : Hid (gs.take k = gs) := List.take_of_length_le (by rw [HL.out]; exact Nat.le_refl _)
        have hb1 := (HBd.out k).1
        have hb2 := (HBd.out k).2
        have HBe := Lib.hid hbel
        clear hbox hbel
        rw [HT.out] at *
        generalize maxs 0 gs = a at *
        have hk5 : (rx.kind == 5) = true ∨ (rx.kind == 5) = false := by cases rx.kind == 5 <;> simp
        rcases hk5 with hk5 | hk5
        · have hw : wrap64 (a + 1) = a + 1 := IntWalk.wrap64_in _ ⟨by omega, by omega⟩
          go_wp2
          go_ret
          refine ⟨ret_int ?_, HBe.out⟩
          rw [HF.out, if_pos (by simpa using hk5)]
        · go_wp2
          go_ret
          refine ⟨ret_int ?_, HBe.out⟩
          rw [HF.out, if_neg (by simpa using hk5)]
end Go.Proofs.Ytejhffcjamdffaa
