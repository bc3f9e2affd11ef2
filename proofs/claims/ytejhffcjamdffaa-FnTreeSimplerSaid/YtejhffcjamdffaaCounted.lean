/-
  The contract of Counted: whether a tree holds a repetition with bounds. No conditions beside those typed.
-/
import Derived.Test.YtejhffcjamdffaaSimpPlain
namespace Go.Proofs.Ytejhffcjamdffaa
open Go.RowKit

theorem anyT_next {α : Type} (p : α → Bool) (zs : List α) (k : Nat) (z : α) (h : zs[k]? = some z) (h0 : (zs.take k).any p = false) (hz : p z = false) : (zs.take (k + 1)).any p = false := by
  rw [List.take_add_one, h]; simp [h0, hz]
theorem anyT_get {α : Type} (p : α → Bool) (zs : List α) (k : Nat) (z : α) (h : zs[k]? = some z) (hz : p z = true) : zs.any p = true :=
  List.any_eq_true.2 ⟨z, List.mem_of_getElem? h, hz⟩

set_option maxRecDepth 100000 in
set_option maxHeartbeats 4000000 in
theorem counted_any (S : Nat → Prop) (d : Nat) : ∀ (nd : Nd) (cs : List Value) (w : World), Rep w S d nd cs → (∀ b, S b → b < w.heap.size) →
    Calls Try.prog 43 #[.agg cs.toArray] w fun e w' => e = .returned (.bool (countedF d nd)) ∧ Below w.heap.size w w' := by
  induction d with
  | zero => intro nd cs w h; cases h
  | succ d ih =>
    intro nd cs w h hS
    obtain ⟨ro, rc, so, sc, rfl, hfit, hr, hrb, hs⟩ := h.open
    have hn := hfit.1
    have IH := Lib.hid ih
    have HS := Lib.hid hS
    have HSub := Lib.hid hs
    clear ih h hr hrb hS hs hfit
    have HF : Hid (countedF (d + 1) nd = (nd.subs.any (countedF d) || nd.op == 17)) := rfl
    generalize hL : nd.subs = subs at *
    generalize hN : subs.length = n at *
    have HN := Lib.hid hN
    clear hN hL
    go_enter Try.func43, Try.ntmps43
    go_wp2
    go_loopw [8] (fun i wr => ∃ k : Nat, k ≤ n ∧ i = .int .i64 k ∧ Hid ((subs.take k).any (countedF d) = false) ∧ Below (w.heap.size + 1) (w.alloc (.cells #[.int .i64 nd.op, .bool nd.fold, .bool nd.lazy, .int .i64 nd.mn, .int .i64 nd.mx, .int .i64 nd.cap, .string nd.name, .slice ro nd.runes.length rc, .slice so n sc] 36)) wr) (fun i _ => n - (intOf i).toNat)
    case atStart => exact ⟨0, Nat.zero_le _, rfl, rfl, Below.refl _ _⟩
    case round =>
      obtain ⟨k, hk, rfl, HA, hbox⟩ := hrel
      have hbel : Below w.heap.size w wr := (below1 w _).trans (hbox.mono (by omega))
      by_cases hkn : k < n
      · obtain ⟨s, hks⟩ := get_of_lt HN.out hkn
        rcases HSub.out with h0 | ⟨b, off, rfl, hb, hsub⟩
        · rw [h0] at hks; simp at hks
        · obtain ⟨cs', hcells, hrep⟩ := hsub k s hks
          have hkeep : Keeps S w wr := Keeps.of_below hbel HS.out
          obtain ⟨ro', rc', so', sc', rfl, c0, c1, c2, c3, c4, c5, c6, c7, c8⟩ := (Rep.keeps hkeep _ _ _ hrep).cells (hcells.keeps hkeep hb)
          have HRep := Lib.hid (Rep.keeps hkeep _ _ _ hrep)
          have hsz := hbel.size
          have hsz1 : w.heap.size + 1 ≤ wr.heap.size := by have := hbox.size; simp at this; exact this
          have HLt := Lib.hid (lt_below HS.out hsz)
          have HK := Lib.hid hks
          have HBox := Lib.hid hbox
          clear hsub hcells hrep hkeep hks hbox
          have hc : countedF d s = true ∨ countedF d s = false := by cases countedF d s <;> simp
          rcases hc with hc | hc
          · go_wp2_with (go_at_call 43; refine (IH.out s _ _ (HRep.out.alloc HLt.out _) (lt_below HLt.out (by simp))).mono ?_; rintro e w1 ⟨rfl, hb1⟩; rw [hc])
            go_ret
            have hbox2 := HBox.out.trans (((below1 wr _).trans (hb1.mono (by simp))).mono hsz1)
            refine ⟨ret_bool ?_, (below1 w _).trans (hbox2.mono (by omega))⟩
            rw [HF.out, anyT_get _ _ _ _ HK.out hc]; rfl
          · go_wp2_with (go_at_call 43; refine (IH.out s _ _ (HRep.out.alloc HLt.out _) (lt_below HLt.out (by simp))).mono ?_; rintro e w1 ⟨rfl, hb1⟩; rw [hc])
            have hbox2 := HBox.out.trans (((below1 wr _).trans (hb1.mono (by simp))).mono hsz1)
            go_roundw
            case rel => exact ⟨k + 1, by omega, by go_num, anyT_next _ _ _ _ HK.out HA.out hc, hbox2⟩
            case measure => simp [intOf]; omega
      · have hkn' : k = n := by omega
        subst hkn'
        have d0 : wr.cell? ⟨w.heap.size, 0, none⟩ = some (.int .i64 nd.op) := by rw [hbox.cell (p := ⟨w.heap.size, 0, none⟩) (Nat.lt_succ_self _)]; simp [World.cell?_alloc_new]
        have HBe := Lib.hid hbel
        have HT : Hid (subs.any (countedF d) = false) := by
          have h := HA.out
          rw [List.take_of_length_le (by rw [HN.out]; exact Nat.le_refl _)] at h
          exact h
        clear hbox hbel HA
        go_wp2
        go_ret
        refine ⟨ret_bool ?_, HBe.out⟩
        rw [HF.out, HT.out]; rfl
end Go.Proofs.Ytejhffcjamdffaa
