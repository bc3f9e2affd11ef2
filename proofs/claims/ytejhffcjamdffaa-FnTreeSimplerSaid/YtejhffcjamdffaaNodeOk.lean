/-
  The contract of nodeOk: it returns a Boolean; where that is true the nodes of the tree are as the statements speak of them. No conditions beside those typed. (The scenarios' names were printed by a program.)
-/
import Derived.Test.YtejhffcjamdffaaExtent
import Derived.Test.YtejhffcjamdffaaPairs
import Derived.Test.YtejhffcjamdffaaOk
import Derived.Deep.DeepCutAuto
namespace Go.Proofs.Ytejhffcjamdffaa
open Go.RowKit

theorem below_dn {B : Nat} {a w : World} (h : Below B a w) (n : Nat) : Below B a (w.drewN n) := h.trans ⟨rfl, rfl, rfl, Nat.le_refl _, fun _ _ => rfl⟩

/-- What nodeOk returns. -/
def OkPost (d : Nat) (nd : Nd) (B : Nat) (w : World) (e : Ending) (w' : World) : Prop := (∃ r : Bool, e = .returned (.bool r) ∧ (r = true → OkF d nd)) ∧ Below B w w'

set_option maxRecDepth 100000 in
set_option maxHeartbeats 16000000 in
theorem nodeok_any (S : Nat → Prop) (d : Nat) : ∀ (nd : Nd) (cs : List Value) (w : World), Rep w S d nd cs → (∀ b, S b → b < w.heap.size) →
    Calls Try.prog 53 #[.agg cs.toArray] w (OkPost d nd w.heap.size w) := by
  induction d with
  | zero => intro nd cs w h; cases h
  | succ d ih =>
    intro nd cs w h hS
    obtain ⟨ro, rc, so, sc, rfl, hfit, hr, hrb, hs⟩ := h.open
    obtain ⟨hn, hrn, hnm⟩ := hfit
    have IH := Lib.hid ih
    have HS := Lib.hid hS
    have HSub := Lib.hid hs
    have HR := Lib.hid hr
    have HRB := Lib.hid hrb
    clear ih h hr hrb hS hs
    obtain ⟨W0, hW0⟩ : ∃ W0 : World, W0 = w.alloc (.cells #[.int .i64 nd.op, .bool nd.fold, .bool nd.lazy, .int .i64 nd.mn, .int .i64 nd.mx, .int .i64 nd.cap, .string nd.name, .slice ro nd.runes.length rc, .slice so nd.subs.length sc] 36) := ⟨_, rfl⟩
    have b0 : W0.cell? ⟨w.heap.size, 0, none⟩ = some (.int .i64 nd.op) := by rw [hW0]; simp [World.cell?_alloc_new]
    have b1 : W0.cell? ⟨w.heap.size, 1, none⟩ = some (.bool nd.fold) := by rw [hW0]; simp [World.cell?_alloc_new]
    have b2 : W0.cell? ⟨w.heap.size, 2, none⟩ = some (.bool nd.lazy) := by rw [hW0]; simp [World.cell?_alloc_new]
    have b3 : W0.cell? ⟨w.heap.size, 3, none⟩ = some (.int .i64 nd.mn) := by rw [hW0]; simp [World.cell?_alloc_new]
    have b4 : W0.cell? ⟨w.heap.size, 4, none⟩ = some (.int .i64 nd.mx) := by rw [hW0]; simp [World.cell?_alloc_new]
    have b5 : W0.cell? ⟨w.heap.size, 5, none⟩ = some (.int .i64 nd.cap) := by rw [hW0]; simp [World.cell?_alloc_new]
    have b6 : W0.cell? ⟨w.heap.size, 6, none⟩ = some (.string nd.name) := by rw [hW0]; simp [World.cell?_alloc_new]
    have b7 : W0.cell? ⟨w.heap.size, 7, none⟩ = some (.slice ro nd.runes.length rc) := by rw [hW0]; simp [World.cell?_alloc_new]
    have b8 : W0.cell? ⟨w.heap.size, 8, none⟩ = some (.slice so nd.subs.length sc) := by rw [hW0]; simp [World.cell?_alloc_new]
    have HBel : Hid (Below w.heap.size w W0) := by rw [hW0]; exact below1 w _
    have hz0 : W0.heap.size = w.heap.size + 1 := by rw [hW0]; simp
    have HZ0 := Lib.hid hz0
    have HW0 : Hid (W0 = w.alloc (.cells #[.int .i64 nd.op, .bool nd.fold, .bool nd.lazy, .int .i64 nd.mn, .int .i64 nd.mx, .int .i64 nd.cap, .string nd.name, .slice ro nd.runes.length rc, .slice so nd.subs.length sc] 36)) := hW0
    clear hW0 hz0
    go_enter Try.func53, Try.ntmps53
    go_upto_region 1 with (fail)
    dsimp only [List.append]
    rw [← HW0.out]
    go_cut [0, 71] (fun _ s wx => ∃ b : Bool, s = .bool b ∧ Hid (b = topB nd) ∧ wx = W0)
    case first =>
      rcases top_scen nd with ⟨f0, f1, f2, f3, f4, f5, f6, HT⟩ | ⟨f0, f1, f2, f3, f4, f5, f6, f7, HT⟩ | ⟨f0, f1, f2, f3, f4, f5, f6, f7, f8, HT⟩ | ⟨f0, f1, f2, f3, f4, f5, f6, f7, f8, HT⟩ | ⟨f0, f1, f2, f3, f4, f5, f6, HT⟩ | ⟨f0, f1, f2, f3, f4, f5, f6, f7, f8, HT⟩ | ⟨f0, f1, f2, f3, f4, f5, f6, f7, HT⟩ | ⟨f0, f1, f2, f3, f4, f5, f6, f7, f8, f9, HT⟩ | ⟨f0, f1, f2, f3, f4, f5, HT⟩ | ⟨f0, f1, f2, f3, f4, f5, f6, HT⟩ | ⟨f0, f1, f2, f3, f4, f5, f6, HT⟩ | ⟨f0, f1, f2, f3, f4, f5, f6, f7, f8, HT⟩ | ⟨f0, f1, f2, f3, f4, f5, HT⟩ | ⟨f0, f1, f2, f3, f4, f5, f6, HT⟩ | ⟨f0, f1, f2, f3, f4, f5, f6, f7, HT⟩ | ⟨f0, f1, f2, f3, f4, f5, f6, f7, f8, f9, HT⟩ | ⟨f0, f1, f2, f3, f4, f5, f6, HT⟩ | ⟨f0, f1, f2, f3, f4, f5, f6, f7, HT⟩ | ⟨f0, f1, f2, f3, HT⟩ | ⟨f0, f1, f2, f3, f4, HT⟩ | ⟨f0, f1, f2, f3, f4, f5, f6, f7, f8, HT⟩ | ⟨f0, f1, f2, f3, f4, f5, f6, f7, f8, f9, f10, HT⟩ | ⟨f0, f1, f2, f3, f4, f5, f6, f7, HT⟩ | ⟨f0, f1, f2, f3, f4, f5, f6, f7, f8, HT⟩ | ⟨f0, f1, f2, f3, f4, f5, f6, f7, f8, HT⟩ | ⟨f0, f1, f2, f3, f4, f5, f6, f7, f8, f9, f10, HT⟩ | ⟨f0, f1, f2, f3, f4, f5, f6, f7, HT⟩ | ⟨f0, f1, f2, f3, f4, f5, f6, f7, f8, HT⟩ | ⟨f0, f1, f2, f3, f4, f5, f6, f7, f8, f9, HT⟩ | ⟨f0, f1, f2, f3, f4, f5, f6, f7, f8, f9, f10, f11, HT⟩ | ⟨f0, f1, f2, f3, f4, f5, f6, f7, f8, HT⟩ | ⟨f0, f1, f2, f3, f4, f5, f6, f7, f8, f9, HT⟩ | ⟨f0, f1, f2, f3, f4, f5, HT⟩ | ⟨f0, f1, f2, f3, f4, f5, f6, HT⟩ | ⟨f0, f1, f2, HT⟩ | ⟨f0, f1, f2, f3, HT⟩ | ⟨f0, f1, f2, f3, f4, f5, f6, f7, HT⟩ | ⟨f0, f1, f2, f3, f4, f5, f6, f7, HT⟩ | ⟨f0, f1, f2, f3, f4, f5, f6, HT⟩ | ⟨f0, f1, f2, f3, f4, f5, f6, f7, HT⟩ | ⟨f0, f1, f2, f3, f4, HT⟩ | ⟨f0, f1, f2, f3, f4, f5, HT⟩ | ⟨f0, f1, f2, f3, HT⟩ | ⟨f0, f1, HT⟩
      all_goals
        as_aux_lemma =>
          go_wp2_with fail
          go_meet
          exact ⟨_, rfl, HT, rfl⟩
    case rest =>
      obtain ⟨bt, rfl, hbt, rfl⟩ := hcut
      cases bt
      rotate_left
      · go_wp2
        go_ret
        exact ⟨⟨_, rfl, fun h => by cases h⟩, HBel.out⟩
      · have HT := Lib.hid (top_of nd hbt.out)
        clear hbt
        generalize hN : nd.subs.length = n at *
        have HN := Lib.hid hN
        clear hN
        go_wp2
        go_loopw [75] (fun i wr => ∃ k : Nat, k ≤ n ∧ i = .int .i64 k ∧ Hid (∀ s, s ∈ nd.subs.take k → OkF d s) ∧ Below (w.heap.size + 1) wc wr) (fun i _ => n - (intOf i).toNat)
        case atStart => exact ⟨0, Nat.zero_le _, rfl, (fun s hs => by simp at hs), Below.refl _ _⟩
        case round =>
          obtain ⟨k, hk, rfl, HOk, hbel⟩ := hrel
          have hbw : Below w.heap.size w wr := HBel.out.trans (hbel.mono (by omega))
          have hsz := hbw.size
          by_cases hkn : k < n
          · obtain ⟨s, hks⟩ := get_of_lt HN.out hkn
            rcases HSub.out with h0 | ⟨b, off, rfl, hb, hsub⟩
            · rw [h0] at hks; simp at hks
            · obtain ⟨cs', hcells, hrep⟩ := hsub k s hks
              have hkeep : Keeps S w wr := Keeps.of_below hbw HS.out
              obtain ⟨ro', rc', so', sc', rfl, c0, c1, c2, c3, c4, c5, c6, c7, c8⟩ := (Rep.keeps hkeep _ _ _ hrep).cells (hcells.keeps hkeep hb)
              have HRep := Lib.hid (Rep.keeps hkeep _ _ _ hrep)
              have HLt := Lib.hid (lt_below HS.out hsz)
              have HKs := Lib.hid hks
              have HBW := Lib.hid hbw
              have HBe := Lib.hid hbel
              have hsz1 : w.heap.size + 1 ≤ wr.heap.size := by have := hbel.size; rw [HZ0.out] at this; exact this
              clear hsub hcells hrep hkeep hks b0 b1 b2 b3 b4 b5 b6 b7 b8 hbw hbel
              go_wp2_with fail
              refine (IH.out s _ _ (HRep.out.alloc HLt.out _) (lt_below HLt.out (by simp))).mono ?_
              rintro e w1 ⟨⟨r, rfl, hr⟩, hb1⟩
              have HRes := Lib.hid hr
              clear hr
              cases r
              · go_wp2
                go_ret
                exact ⟨⟨_, rfl, fun h => by cases h⟩, HBW.out.trans (((below1 wr _).trans (hb1.mono (by simp))).mono hsz)⟩
              · go_wp2
                have hbel2 := HBe.out.trans (((below1 wr _).trans (hb1.mono (by simp))).mono hsz1)
                go_roundw
                case rel =>
                  refine ⟨k + 1, by omega, by go_num, ?_, hbel2⟩
                  intro x hx
                  rw [List.take_add_one, HKs.out] at hx
                  rcases List.mem_append.1 hx with hx | hx
                  · exact HOk.out x hx
                  · simp at hx
                    subst hx
                    exact HRes.out (by trivial)
                case measure => simp [intOf]; omega
          · have hkn' : k = n := by omega
            subst hkn'
            have HAll : Hid (∀ s, s ∈ nd.subs → OkF d s) := by
              intro s hs
              exact HOk.out s (by rw [List.take_of_length_le (by rw [HN.out]; exact Nat.le_refl _)]; exact hs)
            have hlt : ∀ j, (⟨w.heap.size, j, none⟩ : Addr).block < w.heap.size + 1 := fun j => Nat.lt_succ_self _
            have d0 := (hbel.cell (hlt 0)).trans b0
            have d3 := (hbel.cell (hlt 3)).trans b3
            have d4 := (hbel.cell (hlt 4)).trans b4
            have d5 := (hbel.cell (hlt 5)).trans b5
            have d6 := (hbel.cell (hlt 6)).trans b6
            have d7 := (hbel.cell (hlt 7)).trans b7
            have d8 := (hbel.cell (hlt 8)).trans b8
            have HR2 := Lib.hid (RowN.keeps HR.out (Keeps.of_below hbw HS.out) HRB.out)
            have HBW := Lib.hid hbw
            have HL := Lib.hid HN.out
            clear hbw hbel b0 b1 b2 b3 b4 b5 b6 b7 b8 hlt HBel
            rcases op_classes nd.op with ⟨c, HC⟩ | ⟨c, HC⟩ | ⟨c1, c2, c3, c4, HC⟩ | ⟨c, HC⟩ | ⟨c1, c2, c3, c4, c5, c6, c7, HC⟩ | ⟨c, HC⟩ | ⟨c, HC⟩ | ⟨c, HC⟩ | ⟨c1, c2, c3, c4, c5, c6, c7, c8, c9, c10, HC⟩ | ⟨c1, c2, c3, c4, c5, c6, c7, c8, HC⟩
            all_goals
             as_aux_lemma =>
              go_wp2_with (first | (go_at_call 36; refine (contains_strange _ nd.runes _ HR2.out (by omega)).mono ?_; rintro e w1 ⟨rfl, rfl⟩) | (go_at_call 78; refine (pairs_any _ nd.runes _ HR2.out (by omega)).mono ?_; rintro e w1 ⟨⟨r, rfl⟩, m, rfl⟩))
              all_goals
                go_ret
                refine ⟨⟨_, rfl, fun hr => ?_⟩, by first | exact HBW.out | exact below_dn HBW.out _⟩
                have hC := HC.out
                have hNN := HN.out
                first
                  | (exfalso; simp at hr; done)
                  | (exfalso; clear d0 d3 d4 d5 d6 d7 d8; simp at hr; omega)
                  | (refine ⟨⟨HT.out, ?_, ?_, ?_, ?_, ?_, ?_, ?_⟩, HAll.out⟩ <;> clear d0 d3 d4 d5 d6 d7 d8 <;> (try simp at hr) <;> omega)
end Go.Proofs.Ytejhffcjamdffaa
