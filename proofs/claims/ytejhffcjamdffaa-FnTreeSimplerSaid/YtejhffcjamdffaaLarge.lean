/-
  The contract of large: how large an expression is. Condition: the bounds of its repetitions are at most 1000.
-/
import Derived.Test.YtejhffcjamdffaaRe
import Derived.Test.YtejhffcjamdffaaGroups
import Derived.WalkLawsBesides
namespace Go.Proofs.Ytejhffcjamdffaa
open Go.RowKit

/-- Repetitions have bounds from -1 to 1000. -/
def RxB : Nat → Rx → Prop
  | 0, _ => False
  | d + 1, rx => -1 ≤ rx.mn ∧ rx.mn ≤ 1000 ∧ -1 ≤ rx.mx ∧ rx.mx ≤ 1000 ∧ ∀ s, s ∈ rx.subs → RxB d s

def adds (m : Int) : List Int → Int
  | [] => m
  | x :: xs => adds (if 1000 < m + x then 1000 else m + x) xs
theorem adds_snoc (m : Int) (xs : List Int) (x : Int) : adds m (xs ++ [x]) = if 1000 < adds m xs + x then 1000 else adds m xs + x := by
  induction xs generalizing m with
  | nil => rfl
  | cons y ys ih => exact ih _
theorem adds_take (m x : Int) (gs : List Int) (k : Nat) (h : gs[k]? = some x) : adds m (gs.take (k + 1)) = if 1000 < adds m (gs.take k) + x then 1000 else adds m (gs.take k) + x := by
  rw [List.take_add_one, h]; exact adds_snoc _ _ _
theorem adds_bd (gs : List Int) : ∀ m : Int, 0 ≤ m → m ≤ 1000 → (∀ x, x ∈ gs → 0 ≤ x ∧ x ≤ 1000) → 0 ≤ adds m gs ∧ adds m gs ≤ 1000 := by
  induction gs with
  | nil => intro m h1 h2 _; exact ⟨h1, h2⟩
  | cons x xs ih =>
    intro m h1 h2 h3
    have hx := h3 x (by simp)
    rw [adds]
    refine ih _ ?_ ?_ (fun y hy => h3 y (by simp [hy]))
    · split <;> omega
    · split <;> omega

/-- How large an expression is. -/
def largeF : Nat → Rx → Int
  | 0, _ => 0
  | d + 1, rx =>
    let n := adds 1 (rx.subs.map (largeF d))
    if rx.kind = 5 then (if 1000 < n * max rx.mn (max rx.mx 1) then 1000 else n * max rx.mn (max rx.mx 1)) else n

theorem largeF_bd (d : Nat) : ∀ rx, 0 ≤ largeF d rx ∧ largeF d rx ≤ 1000 := by
  induction d with
  | zero => intro rx; simp [largeF]
  | succ d ih =>
    intro rx
    have hb := adds_bd (rx.subs.map (largeF d)) 1 (by omega) (by omega) (fun x hx => by
      obtain ⟨s, _, rfl⟩ := List.mem_map.1 hx
      exact ih s)
    simp only [largeF]
    split
    · have hm : 1 ≤ max rx.mn (max rx.mx 1) := by omega
      have := Int.mul_nonneg hb.1 (show 0 ≤ max rx.mn (max rx.mx 1) by omega)
      split <;> omega
    · exact hb

theorem prod_bd {a m : Int} (h1 : 0 ≤ a) (h2 : a ≤ 1000) (h3 : -1 ≤ m) (h4 : m ≤ 1000) : wrap64 (a * m) = a * m := by
  have e1 : a * m ≤ a * 1000 := Int.mul_le_mul_of_nonneg_left h4 h1
  have e2 : a * (-1) ≤ a * m := Int.mul_le_mul_of_nonneg_left h3 h1
  exact IntWalk.wrap64_in _ ⟨by omega, by omega⟩

set_option maxRecDepth 100000 in
set_option maxHeartbeats 4000000 in
theorem large_any (S : Nat → Prop) (d : Nat) : ∀ (rx : Rx) (cs : List Value) (w : World), ReRep w S d rx cs → RxB d rx → (∀ b, S b → b < w.heap.size) →
    Calls Try.prog 54 #[.agg cs.toArray] w fun e w' => e = .returned (.int .i64 (largeF d rx)) ∧ Below w.heap.size w w' := by
  induction d with
  | zero => intro rx cs w h; cases h
  | succ d ih =>
    intro rx cs w h hB hS
    obtain ⟨eo, en, ec, neg, lazy, cap, what, name, ao, c, rfl, hn, hs⟩ := h.open
    obtain ⟨hm1, hm2, hx1, hx2, hBs⟩ := hB
    have IH := Lib.hid ih
    have HS := Lib.hid hS
    have HSub := Lib.hid hs
    have HBs := Lib.hid hBs
    clear ih h hS hs hBs
    have HF : Hid (largeF (d + 1) rx = (if rx.kind = 5 then (if 1000 < adds 1 (rx.subs.map (largeF d)) * max rx.mn (max rx.mx 1) then 1000 else adds 1 (rx.subs.map (largeF d)) * max rx.mn (max rx.mx 1)) else adds 1 (rx.subs.map (largeF d)))) := rfl
    have HBd : Hid (∀ k, 0 ≤ adds 1 ((rx.subs.map (largeF d)).take k) ∧ adds 1 ((rx.subs.map (largeF d)).take k) ≤ 1000) := fun k => adds_bd _ _ (by omega) (by omega) (fun x hx => by
      obtain ⟨s, _, rfl⟩ := List.mem_map.1 (List.mem_of_mem_take hx)
      exact largeF_bd d s)
    generalize hG : rx.subs.map (largeF d) = gs at *
    have HG := Lib.hid hG
    generalize hN : rx.subs.length = n at *
    have HN := Lib.hid hN
    have HL : Hid (gs.length = n) := by rw [← hG, List.length_map]; exact hN
    clear hN hG
    go_enter Try.func54, Try.ntmps54
    go_wp2
    go_loopw [3, 9] (fun m i wr => ∃ k : Nat, k ≤ n ∧ i = .int .i64 k ∧ m = .int .i64 (adds 1 (gs.take k)) ∧ Below (w.heap.size + 1) (w.alloc (.cells #[.int .i64 rx.kind, .slice eo en ec, .bool neg, .int .i64 rx.mn, .int .i64 rx.mx, .bool lazy, .int .i64 cap, .string name, .int .i64 what, .slice ao n c] 63)) wr) (fun _ i _ => n - (intOf i).toNat)
    case atStart => exact ⟨0, Nat.zero_le _, rfl, rfl, Below.refl _ _⟩
    case round =>
      obtain ⟨k, hk, rfl, rfl, hbox⟩ := hrel
      have hbel : Below w.heap.size w wr := (below1 w _).trans (hbox.mono (by omega))
      by_cases hkn : k < n
      · obtain ⟨s, hks⟩ := get_of_lt HN.out hkn
        rcases HSub.out with h0 | ⟨b, off, rfl, hb, hsub⟩
        · rw [h0] at hks; simp at hks
        · obtain ⟨cs', hcells, hrep⟩ := hsub k s hks
          have hkeep : Keeps S w wr := Keeps.of_below hbel HS.out
          obtain ⟨eo', en', ec', neg', lazy', cap', what', name', ao', c', rfl, c0, c1, c2, c3, c4, c5, c6, c7, c8, c9⟩ := (ReRep.keeps hkeep _ _ _ hrep).cells (hcells.keeps hkeep hb)
          have HRep := Lib.hid (ReRep.keeps hkeep _ _ _ hrep)
          have hsz := hbel.size
          have HLt := Lib.hid (lt_below HS.out hsz)
          have HMx := Lib.hid (adds_take 1 (largeF d s) gs k (map_get HG.out hks))
          have HBk := Lib.hid (HBs.out s (List.mem_of_getElem? hks))
          have hsz1 : w.heap.size + 1 ≤ wr.heap.size := by have := hbox.size; simp at this; exact this
          have hb1 := (HBd.out k).1
          have hb2 := (HBd.out k).2
          have hb3 := (largeF_bd d s).1
          have hb4 := (largeF_bd d s).2
          have HBox := Lib.hid hbox
          clear hsub hcells hrep hkeep hks hbox
          go_wp2_with (go_at_call 54; refine (IH.out s _ _ (HRep.out.alloc HLt.out _) HBk.out (lt_below HLt.out (by simp))).mono ?_; rintro e w1 ⟨rfl, hb1⟩)
          have hbox2 := HBox.out.trans (((below1 wr _).trans (hb1.mono (by simp))).mono hsz1)
          go_roundw
          case rel =>
            refine ⟨k + 1, by omega, by go_num, ?_, hbox2⟩
            rw [HMx.out]
          case measure => simp [intOf]; omega
      · have hkn' : k = n := by omega
        subst hkn'
        have hlt : ∀ j, (⟨w.heap.size, j, none⟩ : Addr).block < w.heap.size + 1 := fun j => Nat.lt_succ_self _
        have d0 : wr.cell? ⟨w.heap.size, 0, none⟩ = some (.int .i64 rx.kind) := by rw [hbox.cell (hlt 0)]; simp [World.cell?_alloc_new]
        have d3 : wr.cell? ⟨w.heap.size, 3, none⟩ = some (.int .i64 rx.mn) := by rw [hbox.cell (hlt 3)]; simp [World.cell?_alloc_new]
        have d4 : wr.cell? ⟨w.heap.size, 4, none⟩ = some (.int .i64 rx.mx) := by rw [hbox.cell (hlt 4)]; simp [World.cell?_alloc_new]
        have HT : Hid (gs.take k = gs) := List.take_of_length_le (by rw [HL.out]; exact Nat.le_refl _)
        have hb1 := (HBd.out k).1
        have hb2 := (HBd.out k).2
        have HBe := Lib.hid hbel
        clear hbox hlt hbel
        rw [HT.out] at *
        generalize adds 1 gs = a at *
        have hk5 : (rx.kind == 5) = true ∨ (rx.kind == 5) = false := by cases rx.kind == 5 <;> simp
        rcases hk5 with hk5 | hk5
        · obtain ⟨m1, hm⟩ : ∃ m1, (if rx.mn < rx.mx then rx.mx else rx.mn) = m1 := ⟨_, rfl⟩
          obtain ⟨M, hM⟩ : ∃ M, (if m1 < 1 then 1 else m1) = M := ⟨_, rfl⟩
          have HMax : Hid (max rx.mn (max rx.mx 1) = M) := by
            have h1 := hm
            have h2 := hM
            split at h1 <;> split at h2 <;> (show _ = _; omega)
          have hM1 : -1 ≤ M := by have := HMax.out; omega
          have hM2 : M ≤ 1000 := by have := HMax.out; omega
          have hw := prod_bd hb1 hb2 hM1 hM2
          go_wp2
          all_goals
            go_ret
            refine ⟨ret_int ?_, HBe.out⟩
            rw [HF.out, if_pos (by simpa using hk5), HMax.out]
            generalize a * M = p at *
            split <;> omega
        · go_wp2
          go_ret
          refine ⟨ret_int ?_, HBe.out⟩
          rw [HF.out, if_neg (by simpa using hk5)]
end Go.Proofs.Ytejhffcjamdffaa
