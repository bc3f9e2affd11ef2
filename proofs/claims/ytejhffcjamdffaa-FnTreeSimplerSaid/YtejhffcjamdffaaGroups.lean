/-
  The contract of the specification's Groups: the greatest number of a group. No conditions beside those typed.
-/
import Derived.Test.YtejhffcjamdffaaNode
namespace Go.Proofs.Ytejhffcjamdffaa
open Go.RowKit

/-- The greatest of a number and those of a list. -/
def maxs (m : Int) : List Int → Int
  | [] => m
  | x :: xs => maxs (if m < x then x else m) xs
theorem maxs_snoc (m : Int) (xs : List Int) (x : Int) : maxs m (xs ++ [x]) = if maxs m xs < x then x else maxs m xs := by
  induction xs generalizing m with
  | nil => rfl
  | cons y ys ih => exact ih _
theorem maxs_take (m x : Int) (gs : List Int) (k : Nat) (h : gs[k]? = some x) : maxs m (gs.take (k + 1)) = if maxs m (gs.take k) < x then x else maxs m (gs.take k) := by
  rw [List.take_add_one, h]; exact maxs_snoc _ _ _

/-- The greatest number of a group in a tree. -/
def groupsF : Nat → Nd → Int
  | 0, _ => 0
  | d + 1, nd => maxs nd.cap (nd.subs.map (groupsF d))

theorem get_of_lt {α : Type} {l : List α} {k n : Nat} (hn : l.length = n) (hk : k < n) : ∃ x, l[k]? = some x := ⟨l[k]'(by omega), List.getElem?_eq_getElem _⟩
theorem map_get {α β : Type} {l : List α} {f : α → β} {gs : List β} {k : Nat} {x : α} (hg : l.map f = gs) (h : l[k]? = some x) : gs[k]? = some (f x) := by rw [← hg, List.getElem?_map, h]; rfl

set_option maxRecDepth 100000 in
set_option maxHeartbeats 4000000 in
theorem groups_any (S : Nat → Prop) (d : Nat) : ∀ (nd : Nd) (cs : List Value) (w : World), Rep w S d nd cs → (∀ b, S b → b < w.heap.size) →
    Calls Try.prog 23 #[.agg cs.toArray] w fun e w' => e = .returned (.int .i64 (groupsF d nd)) ∧ Below w.heap.size w w' := by
  induction d with
  | zero => intro nd cs w h; cases h
  | succ d ih =>
    intro nd cs w h hS
    obtain ⟨ro, rc, so, sc, rfl, hfit, hr, hrb, hs⟩ := h.open
    have hn := hfit.1
    have IH := Lib.hid ih
    have HS := Lib.hid hS
    have HSub := Lib.hid hs
    clear ih h hr hrb hS hs hfit
    rw [groupsF]
    generalize hG : nd.subs.map (groupsF d) = gs
    have HG := Lib.hid hG
    generalize hN : nd.subs.length = n at *
    have HN := Lib.hid hN
    have HL : Hid (gs.length = n) := by rw [← hG, List.length_map]; exact hN
    clear hN hG
    go_enter Try.func23, Try.ntmps23
    go_wp2
    go_loopw [3, 11] (fun m i wr => ∃ k : Nat, k ≤ n ∧ i = .int .i64 k ∧ m = .int .i64 (maxs nd.cap (gs.take k)) ∧ Below w.heap.size w wr) (fun _ i _ => n - (intOf i).toNat)
    case atStart => exact ⟨0, Nat.zero_le _, rfl, rfl, below1 w _⟩
    case round =>
      obtain ⟨k, hk, rfl, rfl, hbel⟩ := hrel
      by_cases hkn : k < n
      · obtain ⟨s, hks⟩ := get_of_lt HN.out hkn
        rcases HSub.out with h0 | ⟨b, off, rfl, hb, hsub⟩
        · rw [h0] at hks; simp at hks
        · obtain ⟨cs', hcells, hrep⟩ := hsub k s hks
          have hkeep : Keeps S w wr := Keeps.of_below hbel HS.out
          obtain ⟨ro', rc', so', sc', rfl, c0, c1, c2, c3, c4, c5, c6, c7, c8⟩ := (Rep.keeps hkeep _ _ _ hrep).cells (hcells.keeps hkeep hb)
          have HRep := Lib.hid (Rep.keeps hkeep _ _ _ hrep)
          have hsz := hbel.size
          have HLt := Lib.hid (lt_below HS.out hsz)
          have HMx := Lib.hid (maxs_take nd.cap (groupsF d s) gs k (map_get HG.out hks))
          clear hsub hcells hrep hkeep hks
          go_wp2_with (go_at_call 23; refine (IH.out s _ _ (HRep.out.alloc HLt.out _) (lt_below HLt.out (by simp))).mono ?_; rintro e w1 ⟨rfl, hb1⟩)
          have hbel2 := hbel.trans ((below1 wr _).trans (hb1.mono (by simp)) |>.mono hsz)
          go_roundw
          case rel =>
            refine ⟨k + 1, by omega, by go_num, ?_, hbel2⟩
            rw [HMx.out]
          case measure => simp [intOf]; omega
      · have hkn' : k = n := by omega
        go_wp2
        go_ret
        refine ⟨ret_int ?_, hbel⟩
        subst hkn'
        rw [List.take_of_length_le (by rw [HL.out]; exact Nat.le_refl _)]
end Go.Proofs.Ytejhffcjamdffaa
