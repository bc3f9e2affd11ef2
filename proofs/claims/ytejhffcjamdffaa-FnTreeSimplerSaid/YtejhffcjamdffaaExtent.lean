/-
  The contracts of extent (it returns two numbers) and of zzFits1 (it returns a Boolean). No conditions beside those typed.
-/
import Derived.Test.YtejhffcjamdffaaGroups
namespace Go.Proofs.Ytejhffcjamdffaa
open Go.RowKit

/-- What extent returns: two numbers. -/
def TwoInts (B : Nat) (w : World) (e : Ending) (w' : World) : Prop := (∃ x y : Int, e = .returned (.tuple #[.int .i64 x, .int .i64 y])) ∧ Below B w w'

set_option maxRecDepth 100000 in
set_option maxHeartbeats 4000000 in
theorem extent_any (S : Nat → Prop) (d : Nat) : ∀ (nd : Nd) (cs : List Value) (w : World), Rep w S d nd cs → (∀ b, S b → b < w.heap.size) →
    Calls Try.prog 52 #[.agg cs.toArray] w (TwoInts w.heap.size w) := by
  induction d with
  | zero => intro nd cs w h; cases h
  | succ d ih =>
    intro nd cs w h hS
    obtain ⟨ro, rc, so, sc, rfl, hfit, hr, hrb, hs⟩ := h.open
    have hn := hfit.1
    have IH := Lib.hid ih
    have HS := Lib.hid hS
    have HSub := Lib.hid hs
    clear ih h hr hrb hS hs hfit
    generalize hN : nd.subs.length = n at *
    have HN := Lib.hid hN
    clear hN
    go_enter Try.func52, Try.ntmps52
    go_wp2
    go_loopw [4, 5, 13] (fun x y i wr => ∃ (k : Nat) (a b : Int), k ≤ n ∧ i = .int .i64 k ∧ x = .int .i64 a ∧ y = .int .i64 b ∧ Below w.heap.size w wr) (fun _ _ i _ => n - (intOf i).toNat)
    case atStart => exact ⟨0, _, _, Nat.zero_le _, rfl, rfl, rfl, below1 w _⟩
    case round =>
      obtain ⟨k, x, y, hk, rfl, rfl, rfl, hbel⟩ := hrel
      by_cases hkn : k < n
      · obtain ⟨s, hks⟩ := get_of_lt HN.out hkn
        rcases HSub.out with h0 | ⟨b, off, rfl, hb, hsub⟩
        · rw [h0] at hks; simp at hks
        · obtain ⟨cs', hcells, hrep⟩ := hsub k s hks
          have hkeep : Keeps S w wr := Keeps.of_below hbel HS.out
          obtain ⟨ro', rc', so', sc', rfl, c0, c1, c2, c3, c4, c5, c6, c7, c8⟩ := (Rep.keeps hkeep _ _ _ hrep).cells (hcells.keeps hkeep hb)
          have HRep := Lib.hid (Rep.keeps hkeep _ _ _ hrep)
          have hsz := hbel.size
          have HLt := Lib.hid (lt_below HS.out hsz)
          clear hsub hcells hrep hkeep hks
          go_wp2_with (go_at_call 52; refine (IH.out s _ _ (HRep.out.alloc HLt.out _) (lt_below HLt.out (by simp))).mono ?_; rintro e w1 ⟨⟨x1, y1, rfl⟩, hb1⟩)
          have hbel2 := hbel.trans ((below1 wr _).trans (hb1.mono (by simp)) |>.mono hsz)
          go_roundw
          case rel => exact ⟨k + 1, _, _, by omega, by go_num, rfl, rfl, hbel2⟩
          case measure => simp [intOf]; omega
      · go_wp2
        go_ret2
        exact ⟨⟨_, _, rfl⟩, hbel⟩

def OneBool (B : Nat) (w : World) (e : Ending) (w' : World) : Prop := (∃ b : Bool, e = .returned (.bool b)) ∧ Below B w w'

set_option maxRecDepth 100000 in
set_option maxHeartbeats 4000000 in
theorem fits1_any (S : Nat → Prop) (d : Nat) (nd : Nd) (cs : List Value) (w : World) (h : Rep w S d nd cs) :
    Calls Try.prog 20 #[.agg cs.toArray] w (OneBool w.heap.size w) := by
  cases d with
  | zero => cases h
  | succ d =>
    obtain ⟨ro, rc, so, sc, rfl, hfit, hr, hrb, hs⟩ := h.open
    obtain ⟨h1, h2, h3⟩ := hfit
    clear h hr hrb hs
    go_enter Try.func20, Try.ntmps20
    go_wp2
    all_goals
      go_ret
      exact ⟨⟨_, rfl⟩, below1 w _⟩
end Go.Proofs.Ytejhffcjamdffaa
