/-
  The contract of Of, at every right tree; the bounds of what it makes.
-/
import Derived.Test.YtejhffcjamdffaaOfSubs
import Derived.Test.YtejhffcjamdffaaOfLit
namespace Go.Proofs.Ytejhffcjamdffaa
open Go.RowKit

theorem of_any (S : Nat → Prop) (d : Nat) : OfIH S d := by
  induction d with
  | zero => intro nd cs w h; cases h
  | succ d ih =>
    intro nd cs w h hok hS
    have hr := hok.1.range
    by_cases h3 : nd.op = 3
    · exact of_lit S d nd cs w h h3 (hok.1.lit h3).2 hS
    · by_cases h12 : 2 ≤ nd.op ∧ nd.op ≤ 12
      · exact of_leaf S d nd cs w h h12.1 h3 h12.2
      · exact of_subs S d (Lib.hid ih) nd cs w h hok hS (by omega)

theorem rxb_mk {d : Nat} {kind mn mx : Int} {subs : List Rx} (h1 : -1 ≤ mn) (h2 : mn ≤ 1000) (h3 : -1 ≤ mx) (h4 : mx ≤ 1000) (hs : ∀ s, s ∈ subs → RxB d s) : RxB (d + 1) (.mk kind mn mx subs) := ⟨h1, h2, h3, h4, hs⟩
theorem rxb_of (d : Nat) : ∀ nd, OkF d nd → RxB (d + 1) (ofF d nd) := by
  induction d with
  | zero => intro nd h; cases h
  | succ d ih =>
    intro nd h
    have hs : ∀ s, s ∈ nd.subs.map (ofF d) → RxB (d + 1) s := fun s hs => by
      obtain ⟨x, hx, rfl⟩ := List.mem_map.1 hs
      exact ih x (h.2 x hx)
    have hmn := h.1.top.bounds
    have hrep := h.1.rep
    rw [ofF]
    by_cases h2 : nd.op = 2
    · rw [if_pos h2]; exact rxb_mk (by decide) (by decide) (by decide) (by decide) (fun s hs => by cases hs)
    rw [if_neg h2]
    by_cases h3 : nd.op = 3
    · rw [if_pos h3]
      refine rxb_mk (by decide) (by decide) (by decide) (by decide) (fun s hs => ?_)
      obtain ⟨x, hx, rfl⟩ := List.mem_map.1 hs
      exact rxb_mk (by decide) (by decide) (by decide) (by decide) (fun s hs => by cases hs)
    rw [if_neg h3]
    by_cases h4 : nd.op = 4 ∨ nd.op = 5 ∨ nd.op = 6
    · rw [if_pos h4]; exact rxb_mk (by decide) (by decide) (by decide) (by decide) (fun s hs => by cases hs)
    rw [if_neg h4]
    by_cases h7 : 7 ≤ nd.op ∧ nd.op ≤ 12
    · rw [if_pos h7]; exact rxb_mk (by decide) (by decide) (by decide) (by decide) (fun s hs => by cases hs)
    rw [if_neg h7]
    by_cases h13 : nd.op = 13
    · rw [if_pos h13]; have := hmn (by omega); exact rxb_mk (by omega) (by omega) (by omega) (by omega) hs
    rw [if_neg h13]
    by_cases h14 : nd.op = 14
    · rw [if_pos h14]; exact rxb_mk (by decide) (by decide) (by decide) (by decide) hs
    rw [if_neg h14]
    by_cases h15 : nd.op = 15
    · rw [if_pos h15]; exact rxb_mk (by decide) (by decide) (by decide) (by decide) hs
    rw [if_neg h15]
    by_cases h16 : nd.op = 16
    · rw [if_pos h16]; exact rxb_mk (by decide) (by decide) (by decide) (by decide) hs
    rw [if_neg h16]
    by_cases h17 : nd.op = 17
    · rw [if_pos h17]
      have := hrep h17
      exact rxb_mk (by omega) (by omega) (by omega) (by omega) hs
    rw [if_neg h17]
    have := hmn h17
    split
    · exact rxb_mk (by omega) (by omega) (by omega) (by omega) hs
    split
    · exact rxb_mk (by omega) (by omega) (by omega) (by omega) hs
    · exact rxb_mk (by omega) (by omega) (by omega) (by omega) hs
end Go.Proofs.Ytejhffcjamdffaa
