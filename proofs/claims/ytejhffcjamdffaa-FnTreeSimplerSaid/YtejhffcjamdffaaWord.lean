/-
  The contracts of the functions that tell whether a rune is of words: they return one plain Boolean of the rune and leave the world as it was. No conditions.
-/
import Derived.Test.YtejhffcjamdffaaRows
import Derived.WalkKit
namespace Go.Proofs.Ytejhffcjamdffaa
open Go.RowKit

/-- Whether a rune is of words. -/
def wordB (r : Int) : Bool := decide (48 ≤ r ∧ r ≤ 57 ∨ 65 ≤ r ∧ r ≤ 90 ∨ r = 95 ∨ 97 ≤ r ∧ r ≤ 122)

theorem wordB_cases (r : Int) : r < 48 ∨ (48 ≤ r ∧ r ≤ 57) ∨ (58 ≤ r ∧ r ≤ 64) ∨ (65 ≤ r ∧ r ≤ 90) ∨ (91 ≤ r ∧ r ≤ 94) ∨ r = 95 ∨ r = 96 ∨ (97 ≤ r ∧ r ≤ 122) ∨ 123 ≤ r := by omega
theorem ret_bool {b c : Bool} (h : b = c) : Ending.returned (.bool b) = .returned (.bool c) := by rw [h]
theorem ret_int {k : IntKind} {a b : Int} (h : a = b) : Ending.returned (.int k a) = .returned (.int k b) := by rw [h]

set_option maxHeartbeats 400000 in
theorem spec_word (r : Int) (w : World) : Calls Try.prog 15 #[.int .i32 r] w fun e w' => e = .returned (.bool (wordB r)) ∧ w = w' := by
  rcases wordB_cases r with h | ⟨h, h'⟩ | ⟨h, h'⟩ | ⟨h, h'⟩ | ⟨h, h'⟩ | rfl | rfl | ⟨h, h'⟩ | h
  all_goals
    go_enter Try.func15, Try.ntmps15
    go_wp2
    go_ret
    refine ⟨ret_bool ?_, rfl⟩
    rw [Bool.eq_iff_iff]
    simp [wordB]
    try omega

set_option maxHeartbeats 400000 in
theorem pub_word (r : Int) (w : World) : Calls Try.prog 46 #[.int .i32 r] w fun e w' => e = .returned (.bool (wordB r)) ∧ w = w' := by
  rcases wordB_cases r with h | ⟨h, h'⟩ | ⟨h, h'⟩ | ⟨h, h'⟩ | ⟨h, h'⟩ | rfl | rfl | ⟨h, h'⟩ | h
  all_goals
    go_enter Try.func46, Try.ntmps46
    go_wp2
    go_ret
    refine ⟨ret_bool ?_, rfl⟩
    rw [Bool.eq_iff_iff]
    simp [wordB]
    try omega

theorem impl_word (r : Int) (w : World) : Calls Try.prog 14 #[.int .i32 r] w fun e w' => e = .returned (.bool (wordB r)) ∧ w = w' := by
  go_enter Try.func14, Try.ntmps14
  go_wp2_with (go_at_call 46; refine (pub_word _ _).mono ?_; rintro e w' ⟨rfl, rfl⟩)
  go_ret
  exact ⟨rfl, rfl⟩

theorem law_word (r : Int) (w : World) : Calls Try.prog 3 #[.int .i32 r] w fun e w' => e = .returned (.bool true) ∧ w = w' := by
  go_enter Try.func3, Try.ntmps3
  go_wp2_with (first | (go_at_call 14; refine (impl_word _ _).mono ?_; rintro e w' ⟨rfl, rfl⟩) | (go_at_call 15; refine (spec_word _ _).mono ?_; rintro e w' ⟨rfl, rfl⟩))
  go_ret
  exact ⟨ret_bool (by simp), rfl⟩
end Go.Proofs.Ytejhffcjamdffaa
