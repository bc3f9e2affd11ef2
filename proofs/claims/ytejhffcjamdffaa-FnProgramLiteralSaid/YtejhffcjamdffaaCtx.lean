/-
  The contracts of the functions that tell the conditions of a place between two runes. No conditions; the specification's function makes one new block and turns nothing else.
-/
import Derived.Test.YtejhffcjamdffaaWord
import Derived.Handy
namespace Go.Proofs.Ytejhffcjamdffaa
open Go.RowKit

/-- The conditions between two runes out of what is known of each: below 0, the end of a line, of a word. -/
def cx (a0 a1 aw b0 b1 bw : Bool) : Int :=
  (if a0 || a1 then 1 else 0) + (if b0 || b1 then 2 else 0) + (if a0 then 4 else 0) + (if b0 then 8 else 0) + (if aw == bw then 32 else 16)
/-- The conditions between two runes, as a sum of bits. -/
def ctxN (a b : Int) : Int := cx (decide (a < 0)) (a == 10) (wordB a) (decide (b < 0)) (b == 10) (wordB b)

theorem cls (a : Int) : (decide (a < 0) = true ∧ (a == 10) = false ∧ wordB a = false) ∨ (decide (a < 0) = false ∧ (a == 10) = true ∧ wordB a = false) ∨
    (decide (a < 0) = false ∧ (a == 10) = false ∧ wordB a = true) ∨ (decide (a < 0) = false ∧ (a == 10) = false ∧ wordB a = false) := by
  unfold wordB
  simp only [decide_eq_true_eq, decide_eq_false_iff_not, beq_eq_false_iff_ne, beq_iff_eq]
  omega

set_option maxHeartbeats 4000000 in
theorem spec_context (a b : Int) (w : World) : Calls Try.prog 17 #[.int .i32 a, .int .i32 b] w fun e w' => e = .returned (.int .i64 (ctxN a b)) ∧ Below w.heap.size w w' := by
  rcases cls a with ⟨a0, a1, aw⟩ | ⟨a0, a1, aw⟩ | ⟨a0, a1, aw⟩ | ⟨a0, a1, aw⟩
  all_goals
    rcases cls b with ⟨b0, b1, bw⟩ | ⟨b0, b1, bw⟩ | ⟨b0, b1, bw⟩ | ⟨b0, b1, bw⟩
    all_goals
      go_enter Try.func17, Try.ntmps17
      go_wp2_with (go_at_call 15; refine (spec_word _ _).mono ?_; rintro e w' ⟨rfl, rfl⟩)
      go_rounds 7
      go_ret
      refine ⟨?_, (Below.refl _ _).alloc (Nat.le_refl _) _⟩
      refine ret_int ?_
      rw [ctxN, a0, a1, aw, b0, b1, bw]
      rfl
end Go.Proofs.Ytejhffcjamdffaa
