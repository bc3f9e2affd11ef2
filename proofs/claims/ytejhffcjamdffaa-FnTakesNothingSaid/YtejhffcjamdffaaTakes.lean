/-
  The contracts of MatchEmptyWidth at each single condition, of TakesNothing, and of the law FnTakesNothing. Condition of the first two: the runes are not below -1.
-/
import Derived.Test.YtejhffcjamdffaaInst
import Derived.Test.YtejhffcjamdffaaPub
namespace Go.Proofs.Ytejhffcjamdffaa
open Go.RowKit

/-- Whether the condition m holds between two runes. -/
def holdsB (m a b : Int) : Bool := bits BinOp.and IntKind.i64 (ctxN a b) m != 0

theorem cls2 (a : Int) (h : -1 ≤ a) : (decide (a < 0) = true ∧ (a == 10) = false ∧ wordB a = false ∧ (a == -1) = true) ∨ (decide (a < 0) = false ∧ (a == 10) = true ∧ wordB a = false ∧ (a == -1) = false) ∨
    (decide (a < 0) = false ∧ (a == 10) = false ∧ wordB a = true ∧ (a == -1) = false) ∨ (decide (a < 0) = false ∧ (a == 10) = false ∧ wordB a = false ∧ (a == -1) = false) := by
  unfold wordB
  simp only [decide_eq_true_eq, decide_eq_false_iff_not, beq_eq_false_iff_ne, beq_iff_eq, ne_eq]
  omega

set_option maxHeartbeats 8000000 in
theorem match_empty (m a b : Int) (g : Nat) (w : World) (hm : m = 1 ∨ m = 2 ∨ m = 4 ∨ m = 8 ∨ m = 16 ∨ m = 32) (ha : -1 ≤ a) (hb : -1 ≤ b) (hc : w.cell? ⟨g, 2, none⟩ = some (.int .u32 m)) :
    Calls Try.prog 49 #[.pointer (some ⟨g, 0, none⟩), .int .i32 a, .int .i32 b] w fun e w' => e = .returned (.bool (holdsB m a b)) ∧ w = w' := by
  rcases cls2 a ha with ⟨a0, a1, aw, a2⟩ | ⟨a0, a1, aw, a2⟩ | ⟨a0, a1, aw, a2⟩ | ⟨a0, a1, aw, a2⟩
  all_goals
    rcases cls2 b hb with ⟨b0, b1, bw, b2⟩ | ⟨b0, b1, bw, b2⟩ | ⟨b0, b1, bw, b2⟩ | ⟨b0, b1, bw, b2⟩
    all_goals
      have H : Hid (∀ m, holdsB m a b = (bits BinOp.and IntKind.i64 (cx (decide (a < 0)) (a == 10) (wordB a) (decide (b < 0)) (b == 10) (wordB b)) m != 0)) := fun m => rfl
      rw [a0, a1, aw, b0, b1, bw] at H
      clear ha hb
      rcases hm with rfl | rfl | rfl | rfl | rfl | rfl
      all_goals
        go_enter Try.func49, Try.ntmps49
        go_wp2_with (go_at_call 46; refine (pub_word _ _).mono ?_; rintro e w' ⟨rfl, rfl⟩)
        go_ret
        refine ⟨ret_bool ?_, rfl⟩
        rw [H.out]
        rfl
end Go.Proofs.Ytejhffcjamdffaa
