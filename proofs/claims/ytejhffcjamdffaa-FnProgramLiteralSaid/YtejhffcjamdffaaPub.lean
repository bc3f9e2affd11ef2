/-
  The contracts of the package's EmptyOpContext, of the thin package's Context and of the law FnContext. No conditions.
-/
import Derived.Test.YtejhffcjamdffaaCtx
namespace Go.Proofs.Ytejhffcjamdffaa
open Go.RowKit

theorem cx_bd : ∀ a0 a1 aw b0 b1 bw : Bool, 0 ≤ cx a0 a1 aw b0 b1 bw ∧ cx a0 a1 aw b0 b1 bw < 64 := by decide
theorem ctx_bd (a b : Int) : 0 ≤ ctxN a b ∧ ctxN a b < 64 := cx_bd _ _ _ _ _ _
theorem ctx_wrap (a b : Int) : wrap64 (ctxN a b) = ctxN a b := by
  have h := ctx_bd a b
  exact IntWalk.wrap64_in _ ⟨by omega, by omega⟩

set_option maxHeartbeats 4000000 in
theorem pub_context (a b : Int) (w : World) : Calls Try.prog 47 #[.int .i32 a, .int .i32 b] w fun e w' => e = .returned (.int .u8 (ctxN a b)) ∧ w = w' := by
  rcases cls a with ⟨a0, a1, aw⟩ | ⟨a0, a1, aw⟩ | ⟨a0, a1, aw⟩ | ⟨a0, a1, aw⟩
  all_goals
    rcases cls b with ⟨b0, b1, bw⟩ | ⟨b0, b1, bw⟩ | ⟨b0, b1, bw⟩ | ⟨b0, b1, bw⟩
    all_goals
      go_enter Try.func47, Try.ntmps47
      go_wp2_with (go_at_call 46; refine (pub_word _ _).mono ?_; rintro e w' ⟨rfl, rfl⟩)
      go_ret
      refine ⟨?_, rfl⟩
      refine ret_int ?_
      rw [ctxN, a0, a1, aw, b0, b1, bw]
      rfl
theorem impl_context (a b : Int) (w : World) : Calls Try.prog 16 #[.int .i32 a, .int .i32 b] w fun e w' => e = .returned (.int .i64 (ctxN a b)) ∧ w = w' := by
  go_enter Try.func16, Try.ntmps16
  go_wp2_with (go_at_call 47; refine (pub_context _ _ _).mono ?_; rintro e w' ⟨rfl, rfl⟩)
  go_ret
  exact ⟨ret_int (ctx_wrap a b), rfl⟩

theorem law_context (a b : Int) (w : World) : Calls Try.prog 4 #[.int .i32 a, .int .i32 b] w fun e w' => e = .returned (.bool true) ∧ Below w.heap.size w w' := by
  have ha : decide (a < -1) = true ∨ decide (a < -1) = false := by cases decide (a < -1) <;> simp
  have hb : decide (b < -1) = true ∨ decide (b < -1) = false := by cases decide (b < -1) <;> simp
  rcases ha with ha | ha
  · go_enter Try.func4, Try.ntmps4
    go_wp2_with fail
    go_ret
    exact ⟨rfl, Below.refl _ _⟩
  · rcases hb with hb | hb
    · go_enter Try.func4, Try.ntmps4
      go_wp2_with fail
      go_ret
      exact ⟨rfl, Below.refl _ _⟩
    · go_enter Try.func4, Try.ntmps4
      go_wp2_with (first | (go_at_call 16; refine (impl_context _ _ _).mono ?_; rintro e w' ⟨rfl, rfl⟩) | (go_at_call 17; refine (spec_context _ _ _).mono ?_; rintro e w' ⟨rfl, hb⟩))
      go_ret
      exact ⟨ret_bool (by simp), by assumption⟩
end Go.Proofs.Ytejhffcjamdffaa
