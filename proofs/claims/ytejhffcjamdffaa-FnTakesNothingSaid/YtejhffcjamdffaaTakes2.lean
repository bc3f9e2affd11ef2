/-
  The contracts of TakesNothing and of the law FnTakesNothing. Condition of the first: one of the six conditions, and the runes are not below -1; of the law: none.
-/
import Derived.Test.YtejhffcjamdffaaTakes
namespace Go.Proofs.Ytejhffcjamdffaa
open Go.RowKit

theorem runes_nil (w : World) : Runes w (.slice none 0 0) [] := ⟨by simp, .inl ⟨rfl, rfl⟩⟩
theorem bd_nil (B : Nat) : Bd B (.slice none 0 0) := fun k hk => by simp [Value.ownBlock] at hk

set_option maxHeartbeats 2000000 in
theorem takes_nothing (op m a b : Int) (w : World) (hm : m = 1 ∨ m = 2 ∨ m = 4 ∨ m = 8 ∨ m = 16 ∨ m = 32) (ha : -1 ≤ a) (hb : -1 ≤ b) :
    Calls Try.prog 18 #[.agg #[.int .i64 op, .int .i64 0, .int .i64 m, .slice none 0 0], .int .i32 a, .int .i32 b] w fun e w' => e = .returned (.bool (holdsB m a b)) ∧ Below w.heap.size w w' := by
  have HM : Hid (m = 1 ∨ m = 2 ∨ m = 4 ∨ m = 8 ∨ m = 16 ∨ m = 32) := hm
  have hw : Hid (IntKind.u32.wrap m = m) := by rcases hm with rfl | rfl | rfl | rfl | rfl | rfl <;> rfl
  clear hm
  go_enter Try.func18, Try.ntmps18
  go_wp2_with (first
    | (go_at_call 48; refine (inst_of op 0 m _ [] _ (runes_nil _) (bd_nil _) (by simp)).mono ?_; rintro e w1 ⟨v', rfl, hown, hbel⟩; obtain ⟨ao, c, rfl⟩ := owns_slice hown; rw [hw.out])
    | (go_at_call 49; refine (match_empty m a b _ _ HM.out ha hb ?_).mono ?_))
  · simp [go_sem]
  · rintro e w2 ⟨rfl, rfl⟩
    go_wp2
    go_ret
    exact ⟨rfl, ((below1 w _).trans (hbel.mono (by simp))).alloc (by have := hbel.size; simp at this; omega) _⟩

theorem bit_of (m : Int) (a b : Int) : (bits BinOp.and IntKind.i64 (ctxN a b) m != 0) = holdsB m a b := rfl

set_option maxHeartbeats 4000000 in
theorem law_takes (k a b : Int) (w : World) (hk : 0 ≤ k) :
    Calls Try.prog 5 #[.int .u8 k, .int .i32 a, .int .i32 b] w fun e w' => e = .returned (.bool true) ∧ Below w.heap.size w w' := by
  have ha : decide (a < -1) = true ∨ decide (a < -1) = false := by cases decide (a < -1) <;> simp
  have hb : decide (b < -1) = true ∨ decide (b < -1) = false := by cases decide (b < -1) <;> simp
  rcases ha with ha | ha
  · go_enter Try.func5, Try.ntmps5
    go_wp2_with fail
    go_ret
    exact ⟨rfl, Below.refl _ _⟩
  · rcases hb with hb | hb
    · go_enter Try.func5, Try.ntmps5
      go_wp2_with fail
      go_ret
      exact ⟨rfl, Below.refl _ _⟩
    · have ha' : -1 ≤ a := by simpa using ha
      have hb' : -1 ≤ b := by simpa using hb
      have hm : k % 6 = 0 ∨ k % 6 = 1 ∨ k % 6 = 2 ∨ k % 6 = 3 ∨ k % 6 = 4 ∨ k % 6 = 5 := by omega
      have HA : Hid (-1 ≤ a) := ha'
      have HB : Hid (-1 ≤ b) := hb'
      clear ha' hb'
      rcases hm with hm | hm | hm | hm | hm | hm
      all_goals
        go_enter Try.func5, Try.ntmps5
        go_wp2_with (first | (go_at_call 18; refine (takes_nothing _ _ _ _ _ (by decide) HA.out HB.out).mono ?_; rintro e w1 ⟨rfl, h1⟩) | (go_at_call 17; refine (spec_context _ _ _).mono ?_; rintro e w2 ⟨rfl, h2⟩))
        go_ret
        refine ⟨ret_bool ?_, h1.trans (h2.mono h1.size)⟩
        rw [bit_of]
        simp
end Go.Proofs.Ytejhffcjamdffaa
