/-
  What nodeOk asks of a node, in plain words; the lemmas by which its walk closes each way. No conditions.
-/
import Derived.Test.YtejhffcjamdffaaTop
namespace Go.Proofs.Ytejhffcjamdffaa
open Go.RowKit

/-- What the first test of nodeOk lets by. -/
structure NodeTop (nd : Nd) : Prop where
  fold : nd.fold = true → nd.op = 3
  lazy : nd.lazy = true → 14 ≤ nd.op ∧ nd.op ≤ 17
  bounds : nd.op ≠ 17 → nd.mn = 0 ∧ nd.mx = 0
  group : nd.op ≠ 13 → nd.cap = 0 ∧ nd.name.toList = []
  runes : nd.op ≠ 3 → nd.op ≠ 4 → nd.runes.length = 0

theorem top_of (nd : Nd) (h : false = topB nd) : NodeTop nd := by
  have h := h.symm
  simp only [topB, Bool.or_eq_false_iff, Bool.and_eq_false_iff, decide_eq_false_iff_not, bne_eq_false_iff_eq, Bool.not_eq_false', List.isEmpty_iff] at h
  obtain ⟨⟨⟨⟨h1, h2⟩, h3⟩, h4⟩, h5⟩ := h
  refine ⟨fun hf => ?_, fun hl => ?_, fun ho => ?_, fun ho => ?_, fun ho ho' => ?_⟩
  · rcases h1 with h1 | h1
    · rw [h1] at hf; cases hf
    · exact h1
  · rcases h2 with h2 | h2
    · rw [h2] at hl; cases hl
    · omega
  · rcases h3 with h3 | h3
    · exact h3
    · exact absurd h3 ho
  · rcases h4 with h4 | h4
    · exact h4
    · exact absurd h4 ho
  · rcases h5 with (h5 | h5) | h5
    · omega
    · exact absurd h5 ho
    · exact absurd h5 ho'

/-- What nodeOk asks of a node by itself. -/
structure NodeSelf (nd : Nd) : Prop where
  top : NodeTop nd
  range : 1 ≤ nd.op ∧ nd.op ≤ 19
  lit : nd.op = 3 → 1 ≤ nd.runes.length ∧ nd.runes.length ≤ 10
  leaf : nd.op ≤ 12 → nd.subs.length = 0
  one : 13 ≤ nd.op → nd.op ≤ 17 → nd.subs.length = 1
  cap : nd.op = 13 → 1 ≤ nd.cap ∧ nd.cap ≤ 30 ∧ nd.name.size ≤ 10
  rep : nd.op = 17 → 0 ≤ nd.mn ∧ nd.mn ≤ 1000 ∧ (nd.mx = -1 ∨ nd.mn ≤ nd.mx ∧ nd.mx ≤ 1000)
  many : 18 ≤ nd.op → 2 ≤ nd.subs.length

/-- What nodeOk asks of a tree. -/
def OkF : Nat → Nd → Prop
  | 0, _ => False
  | d + 1, nd => NodeSelf nd ∧ ∀ s, s ∈ nd.subs → OkF d s

/-- The classes of operators, by what the tests of the switch see; each with its range. -/
theorem op_classes (op : Int) : (op = 3 ∧ Hid (op = 3)) ∨ (op = 4 ∧ Hid (op = 4)) ∨ (((op == 3) = false ∧ (op == 4) = false ∧ decide (1 ≤ op) = true ∧ decide (op ≤ 12) = true ∧ Hid (1 ≤ op ∧ op ≤ 12 ∧ op ≠ 3))) ∨ (op = 13 ∧ Hid (op = 13)) ∨
    ((op == 3) = false ∧ (op == 4) = false ∧ decide (1 ≤ op) = true ∧ decide (op ≤ 12) = false ∧ (op == 13) = false ∧ decide (14 ≤ op) = true ∧ decide (op ≤ 16) = true ∧ Hid (14 ≤ op ∧ op ≤ 16)) ∨ (op = 17 ∧ Hid (op = 17)) ∨ (op = 18 ∧ Hid (op = 18)) ∨ (op = 19 ∧ Hid (op = 19)) ∨
    ((op == 3) = false ∧ (op == 4) = false ∧ decide (1 ≤ op) = true ∧ decide (op ≤ 12) = false ∧ (op == 13) = false ∧ decide (14 ≤ op) = true ∧ decide (op ≤ 16) = false ∧ (op == 17) = false ∧ (op == 18) = false ∧ (op == 19) = false ∧ Hid (20 ≤ op)) ∨
    ((op == 3) = false ∧ (op == 4) = false ∧ decide (1 ≤ op) = false ∧ (op == 13) = false ∧ decide (14 ≤ op) = false ∧ (op == 17) = false ∧ (op == 18) = false ∧ (op == 19) = false ∧ Hid (op ≤ 0)) := by
  have h : op = 3 ∨ op = 4 ∨ (1 ≤ op ∧ op ≤ 12 ∧ op ≠ 3 ∧ op ≠ 4) ∨ op = 13 ∨ (14 ≤ op ∧ op ≤ 16) ∨ op = 17 ∨ op = 18 ∨ op = 19 ∨ 20 ≤ op ∨ op ≤ 0 := by omega
  rcases h with h | h | ⟨h1, h2, h3, h4⟩ | h | ⟨h1, h2⟩ | h | h | h | h | h
  · exact .inl ⟨h, h⟩
  · exact .inr (.inl ⟨h, h⟩)
  · exact .inr (.inr (.inl ⟨by simp <;> omega, by simp <;> omega, by simp <;> omega, by simp <;> omega, ⟨h1, h2, h3⟩⟩))
  · exact .inr (.inr (.inr (.inl ⟨h, h⟩)))
  · exact .inr (.inr (.inr (.inr (.inl ⟨by simp <;> omega, by simp <;> omega, by simp <;> omega, by simp <;> omega, by simp <;> omega, by simp <;> omega, by simp <;> omega, ⟨h1, h2⟩⟩))))
  · exact .inr (.inr (.inr (.inr (.inr (.inl ⟨h, h⟩)))))
  · exact .inr (.inr (.inr (.inr (.inr (.inr (.inl ⟨h, h⟩))))))
  · exact .inr (.inr (.inr (.inr (.inr (.inr (.inr (.inl ⟨h, h⟩)))))))
  · exact .inr (.inr (.inr (.inr (.inr (.inr (.inr (.inr (.inl ⟨by simp <;> omega, by simp <;> omega, by simp <;> omega, by simp <;> omega, by simp <;> omega, by simp <;> omega, by simp <;> omega, by simp <;> omega, by simp <;> omega, by simp <;> omega, h⟩))))))))
  · exact .inr (.inr (.inr (.inr (.inr (.inr (.inr (.inr (.inr ⟨by simp <;> omega, by simp <;> omega, by simp <;> omega, by simp <;> omega, by simp <;> omega, by simp <;> omega, by simp <;> omega, by simp <;> omega, h⟩))))))))
end Go.Proofs.Ytejhffcjamdffaa
